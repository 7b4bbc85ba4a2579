/-
  The walk of bench.spread (14).
-/
import Derived.Test.Qxb6602892aClone
import Derived.Test.Qxb6602892aArith
import Derived.Sort.Statements
import Derived.Sort.Grow
import Derived.Deep.QuietTactic
import Derived.BigQuiet
import Derived.Deep.Cut
namespace Go.Proofs.Qxb6602892a
open Go.RowKit Go.Sort
attribute [local go_sem] run_store_float

/-- What slices.Sort at []float64 does (proved in the text on the sort). -/
def SortSaid : Prop := ∀ (blk off cap : Nat) (d : Array Nat) (w : World), Holds (Value.float .f64) w blk off d → blk < w.heap.size → d.size < 4611686018427387904 →
    Calls Try.prog 16 #[.slice (some ⟨blk, off, none⟩) d.size cap] w fun e w' => e = .returned (.tuple #[]) ∧ ∃ d' n os, PermIn 0 d.size d d' ∧ SortedIn ltF 0 d.size d' ∧ w' = grow (putRow (Value.float .f64) (Sort.ahead w n) blk off d') os

/-- Figure I of the runs. -/
def colOf (F : Nat → Nat → Nat) (n I : Nat) : Array Nat := (Array.range n).map fun r => F r I
theorem colOf_size (F : Nat → Nat → Nat) (n I : Nat) : (colOf F n I).size = n := by simp [colOf]
theorem colOf_at (F : Nat → Nat → Nat) {n I r : Nat} (h : r < n) : (colOf F n I)[r]! = F r I := by simp [colOf, h]

/-- After k figures: the result's block H, the values' block H + 1. -/
structure SInv (w : World) (n I : Nat) (F : Nat → Nat → Nat) (k : Nat) (wr : World) : Prop where
  size : wr.heap.size = w.heap.size + 2
  below : RowKit.Below w.heap.size w wr
  res : wr.heap[w.heap.size]? = some (.cells #[.float .f64 0, .float .f64 0, .float .f64 0] 28 (0, 0))
  row : wr.rowIs (w.heap.size + 1) 26 n (fun r => if r < k then .float .f64 (F r I) else .float .f64 0)

theorem SInv.start (w : World) (n I : Nat) (F : Nat → Nat → Nat) : SInv w n I F 0 ((w.alloc (.cells #[.float .f64 0, .float .f64 0, .float .f64 0] 28)).alloc (.cells (madeCells #[.float .f64 0] n) 26)) where
  size := by simp
  below := ((RowKit.Below.refl _ _).alloc (Nat.le_refl _) _).alloc (by simp) _
  res := by
    show ((w.heap.push _).push _)[w.heap.size]? = _
    simp [Array.getElem?_push]
  row := by
    have := World.rowIs_made (w.alloc (.cells #[.float .f64 0, .float .f64 0, .float .f64 0] 28)) (.float .f64 0) n 26
    have e : (w.alloc (.cells #[.float .f64 0, .float .f64 0, .float .f64 0] 28)).heap.size = w.heap.size + 1 := by simp
    rw [e] at this
    exact this.congr (fun i _ => by simp)
theorem SInv.step {w : World} {n I : Nat} {F : Nat → Nat → Nat} {k : Nat} {wr : World} (h : SInv w n I F k wr) : SInv w n I F (k + 1) (wr.setCell ⟨w.heap.size + 1, k, none⟩ (.float .f64 (F k I))) where
  size := by simp [World.setCell, h.size]
  below := h.below.setCell (show w.heap.size ≤ w.heap.size + 1 by omega) _
  res := by
    have : (wr.setCell ⟨w.heap.size + 1, k, none⟩ (.float .f64 (F k I))).heap[w.heap.size]? = wr.heap[w.heap.size]? := by
      simp [World.setCell, Array.getElem?_modify]
    rw [this]; exact h.res
  row := (h.row.set k _).congr (fun c _ => by
    by_cases e : c = k
    · subst e; simp
    · rw [if_neg e]
      by_cases hc : c < k
      · rw [if_pos hc, if_pos (by omega)]
      · rw [if_neg hc, if_neg (by omega)])
theorem SInv.holds {w : World} {n I : Nat} {F : Nat → Nat → Nat} {wr : World} (h : SInv w n I F n wr) : Holds (Value.float .f64) wr (w.heap.size + 1) 0 (colOf F n I) := fun j hj => by
  rw [colOf_size] at hj
  refine ⟨?_, by rw [Nat.zero_add]; exact h.row.frozen j⟩
  rw [Nat.zero_add, h.row.cell hj, if_pos hj, colOf_at F hj]

/-- Behind the sort. -/
structure SOut (w : World) (n : Nat) (G : Nat → Nat) (w2 : World) : Prop where
  below : RowKit.Below w.heap.size w w2
  lt : w.heap.size + 1 < w2.heap.size
  res : w2.heap[w.heap.size]? = some (.cells #[.float .f64 0, .float .f64 0, .float .f64 0] 28 (0, 0))
  cells : ∀ j, j < n → w2.cell? ⟨w.heap.size + 1, j, none⟩ = some (.float .f64 (G j))
theorem SInv.sorted {w : World} {n I : Nat} {F : Nat → Nat → Nat} {wr : World} (h : SInv w n I F n wr) (d' : Array Nat) (q : Nat) (os : Array Obj) (hp : PermIn 0 (colOf F n I).size (colOf F n I) d') :
    SOut w n (fun j => d'[j]!) (grow (putRow (Value.float .f64) (Sort.ahead wr q) (w.heap.size + 1) 0 d') os) := by
  have hH := h.holds
  have hs : d'.size = (colOf F n I).size := hp.1
  have hz : (putRow (Value.float .f64) (Sort.ahead wr q) (w.heap.size + 1) 0 d').heap.size = w.heap.size + 2 := by simp [h.size]
  have old : ∀ k, k < w.heap.size + 1 → (grow (putRow (Value.float .f64) (Sort.ahead wr q) (w.heap.size + 1) 0 d') os).heap[k]? = wr.heap[k]? := fun k hk => by
    rw [heap_grow_old _ _ (by rw [hz]; omega)]
    simp only [putRow, mapBlock, Array.getElem?_modify]
    rw [if_neg (by omega)]
    rfl
  refine ⟨⟨h.below.os, h.below.tape, h.below.output, ?_, fun k hk => (old k (by omega)).trans (h.below.block k hk)⟩, ?_, (old _ (by omega)).trans h.res, fun j hj => ?_⟩
  · simp [Sort.grow, hz]; omega
  · simp [Sort.grow, hz]; omega
  · have hj' : j < d'.size := by rw [hs, colOf_size]; exact hj
    rw [cell?_grow _ _ _ (by show w.heap.size + 1 < _; rw [hz]; omega)]
    have := cell?_putRow (Value.float .f64) (Sort.ahead wr q) (w.heap.size + 1) 0 (colOf F n I) d' (holds_ahead _ _ _ _ _ _ hH) hs j hj'
    rwa [Nat.zero_add] at this

theorem below_drawn {B : Nat} {a v : World} (h : RowKit.Below B a v) (q : Nat) : RowKit.Below B a (v.drewN q) := ⟨h.os, h.tape, h.output, h.size, h.block⟩

/-- The median of a sorted row. -/
def MedOf (d : Array Nat) (n med : Nat) : Prop := (n % 2 = 1 ∧ med = d[n / 2]!) ∨ (n % 2 = 0 ∧ ∃ s, AddOf d[n / 2 - 1]! d[n / 2]! s ∧ HalfOf s med)
/-- What spread returns. -/
def SpreadOk (F : Nat → Nat → Nat) (n I : Nat) (e : Ending) : Prop := ∃ (d : Array Nat) (med : Nat), PermIn 0 n (colOf F n I) d ∧ SortedIn ltF 0 n d ∧ MedOf d n med ∧
  e = .returned (.agg #[.float .f64 med, .float .f64 d[0]!, .float .f64 d[n - 1]!])

set_option maxHeartbeats 2000000 in
theorem spread_any (hsort : SortSaid) (b off n cap : Nat) (B O L C : Nat → Nat) (F : Nat → Nat → Nat) (I : Nat) (w : World) (hn1 : 1 ≤ n) (hn : n ≤ 4096) (hL : ∀ r, r < n → I < L r ∧ L r ≤ 131072)
    (hO : ∀ r, r < n → w.cell? ⟨b, off + r, none⟩ = some (.slice (some ⟨B r, O r, none⟩) (L r) (C r))) (hI : ∀ r c, r < n → c < L r → w.cell? ⟨B r, O r + c, none⟩ = some (.float .f64 (F r c))) (hb : b < w.heap.size) (hBl : ∀ r, r < n → B r < w.heap.size) :
    Calls Try.prog 14 #[.slice (some ⟨b, off, none⟩) n cap, .int .i64 I] w fun e w' => SpreadOk F n I e ∧ RowKit.Below w.heap.size w w' := by
  have HO := hide hO
  have HI := hide hI
  have HL := hide hL
  have HB := hide hBl
  have HS := hide (SInv.start w n I F)
  have hm1 := fun W => run_make_row' (P := Try.prog) 25 26 (.float .f64 0) 8 Try.underlying25 info26 rfl .i64 .i64 n (by omega) (by omega) W
  clear hO hI hL hBl
  go_enter Try.func14, Try.ntmps14
  go_wp2
  go_loopw [15] (fun v wr => ∃ k : Nat, k ≤ n ∧ v = .int .i64 k ∧ Hid (SInv w n I F k wr)) (fun v _ => n - (RowKit.intOf v).toNat)
  case atStart => exact ⟨0, Nat.zero_le _, rfl, HS.out⟩
  case round =>
    obtain ⟨k, hk, rfl, HV⟩ := hrel
    by_cases hlt : k < n
    · have h0 : wr.cell? ⟨b, off + k, none⟩ = some (.slice (some ⟨B k, O k, none⟩) (L k) (C k)) := (HV.out.below.cell (p := ⟨b, off + k, none⟩) hb).trans (HO.out k hlt)
      have hLk := HL.out k hlt
      have h1 : wr.cell? ⟨B k, O k + I, none⟩ = some (.float .f64 (F k I)) := (HV.out.below.cell (p := ⟨B k, O k + I, none⟩) (HB.out k hlt)).trans (HI.out k I hlt hLk.1)
      have h2 : wr.cell? ⟨w.heap.size + 1, k, none⟩ = some (.float .f64 0) := by
        have := HV.out.row.cell hlt
        rwa [if_neg (by omega)] at this
      have h3 : wr.frozen? ⟨w.heap.size + 1, k, none⟩ = false := HV.out.row.frozen k
      have HN := hide HV.out.step
      clear HS
      go_wp2
      go_roundw
      case rel => exact ⟨k + 1, by omega, by go_num, HN.out⟩
      case measure => simp [RowKit.intOf]; omega
    · obtain rfl : k = n := by omega
      have hs := hsort (w.heap.size + 1) 0 k (colOf F k I) wr HV.out.holds (by rw [HV.out.size]; omega) (by rw [colOf_size]; omega)
      have HP := hide hs
      rw [colOf_size] at HP
      clear hs
      go_wp2_with fail
      refine HP.out.mono ?_
      rintro e w2 ⟨rfl, d', q, os, hp, hsd, hw⟩
      have HQ := hide (HV.out.sorted d' q os (by rw [colOf_size]; exact hp))
      rw [← hw] at HQ
      have HPp := hide hp
      have HSd := hide hsd
      clear hw hp hsd HP HV
      obtain ⟨G, hG⟩ : ∃ G : Nat → Nat, G = fun j => d'[j]! := ⟨_, rfl⟩
      rw [← hG] at HQ
      have HG := hide hG
      clear hG
      have r0 : w2.cell? ⟨w.heap.size, 0, none⟩ = some (.float .f64 0) := by simp [World.cell?, HQ.out.res]
      have r1 : w2.cell? ⟨w.heap.size, 1, none⟩ = some (.float .f64 0) := by simp [World.cell?, HQ.out.res]
      have r2 : w2.cell? ⟨w.heap.size, 2, none⟩ = some (.float .f64 0) := by simp [World.cell?, HQ.out.res]
      have f0 : ∀ j, w2.frozen? ⟨w.heap.size, j, none⟩ = false := fun j => by simp [World.frozen?, HQ.out.res]
      have c0 := HQ.out.cells 0 (by omega)
      have cL := HQ.out.cells (k - 1) (by omega)
      have cm := HQ.out.cells (k / 2) (by omega)
      by_cases hpar : k % 2 = 1
      · go_wp2_with fail
        have hk1 : (0 : Int) < (k : Int) := by omega
        have hk2 : (k : Int) - 1 < (k : Int) := by omega
        have hk3 : (0 : Int) ≤ (k : Int) - 1 := by omega
        have hk4 : IntKind.i64.wrap ((k : Int) - 1) = (k : Int) - 1 := by rw [IntKind.wrap_i64]; omega
        have hk5 : ((k : Int) - 1).toNat = k - 1 := by omega
        have HM : Hid (SpreadOk F k I (.returned (.agg #[.float .f64 (G (k / 2)), .float .f64 (G 0), .float .f64 (G (k - 1))]))) := ⟨d', G (k / 2), HPp.out, HSd.out, Or.inl ⟨hpar, by rw [HG.out]⟩, by rw [HG.out]⟩
        go_region
        go_wp2
        refine bodyPost_ret (v := .agg #[.float .f64 (G (k / 2)), .float .f64 (G 0), .float .f64 (G (k - 1))]) (by simp [results, Try.results14, go_sem, r0, r1, r2]) rfl ⟨HM.out, ?_⟩
        exact (((HQ.out.below.setCell (Nat.le_refl _) _).setCell (Nat.le_refl _) _).setCell (Nat.le_refl _) _).drew
      · have cm1 := HQ.out.cells (k / 2 - 1) (by omega)
        obtain ⟨sv, i1, mv, i2, hadd, hdiv, hok⟩ := half_all Try.prog 26 (G (k / 2 - 1)) (G (k / 2))
        have HK := hide hok
        clear hok
        have HM : Hid (∀ W W', SpreadOk F k I (.returned (.agg #[.float .f64 (mv W W'), .float .f64 (G 0), .float .f64 (G (k - 1))]))) := fun W W' => ⟨d', mv W W', HPp.out, HSd.out, Or.inr ⟨by omega, sv W, by have := (HK.out W W').1; rwa [HG.out] at this, (HK.out W W').2⟩, by rw [HG.out]⟩
        have hk1 : (0 : Int) < (k : Int) := by omega
        have hk2 : (k : Int) - 1 < (k : Int) := by omega
        have hk3 : (0 : Int) ≤ (k : Int) - 1 := by omega
        have hk4 : IntKind.i64.wrap ((k : Int) - 1) = (k : Int) - 1 := by rw [IntKind.wrap_i64]; omega
        have hk5 : ((k : Int) - 1).toNat = k - 1 := by omega
        go_wp2_with fail
        go_region
        go_wp2_with fail
        go_region
        go_wp2
        have HN := HM.out w2.drew (w2.drewN (1 + i1))
        generalize mv w2.drew (w2.drewN (1 + i1)) = med at *
        refine bodyPost_ret (v := .agg #[.float .f64 med, .float .f64 (G 0), .float .f64 (G (k - 1))]) (by simp [results, Try.results14, go_sem, r0, r1, r2]) rfl ⟨HN, ?_⟩
        exact ((((below_drawn HQ.out.below (1 + i1 + i2 + 1)).setCell (Nat.le_refl _) _).setCell (Nat.le_refl _) _).setCell (Nat.le_refl _) _)
end Go.Proofs.Qxb6602892a
