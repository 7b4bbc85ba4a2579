/-
  The walk of cloneRuns (7), where every row has an element.
-/
import Derived.Test.Qxb6602892aSmall
import Derived.Deep.OwnRows
import Derived.Lib.SliceRun
namespace Go.Proofs.Qxb6602892a
open Go.RowKit
attribute [local go_sem] run_store_float

theorem info25 : (Try.prog.info? 25).map (fun i => (i.zero, i.size, i.bytes)) = some (some (.slice none 0 0), 1, 24) := by kernel_rfl
theorem info26 : (Try.prog.info? 26).map (fun i => (i.zero, i.size, i.bytes)) = some (some (.float .f64 0), 1, 8) := by kernel_rfl

/-- The clone after k rows: out in block H, row r in block H + 1 + r. -/
structure CInv (w : World) (n : Nat) (L : Nat → Nat) (F : Nat → Nat → Nat) (k : Nat) (wr : World) : Prop where
  size : wr.heap.size = w.heap.size + 1 + k
  below : Below w.heap.size w wr
  outer : wr.rowIs w.heap.size 25 n (fun r => if r < k then .slice (some ⟨w.heap.size + 1 + r, 0, none⟩) (L r) (L r) else .slice none 0 0)
  rows : ∀ r, r < k → wr.rowIs (w.heap.size + 1 + r) 26 (L r) (fun c => .float .f64 (F r c))
/-- .. and m figures of row k. -/
structure CIn (w : World) (n : Nat) (L : Nat → Nat) (F : Nat → Nat → Nat) (k m : Nat) (wr : World) : Prop where
  size : wr.heap.size = w.heap.size + 1 + k + 1
  below : Below w.heap.size w wr
  outer : wr.rowIs w.heap.size 25 n (fun r => if r < k then .slice (some ⟨w.heap.size + 1 + r, 0, none⟩) (L r) (L r) else .slice none 0 0)
  rows : ∀ r, r < k → wr.rowIs (w.heap.size + 1 + r) 26 (L r) (fun c => .float .f64 (F r c))
  row : wr.rowIs (w.heap.size + 1 + k) 26 (L k) (fun c => if c < m then .float .f64 (F k c) else .float .f64 0)

theorem CInv.start (w : World) (n : Nat) (L : Nat → Nat) (F : Nat → Nat → Nat) : CInv w n L F 0 (w.alloc (.cells (madeCells #[.slice none 0 0] n) 25)) where
  size := by simp
  below := (Below.refl _ _).alloc (Nat.le_refl _) _
  outer := (World.rowIs_made w (.slice none 0 0) n 25).congr (fun i _ => by simp)
  rows := fun r hr => absurd hr (Nat.not_lt_zero _)
theorem CInv.new {w : World} {n : Nat} {L : Nat → Nat} {F : Nat → Nat → Nat} {k : Nat} {wr : World} (h : CInv w n L F k wr) : CIn w n L F k 0 (wr.alloc (.cells (madeCells #[.float .f64 0] (L k)) 26)) where
  size := by simp [h.size]
  below := h.below.alloc (by rw [h.size]; omega) _
  outer := h.outer.alloc _
  rows := fun r hr => (h.rows r hr).alloc _
  row := by rw [← h.size]; exact (World.rowIs_made wr (.float .f64 0) (L k) 26).congr (fun i _ => by simp)
theorem CIn.step {w : World} {n : Nat} {L : Nat → Nat} {F : Nat → Nat → Nat} {k m : Nat} {wr : World} (h : CIn w n L F k m wr) : CIn w n L F k (m + 1) (wr.setCell ⟨w.heap.size + 1 + k, m, none⟩ (.float .f64 (F k m))) where
  size := by simp [World.setCell, h.size]
  below := h.below.setCell (show w.heap.size ≤ w.heap.size + 1 + k by omega) _
  outer := h.outer.setOther (show w.heap.size ≠ w.heap.size + 1 + k by omega) _
  rows := fun r hr => (h.rows r hr).setOther (show w.heap.size + 1 + r ≠ w.heap.size + 1 + k by omega) _
  row := (h.row.set m _).congr (fun c _ => by
    by_cases e : c = m
    · subst e; simp
    · rw [if_neg e]
      by_cases hc : c < m
      · rw [if_pos hc, if_pos (by omega)]
      · rw [if_neg hc, if_neg (by omega)])
theorem CIn.done {w : World} {n : Nat} {L : Nat → Nat} {F : Nat → Nat → Nat} {k : Nat} {wr : World} (h : CIn w n L F k (L k) wr) : CInv w n L F (k + 1) (wr.setCell ⟨w.heap.size, k, none⟩ (.slice (some ⟨w.heap.size + 1 + k, 0, none⟩) (L k) (L k))) where
  size := by simp [World.setCell, h.size]; omega
  below := h.below.setCell (show w.heap.size ≤ w.heap.size from Nat.le_refl _) _
  outer := (h.outer.set k _).congr (fun r _ => by
    by_cases e : r = k
    · subst e; simp
    · rw [if_neg e]
      by_cases hc : r < k
      · rw [if_pos hc, if_pos (by omega)]
      · rw [if_neg hc, if_neg (by omega)])
  rows := fun r hr => by
    by_cases e : r = k
    · subst e
      exact (h.row.congr (fun c hc => by rw [if_pos hc])).setOther (show w.heap.size + 1 + r ≠ w.heap.size by omega) _
    · exact (h.rows r (by omega)).setOther (show w.heap.size + 1 + r ≠ w.heap.size by omega) _

set_option maxHeartbeats 2000000 in
theorem clone_any (b off n cap : Nat) (B O L C : Nat → Nat) (F : Nat → Nat → Nat) (w : World) (hn : n ≤ 4096) (hL : ∀ r, r < n → 1 ≤ L r ∧ L r ≤ 131072)
    (hO : ∀ r, r < n → w.cell? ⟨b, off + r, none⟩ = some (.slice (some ⟨B r, O r, none⟩) (L r) (C r))) (hI : ∀ r c, r < n → c < L r → w.cell? ⟨B r, O r + c, none⟩ = some (.float .f64 (F r c))) (hb : b < w.heap.size) (hBl : ∀ r, r < n → B r < w.heap.size) :
    Calls Try.prog 7 #[.slice (some ⟨b, off, none⟩) n cap] w fun e w' => e = .returned (.slice (some ⟨w.heap.size, 0, none⟩) n n) ∧ CInv w n L F n w' := by
  have HO := hide hO
  have HI := hide hI
  have HL := hide hL
  have HB := hide hBl
  have HS := hide (CInv.start w n L F)
  have he := fun W a l c => Lib.run_eql_slice_nil (P := Try.prog) W 22 25 (some a) l c 0 0 Try.underlying22
  have he2 := fun W a l c => Lib.run_eql_slice_nil (P := Try.prog) W 25 26 (some a) l c 0 0 Try.underlying25
  have hm1 := fun W => run_make_row' (P := Try.prog) 22 25 (.slice none 0 0) 24 Try.underlying22 info25 rfl .i64 .i64 n (by omega) (by omega) W
  clear hO hI hL hBl
  go_enter Try.func7, Try.ntmps7
  go_wp2
  go_loopw [4] (fun v wr => ∃ k : Nat, k ≤ n ∧ v = .int .i64 k ∧ Hid (CInv w n L F k wr)) (fun v _ => n - (RowKit.intOf v).toNat)
  case atStart => exact ⟨0, Nat.zero_le _, rfl, HS.out⟩
  case round =>
    obtain ⟨k, hk, rfl, HV⟩ := hrel
    by_cases hlt : k < n
    · have h0 : wr.cell? ⟨b, off + k, none⟩ = some (.slice (some ⟨B k, O k, none⟩) (L k) (C k)) := (HV.out.below.cell (p := ⟨b, off + k, none⟩) hb).trans (HO.out k hlt)
      have hLk := HL.out k hlt
      have hm2 := fun W => run_make_row' (P := Try.prog) 25 26 (.float .f64 0) 8 Try.underlying25 info26 rfl .i64 .i64 (L k) (by omega) (by omega) W
      have HN := hide HV.out.new
      have hsz := HV.out.size
      have hfz : wr.frozen? ⟨w.heap.size, k, none⟩ = false := HV.out.outer.frozen k
      clear HS
      go_wp2
      clear hsz hfz h0 HV hm2
      go_loopw [7] (fun v wr2 => ∃ m : Nat, m ≤ L k ∧ v = .int .i64 m ∧ Hid (CIn w n L F k m wr2)) (fun v _ => L k - (RowKit.intOf v).toNat)
      case atStart => exact ⟨0, Nat.zero_le _, rfl, HN.out⟩
      case round =>
        obtain ⟨m, hm, rfl, HC⟩ := hrel
        by_cases hlt2 : m < L k
        · have h0 : wr.cell? ⟨B k, O k + m, none⟩ = some (.float .f64 (F k m)) := (HC.out.below.cell (p := ⟨B k, O k + m, none⟩) (HB.out k hlt)).trans (HI.out k m hlt hlt2)
          have h1 : wr.cell? ⟨w.heap.size + 1 + k, m, none⟩ = some (.float .f64 0) := by
            have := HC.out.row.cell hlt2
            rwa [if_neg (by omega)] at this
          have h2 : wr.frozen? ⟨w.heap.size + 1 + k, m, none⟩ = false := HC.out.row.frozen m
          have HT := hide HC.out.step
          go_wp2
          go_roundw
          case rel => exact ⟨m + 1, by omega, by go_num, HT.out⟩
          case measure => simp [RowKit.intOf]; omega
        · obtain rfl : m = L k := by omega
          have h1 : wr.cell? ⟨w.heap.size, k, none⟩ = some (.slice none 0 0) := by
            have := HC.out.outer.cell hlt
            rwa [if_neg (by omega)] at this
          have h2 : wr.frozen? ⟨w.heap.size, k, none⟩ = false := HC.out.outer.frozen k
          have HT := hide HC.out.done
          go_wp2
          go_roundw
          case rel => exact ⟨k + 1, by omega, by go_num, HT.out⟩
          case measure => simp [RowKit.intOf]; omega
    · obtain rfl : k = n := by omega
      go_wp2
      go_ret
      exact ⟨rfl, HV.out⟩
end Go.Proofs.Qxb6602892a
