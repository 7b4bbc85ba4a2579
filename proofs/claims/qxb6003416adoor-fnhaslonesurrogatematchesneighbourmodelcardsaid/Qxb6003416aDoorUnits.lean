/-
  The walk of zzUnits (16).
-/
import Derived.Test.Qxb6003416aDoorClone
import Derived.Deep.QuietTactic
import Derived.BigQuiet
import Derived.Maps.AppendAt
namespace Go.Proofs.Qxb6003416aDoor
open Go.RowKit

theorem info21 : (Tryd.prog.info? 21).map (fun i => (i.zero, i.size, i.bytes)) = some (some (.int .i32 0), 1, 4) := by kernel_rfl

theorem unit_or {a b c d : Int} (ha : 0 ≤ a ∧ a ≤ 15) (hb : 0 ≤ b ∧ b ≤ 15) (hc : 0 ≤ c ∧ c ≤ 15) (hd : 0 ≤ d ∧ d ≤ 15) :
    bits .or .i32 (bits .or .i32 (a * 4096 + b * 256) (c * 16)) d = a * 4096 + b * 256 + c * 16 + d := by
  rw [or32 8 (a * 4096 + b * 256) (c * 16) (by omega) (by omega) (by omega) (by omega) (by omega), or32 4 (a * 4096 + b * 256 + c * 16) d (by omega) (by omega) (by omega) (by omega) (by omega)]

theorem below_drawn {B : Nat} {a v : World} (h : Below B a v) (q : Nat) : Below B a (v.drewN q) := ⟨h.os, h.tape, h.output, h.size, h.block⟩

/-- What holds at a round's head. -/
def UInv (x : Nat → Int) (n : Nat) (ts : List Int) (w : World) (k : Nat) (us : List Int) (wr : World) : Prop :=
  wr.ownsRow w.heap.size 21 1 (.slice (some ⟨w.heap.size, 0, none⟩) us.length n) us.length (us.map (Value.int .i32)) ∧ Below w.heap.size w wr ∧ us.length ≤ k ∧ ∃ t2, tk x n k = some t2 ∧ ts = us ++ t2

theorem UInv.step {x : Nat → Int} {n : Nat} {ts : List Int} {w : World} {k j : Nat} {us t2 t3 : List Int} {wr w0 w1 : World} {u : Int} (h : UInv x n ts w k us wr) (hj : k < j)
    (e0 : ts = us ++ t2) (e1 : t2 = u :: t3) (e4 : tk x n j = some t3)
    (hown : w1.ownsRow w.heap.size 21 1 (.slice (some ⟨w.heap.size, 0, none⟩) (us.length + 1) n) (us.length + 1) (us.map (Value.int .i32) ++ [.int .i32 u])) (hB0 : Below w.heap.size w w0) (hg : w0.grownBy w1 (some w.heap.size)) :
    UInv x n ts w j (us ++ [u]) w1 := by
  obtain ⟨_, hB, hl, _⟩ := h
  refine ⟨by simpa using hown, ?_, by simp; omega, t3, e4, by rw [e0, e1]; simp⟩
  exact hB0.grown hg hB0.size (by intro g hg'; cases hg'; exact Nat.le_refl _)

set_option maxHeartbeats 2000000 in
theorem units_any (x : Nat → Int) (n b off cap : Nat) (ts : List Int) (w : World) (hn : n ≤ 65536) (hr : ∀ i, 0 ≤ x i ∧ x i ≤ 255) (hc : ∀ i, i < n → w.cell? ⟨b, off + i, none⟩ = some (.int .u8 (x i))) (hb : b < w.heap.size) (hT : tk x n 0 = some ts) :
    Calls Tryd.prog 16 #[.slice (some ⟨b, off, none⟩) n cap] w fun e w' => ∃ g, e = .returned (.slice (some ⟨g, 0, none⟩) ts.length n) ∧ (∀ i, i < ts.length → w'.cell? ⟨g, 0 + i, none⟩ = some (.int .i32 (ts.getD i 0))) ∧ Below w.heap.size w w' := by
  have HC : Hid (∀ i, i < n → w.cell? ⟨b, off + i, none⟩ = some (.int .u8 (x i))) := hc
  have HR : Hid (∀ i, 0 ≤ x i ∧ x i ≤ 255) := hr
  have HT := hide hT
  clear hc hr hT
  obtain ⟨i0, hi, hz0, hz1, hz2⟩ := info_parts info21
  go_enter Tryd.func16, Tryd.ntmps16
  go_wp2_with (at_make; refine wpList_make_own _ rfl (.const (.int .i64 0)) (.tmp 7) 28 rfl w.heap.size 21 i0 (.int .i32 0) 1 Tryd.underlying28 hi hz0 hz1 .i64 .i64 _ n rfl rfl rfl (by rw [hz2]; omega) (by unfold maxLen; omega) (Nat.le_refl _) ?_; intro w1 hown hgrow; have HO := hide hown; have HG := hide hgrow; clear hown hgrow)
  go_loopw [3, 4] (fun v i wr => ∃ (k : Nat) (us : List Int), k ≤ n ∧ i = .int .i64 k ∧ v = .slice (some ⟨w.heap.size, 0, none⟩) us.length n ∧ Hid (UInv x n ts w k us wr)) (fun _ i _ => n - (intOf i).toNat)
  case atStart => exact ⟨0, [], Nat.zero_le _, rfl, rfl, HO.out, (Below.refl _ _).grown HG.out (Nat.le_refl _) (by intro g hg; cases hg), Nat.le_refl _, ts, HT.out, rfl⟩
  case round =>
    obtain ⟨k, us, hk, rfl, rfl, HI⟩ := hrel
    have hul : us.length ≤ k := HI.out.2.2.1
    by_cases hlt : k < n
    · have h0 : wr.cell? ⟨b, off + k, none⟩ = some (.int .u8 (x k)) := (HI.out.2.1.cell (p := ⟨b, off + k, none⟩) hb).trans (HC.out k hlt)
      have r0 := HR.out k
      obtain ⟨t2, hI2, hI3⟩ := HI.out.2.2.2
      have HI3 := hide hI3
      have HI2 := hide hI2
      have HS : Hid (∃ t2, tk x n k = some t2) := ⟨t2, hI2⟩
      rcases tk_inv hI2 hlt with ⟨c, t3, e1, e2⟩ | ⟨c, h1, u, t3, e1, e2⟩ | ⟨c, u, h6, hx, t3, e1, e2⟩
      · subst e1
        clear hI2 hI3
        have E2 := hide e2
        have cb : (x k != 92) = true := by simp [c]
        clear c e2
        go_wp2_with (at_builtin; refine wpList_append_fits _ rfl (.tmp 18) (.tmp 19) 28 rfl w.heap.size 21 i0 1 Tryd.underlying28 hi hz1 w.heap.size us.length n (us.map (Value.int .i32)) rfl (HI.out.1.alloc _) ⟨wr.heap.size, 0, none⟩ 1 1 [.int .i32 (-1)] rfl rfl (cell_one_new _ _ _) (by intro u hu; simp at hu; subst hu; rfl) (by omega) ?_; intro w2 hown hgrow; have HO2 := hide hown; have HG2 := hide hgrow; clear hown hgrow)
        go_roundw
        case rel => exact ⟨k + 1, us ++ [-1], by omega, by go_num, by simp, HI.out.step (by omega) HI3.out rfl E2.out HO2.out (HI.out.2.1.alloc HI.out.2.1.size _) HG2.out⟩
        case measure => simp [intOf]; omega
      · subst e1
        clear hI2 hI3
        have E2 := hide e2
        have C := hide c
        have cb : (x k != 92) = false := by simp [c]
        have ub : (x (k + 1) != 117) = true := by simp [u]
        have h1' : wr.cell? ⟨b, off + (k + 1), none⟩ = some (.int .u8 (x (k + 1))) := (HI.out.2.1.cell (p := ⟨b, off + (k + 1), none⟩) hb).trans (HC.out (k + 1) h1)
        have r1 := HR.out (k + 1)
        clear c e2 u
        go_wp2_with (at_builtin; refine wpList_append_fits _ rfl (.tmp 29) (.tmp 30) 28 rfl w.heap.size 21 i0 1 Tryd.underlying28 hi hz1 w.heap.size us.length n (us.map (Value.int .i32)) rfl (HI.out.1.alloc _) ⟨wr.heap.size, 0, none⟩ 1 1 [.int .i32 (-1)] rfl rfl (cell_one_new _ _ _) (by intro u hu; simp at hu; subst hu; rfl) (by omega) ?_; intro w2 hown hgrow; have HO2 := hide hown; have HG2 := hide hgrow; clear hown hgrow)
        go_roundw
        case rel => exact ⟨k + 2, us ++ [-1], by omega, by go_num, by simp, HI.out.step (by omega) HI3.out rfl E2.out HO2.out (HI.out.2.1.alloc HI.out.2.1.size _) HG2.out⟩
        case measure => simp [intOf]; omega
      · subst e1
        clear hI2 hI3
        have E2 := hide e2
        have cb : (x k != 92) = false := by simp [c]
        have ub : (x (k + 1) != 117) = false := by simp [u]
        have hcell : ∀ j, j < n → wr.cell? ⟨b, off + j, none⟩ = some (.int .u8 (x j)) := fun j hj => (HI.out.2.1.cell (p := ⟨b, off + j, none⟩) hb).trans (HC.out j hj)
        have h1' := hcell (k + 1) (by omega)
        have h2' := hcell (k + 2) (by omega)
        have h3' := hcell (k + 3) (by omega)
        have h4' := hcell (k + 4) (by omega)
        have h5' := hcell (k + 5) (by omega)
        have r1 := HR.out (k + 1)
        have b2 := hexV_bd hx.1
        have b3 := hexV_bd hx.2.1
        have b4 := hexV_bd hx.2.2.1
        have b5 := hexV_bd hx.2.2.2
        have HX := hide hx
        have HU : Hid (bits .or .i32 (bits .or .i32 (hexV (x (k + 2)) * 4096 + hexV (x (k + 3)) * 256) (hexV (x (k + 4)) * 16)) (hexV (x (k + 5))) = unit (x (k + 2)) (x (k + 3)) (x (k + 4)) (x (k + 5))) := unit_or b2 b3 b4 b5
        clear c e2 u hcell hx
        go_wp2_with fail
        go_quiet ((go_at_call 22; first | exact Calls.quiet_of_same (hexVal_any _ _ HX.out.1) | exact Calls.quiet_of_same (hexVal_any _ _ HX.out.2.1) | exact Calls.quiet_of_same (hexVal_any _ _ HX.out.2.2.1) | exact Calls.quiet_of_same (hexVal_any _ _ HX.out.2.2.2)))
        rw [HU.out]
        generalize hu : unit (x (k + 2)) (x (k + 3)) (x (k + 4)) (x (k + 5)) = u at HI3 HI2
        clear hu
        go_wp2_with (at_builtin; refine (wpList_append_fits _ rfl (.tmp 64) (.tmp 66) 28 rfl w.heap.size 21 i0 1 Tryd.underlying28 hi hz1 w.heap.size us.length n (us.map (Value.int .i32)) rfl (by exact HI.out.1.alloc _) ⟨wr.heap.size, 0, none⟩ 1 1 [.int .i32 u] rfl rfl (by exact cell_one_new wr (.int .i32 u) 21) (by intro u hu; simp at hu; subst hu; rfl) (by omega) ?_); intro w2 hown hgrow; have HO2 := hide hown; have HG2 := hide hgrow; clear hown hgrow)
        go_roundw
        case rel => exact ⟨k + 6, us ++ [u], by omega, by go_num, by simp, HI.out.step (by omega) HI3.out rfl E2.out HO2.out ((below_drawn HI.out.2.1 nq).alloc HI.out.2.1.size (.cells #[.int .i32 u] 21)) HG2.out⟩
        case measure => simp [intOf]; omega
    · go_wp2
      go_ret
      obtain ⟨hO, hB, _, t2, e1, rfl⟩ := HI.out
      rw [tk_end (by omega)] at e1
      obtain rfl := Option.some.inj e1
      simp only [List.append_nil]
      exact ⟨_, rfl, fun i hi => by rw [Nat.zero_add, hO.cellAt i (by omega)]; simp [hi], hB⟩
end Go.Proofs.Qxb6003416aDoor
