/-
  The walk of zzClone (8).
-/
import Derived.Test.Qxb6003416aDoorPure
import Derived.Lib.SliceRun
import Derived.Laws.CopyOwn
import Derived.Laws.OwnMore
namespace Go.Proofs.Qxb6003416aDoor
open Go.RowKit

theorem info5 : (Tryd.prog.info? 5).map (fun i => (i.zero, i.size, i.bytes)) = some (some (.int .u8 0), 1, 1) := by kernel_rfl

theorem hide {p : Prop} (h : p) : Hid p := h

/-- What 'make' laid: a row of n cells. -/
theorem made_row {w : World} {B n : Nat} {zs : List Value} (h : w.ownsRow B 5 1 (.slice (some ⟨B, 0, none⟩) n n) n zs) : ∃ cur : List Value, w.heap[B]? = some (.cells cur.toArray 5 (0, 0)) ∧ cur.length = n := by
  rcases h.2 with ⟨h', _⟩ | ⟨g', cap', cur, h', _, hg, _, _, hs, _⟩
  · simp at h'
  · simp only [Value.slice.injEq, Option.some.injEq, Addr.mk.injEq, and_true, true_and] at h'
    obtain ⟨rfl, rfl⟩ := h'
    exact ⟨cur.toList, by simpa using hg, by simpa using hs⟩

theorem size5 : (Tryd.prog.info? 5).map (·.size) = some 1 := by kernel_rfl

theorem cell_lt {w : World} {b o : Nat} {v : Value} (h : w.cell? ⟨b, o, none⟩ = some v) : b < w.heap.size := by
  unfold World.cell? at h
  cases hh : w.heap[b]? with
  | none => simp [hh] at h
  | some o => exact (Array.getElem?_eq_some_iff.1 hh).1

/-- The numbers as cells. -/
def cellsOf (x : Nat → Int) (n : Nat) : List Value := (List.range n).map fun i => Value.int .u8 (x i)
theorem cellsOf_len (x : Nat → Int) (n : Nat) : (cellsOf x n).length = n := by simp [cellsOf]
theorem cellsOf_at {x : Nat → Int} {n j : Nat} {v : Value} (h : (cellsOf x n)[j]? = some v) : j < n ∧ v = .int .u8 (x j) := by
  have hj : j < n := by
    have := (List.getElem?_eq_some_iff.1 h).1
    rwa [cellsOf_len] at this
  refine ⟨hj, ?_⟩
  simp [cellsOf, hj] at h
  exact h.symm
theorem cellsOf_one {x : Nat → Int} {n : Nat} : ∀ v ∈ cellsOf x n, v.oneCell' = true := by
  intro v hv
  simp only [cellsOf, List.mem_map] at hv
  obtain ⟨i, _, rfl⟩ := hv
  rfl
theorem src_cells {x : Nat → Int} {n b off : Nat} {w w1 : World} (hc : ∀ i, i < n → w.cell? ⟨b, off + i, none⟩ = some (.int .u8 (x i))) (hB : Below w.heap.size w w1) (j : Nat) (v : Value) (h : (cellsOf x n)[j]? = some v) : w1.cell? ((⟨b, off, none⟩ : Addr).add j) = some v := by
  obtain ⟨hj, rfl⟩ := cellsOf_at h
  have h1 := hc j hj
  have e : (⟨b, off, none⟩ : Addr).add j = ⟨b, off + j, none⟩ := by simp [Addr.add]
  rw [e]
  exact (hB.cell (p := ⟨b, off + j, none⟩) (cell_lt h1)).trans h1
theorem splice_all {L cs : List Value} (h : cs.length = L.length) : splice L 0 cs = cs := by
  simp [splice, h]

set_option maxHeartbeats 1000000 in
theorem clone_any (x : Nat → Int) (n b off cap : Nat) (w : World) (hn : n ≤ 65536) (hc : ∀ i, i < n → w.cell? ⟨b, off + i, none⟩ = some (.int .u8 (x i))) :
    Calls Tryd.prog 8 #[.slice (some ⟨b, off, none⟩) n cap] w fun e w' => ∃ g, e = .returned (.slice (some ⟨g, 0, none⟩) n n) ∧ w.heap.size ≤ g ∧ g < w'.heap.size ∧ (∀ i, i < n → w'.cell? ⟨g, 0 + i, none⟩ = some (.int .u8 (x i))) ∧ Below w.heap.size w w' := by
  have HC : Hid (∀ i, i < n → w.cell? ⟨b, off + i, none⟩ = some (.int .u8 (x i))) := hc
  clear hc
  obtain ⟨i0, hi, hz0, hz1, hz2⟩ := info_parts info5
  go_enter Tryd.func8, Tryd.ntmps8
  have he := Lib.run_eql_slice_nil (P := Tryd.prog) w 22 5 (some ⟨b, off, none⟩) n cap 0 0 Tryd.underlying22
  go_wp2_with (first
    | (at_make; refine (wpList_make_full _ rfl (.tmp 7) (.tmp 7) 22 rfl w.heap.size 5 i0 (.int .u8 0) 1 Tryd.underlying22 hi hz0 hz1 .i64 .i64 _ _ n rfl rfl rfl rfl (by rw [hz2]; omega) (by unfold maxLen; omega) (Nat.le_refl _) ?_); intro w1 hown hgrow; obtain ⟨cur, hcur, hlen⟩ := made_row hown; have hB1 : Below w.heap.size w w1 := (Below.refl _ _).grown hgrow (Nat.le_refl _) (by intro g hg; cases hg); have HCU := hide hcur; have HL := hide hlen; have HB := hide hB1; clear hown hgrow hcur hlen hB1)
    | (have _t := HCU; refine wpList_copy_splice rfl (.tmp 9) (.tmp 10) 22 22 rfl 5 Tryd.underlying22 size5 (some ⟨w.heap.size, 0, none⟩) (some ⟨b, off, none⟩) n n n cap rfl rfl w.heap.size 0 cur 5 HCU.out (cellsOf x n) (by rw [cellsOf_len]; exact (Nat.min_self n).symm) (fun _ => ⟨rfl, _, rfl, src_cells HC.out HB.out⟩) (by rw [cellsOf_len, HL.out, Nat.zero_add]; exact Nat.le_refl _) cellsOf_one w.heap.size w HB.out (Nat.le_refl _) ?_; intro w2 H2 hB2; have HB2 := hide hB2; clear hB2 HCU))
  go_ret
  have e : splice cur 0 (cellsOf x n) = cellsOf x n := splice_all (by rw [cellsOf_len, HL.out])
  have h2 := H2.out
  rw [e] at h2
  refine ⟨_, rfl, Nat.le_refl _, (Array.getElem?_eq_some_iff.1 h2).1, fun i hi => ?_, HB2.out⟩
  have : (cellsOf x n)[i]? = some (.int .u8 (x i)) := by simp [cellsOf, hi]
  simp [World.cell?, h2, this]
end Go.Proofs.Qxb6003416aDoor
