/-
  The walk of ZZspread (8).
-/
import Derived.Test.Qxb6602892aSort
import Derived.Test.Qxb6602892aSpread
namespace Go.Proofs.Qxb6602892a
open Go.RowKit Go.Sort
attribute [local go_sem] run_store_float

theorem sort_said : SortSaid := fun blk off cap d w hH hb hs => sort_any blk off cap d w hH hb hs

set_option maxHeartbeats 2000000 in
theorem zz_any (b off n cap : Nat) (B O L C : Nat → Nat) (F : Nat → Nat → Nat) (I : Nat) (w : World) (hn1 : 1 ≤ n) (hn : n ≤ 4096) (hL : ∀ r, r < n → I < L r ∧ L r ≤ 131072)
    (hO : ∀ r, r < n → w.cell? ⟨b, off + r, none⟩ = some (.slice (some ⟨B r, O r, none⟩) (L r) (C r))) (hI : ∀ r c, r < n → c < L r → w.cell? ⟨B r, O r + c, none⟩ = some (.float .f64 (F r c))) (hb : b < w.heap.size) (hBl : ∀ r, r < n → B r < w.heap.size) :
    Calls Try.prog 8 #[.slice (some ⟨b, off, none⟩) n cap, .int .i64 I] w fun e w' => SpreadOk F n I e ∧ RowKit.Below w.heap.size w w' := by
  obtain ⟨w1, hw1⟩ : ∃ w1, w1 = w.alloc (.cells #[.float .f64 0, .float .f64 0, .float .f64 0] 28) := ⟨_, rfl⟩
  have hB1 : RowKit.Below w.heap.size w w1 := by rw [hw1]; exact (RowKit.Below.refl _ _).alloc (Nat.le_refl _) _
  have hz1 : w1.heap.size = w.heap.size + 1 := by rw [hw1]; simp
  have hS := spread_any sort_said b off n cap B O L C F I w1 hn1 hn hL (fun r hr => (hB1.cell (p := ⟨b, off + r, none⟩) hb).trans (hO r hr))
    (fun r c hr hc => (hB1.cell (p := ⟨B r, O r + c, none⟩) (hBl r hr)).trans (hI r c hr hc)) (by omega) (fun r hr => by have := hBl r hr; omega)
  have hcell : w1.heap[w.heap.size]? = some (.cells #[.float .f64 0, .float .f64 0, .float .f64 0] 28 (0, 0)) := by
    rw [hw1]
    show (w.heap.push _)[w.heap.size]? = _
    simp
  have HS := hide hS
  have HC := hide hcell
  have HB := hide hB1
  have HZ := hide hz1
  clear hS hO hI hL hBl hcell hB1 hz1
  go_enter Try.func8, Try.ntmps8
  go_wp2_with fail
  rw [← hw1]
  refine HS.out.mono ?_
  rintro e w2 ⟨⟨d, med, hp, hs, hm, rfl⟩, hB2⟩
  have HE : Hid (SpreadOk F n I (.returned (.agg #[.float .f64 med, .float .f64 d[0]!, .float .f64 d[n - 1]!]))) := ⟨d, med, hp, hs, hm, rfl⟩
  generalize d[0]! = lo at *
  generalize d[n - 1]! = hi at *
  have hr : w2.heap[w.heap.size]? = some (.cells #[.float .f64 0, .float .f64 0, .float .f64 0] 28 (0, 0)) := by
    rw [hB2.block _ (by rw [HZ.out]; omega)]; exact HC.out
  have r0 : w2.cell? ⟨w.heap.size, 0, none⟩ = some (.float .f64 0) := by simp [World.cell?, hr]
  have r1 : w2.cell? ⟨w.heap.size, 1, none⟩ = some (.float .f64 0) := by simp [World.cell?, hr]
  have r2 : w2.cell? ⟨w.heap.size, 2, none⟩ = some (.float .f64 0) := by simp [World.cell?, hr]
  have f0 : ∀ j, w2.frozen? ⟨w.heap.size, j, none⟩ = false := fun j => by simp [World.frozen?, hr]
  have HB2 : Hid (RowKit.Below w.heap.size w w2) := by
    have h2 := HB.out
    exact ⟨hB2.os.trans h2.os, hB2.tape.trans h2.tape, hB2.output.trans h2.output, by have := hB2.size; have := h2.size; omega, fun k hk => (hB2.block k (by rw [HZ.out]; omega)).trans (h2.block k hk)⟩
  clear hp hs hm hB2
  go_wp2_with fail
  refine bodyPost_ret (v := .agg #[.float .f64 med, .float .f64 lo, .float .f64 hi]) (by simp [results, Try.results8, go_sem, r0, r1, r2]) rfl ⟨HE.out, ?_⟩
  exact ((HB2.out.setCell (Nat.le_refl _) _).setCell (Nat.le_refl _) _).setCell (Nat.le_refl _) _
end Go.Proofs.Qxb6602892a
