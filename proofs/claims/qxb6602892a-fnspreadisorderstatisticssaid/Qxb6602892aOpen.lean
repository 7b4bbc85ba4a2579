/-
  The argument of type [][]float64, opened; and the laws' short ways out where it has no row.
-/
import Derived.Test.Qxb6602892aSmall
import Derived.Deep.Slices
import Derived.ProofKit
import Derived.OpenShut
namespace Go.Proofs.Qxb6602892a
open Go.ChangeShapes Go.WideShapes Go.ChangeAt Go.RowKit

theorem cells25 : Try.prog.cellsOf 25 = 1 := by kernel_rfl
theorem cells26 : Try.prog.cellsOf 26 = 1 := by kernel_rfl

theorem cell_block {w : World} {a : Addr} {v : Value} (h : w.cell? a = some v) : a.block < w.heap.size := World.block_lt_of_cell? _ _ h

section
variable {H : Type} {enc : TypeId × Value → H} {w : World} {base : Nat} {spare : Nat → Bool} {held : Bool}

theorem float_cell {fuel : Nat} {v : Value} {x : DataW H × List MemPlace} (h : DataW.trod enc Try.prog w base spare held fuel 26 [v] = some x) : ∃ b, v = .float .f64 b := by
  cases fuel with
  | zero => simp [DataW.trod] at h
  | succ n =>
    simp only [DataW.trod, Try.underlying26] at h
    cases v <;> simp at h
    rename_i k b
    exact ⟨b, by rw [h.1.1]⟩

/-- The rows, each by its index. -/
structure Runs (w : World) (a : Addr) (n : Nat) (A : Nat → Option Addr) (B O L C : Nat → Nat) (F : Nat → Nat → Nat) : Prop where
  outer : ∀ r, r < n → w.cell? (a.add r) = some (.slice (A r) (L r) (C r))
  addr : ∀ r, r < n → 1 ≤ L r → A r = some ⟨B r, O r, none⟩ ∧ B r < w.heap.size
  inner : ∀ r c, r < n → c < L r → w.cell? ⟨B r, O r + c, none⟩ = some (.float .f64 (F r c))

/-- One row. -/
def rowAt (w : World) (v : Value) : Option Addr × Nat × Nat × (Nat → Nat) → Prop := fun (a, l, c, f) => v = .slice a l c ∧ (1 ≤ l → ∃ b o, a = some ⟨b, o, none⟩ ∧ b < w.heap.size ∧ ∀ j, j < l → w.cell? ⟨b, o + j, none⟩ = some (.float .f64 (f j)))

theorem row_open {fuel : Nat} {v : Value} {x : DataW H × List MemPlace} (h : DataW.trod enc Try.prog w base spare held fuel 25 [v] = some x) : ∃ y, rowAt w v y := by
  rcases Deep.open_slice1 Try.underlying25 cells26 h with ⟨hc, _⟩ | ⟨a, len, cap, m, n, V, D, Pl, hc, _, hl, _, hm, _, hV⟩
  · simp only [List.cons.injEq, and_true] at hc
    exact ⟨(none, 0, 0, fun _ => 0), hc, fun h => absurd h (by decide)⟩
  · simp only [List.cons.injEq, and_true] at hc
    have hlm : len ≤ m := by rw [hm]; split <;> omega
    obtain ⟨f, hf⟩ := Deep.choose_lt (α := Nat) (p := fun i b => w.cell? (a.add i) = some (.float .f64 b)) (n := len) (fun i hi => by
      obtain ⟨h1, h2⟩ := hV i (by omega)
      obtain ⟨b, hb⟩ := float_cell h2
      exact ⟨b, by rw [h1, hb]⟩)
    refine ⟨(some a, len, cap, f), hc, fun h1 => ?_⟩
    obtain ⟨b, off, spot⟩ := a
    have hspot : spot = none := by simpa [Addr.add] using World.cell?_spot (hf 0 h1)
    subst hspot
    refine ⟨b, off, rfl, ?_, fun j hj => by rw [← Go.WideShapes.add_plain]; exact hf j hj⟩
    have := hf 0 h1
    rw [Go.WideShapes.add_plain] at this
    exact cell_block this

/-- The argument opened: nil, or its rows. -/
theorem runs_open {a0 : Option Addr} {len cap : Nat} {d : DataW H} {ps : List MemPlace} (h : DataW.Trod enc Try.prog w base spare held 22 (.slice a0 len cap) d ps) :
    len = 0 ∨ ∃ a A B O L C F, a0 = some a ∧ len ≤ maxLen ∧ Runs w a len A B O L C F := by
  obtain ⟨fuel, hf⟩ := h
  rcases Deep.open_slice1 Try.underlying22 cells25 hf with ⟨hc, _⟩ | ⟨a, len', cap', m, n, V, D, Pl, hc, _, hl, hmx, hm, _, hV⟩
  · simp only [Value.cells, List.cons.injEq, Value.slice.injEq, and_true] at hc
    exact Or.inl hc.2.1
  · simp only [Value.cells, List.cons.injEq, Value.slice.injEq, and_true] at hc
    obtain ⟨rfl, rfl, rfl⟩ := hc
    have hlm : len ≤ m := by rw [hm]; split <;> omega
    obtain ⟨y, hy⟩ := Deep.choose_lt (α := Option Addr × Nat × Nat × (Nat → Nat)) (p := fun i y => w.cell? (a.add i) = some (V i) ∧ rowAt w (V i) y) (n := len) (fun i hi => by
      obtain ⟨h1, h2⟩ := hV i (by omega)
      obtain ⟨y, hy⟩ := row_open h2
      exact ⟨y, h1, hy⟩)
    refine Or.inr ⟨a, fun i => (y i).1, fun i => ((y i).1.map (·.block)).getD 0, fun i => ((y i).1.map (·.off)).getD 0, fun i => (y i).2.1, fun i => (y i).2.2.1, fun i => (y i).2.2.2, rfl, by omega, ?_, ?_, ?_⟩
    · intro r hr
      rw [(hy r hr).1, (hy r hr).2.1]
    · intro r hr h1
      obtain ⟨b, o, e, hb, _⟩ := (hy r hr).2.2 h1
      simp only [e]
      exact ⟨rfl, hb⟩
    · intro r c hr hc
      obtain ⟨b, o, e, _, hx⟩ := (hy r hr).2.2 (Nat.lt_of_le_of_lt (Nat.zero_le c) hc)
      simp only [e]
      exact hx c hc
end

/-! ### No row at all -/
theorem bytes_median_zero (a : Option Addr) (cap : Nat) (i : Int) (w : World) : Calls Try.prog 13 #[.slice a 0 cap, .int .i64 i] w fun e w' => RetB e (fun _ => True) ∧ w' = w := by
  go_enter Try.func13, Try.ntmps13
  go_wp2
  go_loop [5, 6] (fun z i => z = .int .i64 0 ∧ i = .int .i64 0) (fun _ _ => 0)
  case atStart => exact ⟨rfl, rfl⟩
  case round =>
    obtain ⟨rfl, rfl⟩ := hrel
    go_wp2
    go_ret
    exact ⟨⟨_, rfl, trivial⟩, rfl⟩
theorem bytes_order_zero (a : Option Addr) (cap : Nat) (i : Int) (w : World) : Calls Try.prog 5 #[.slice a 0 cap, .int .i64 i] w fun e w' => RetB e (fun _ => True) ∧ w' = w := by
  go_enter Try.func5, Try.ntmps5
  go_wp2
  go_loop [5, 6] (fun z i => z = .int .i64 0 ∧ i = .int .i64 0) (fun _ _ => 0)
  case atStart => exact ⟨rfl, rfl⟩
  case round =>
    obtain ⟨rfl, rfl⟩ := hrel
    go_wp2
    go_ret
    exact ⟨⟨_, rfl, trivial⟩, rfl⟩
theorem domain_zero (a : Option Addr) (cap : Nat) (i : Int) (w : World) : Calls Try.prog 6 #[.slice a 0 cap, .int .i64 i] w fun e w' => e = .returned (.bool false) ∧ w' = w := by
  go_enter Try.func6, Try.ntmps6
  go_wp2
  go_loop [5, 6] (fun z i => z = .int .i64 0 ∧ i = .int .i64 0) (fun _ _ => 0)
  case atStart => exact ⟨rfl, rfl⟩
  case round =>
    obtain ⟨rfl, rfl⟩ := hrel
    go_wp2
    go_ret
    exact ⟨rfl, rfl⟩
theorem three_zero (a : Option Addr) (cap : Nat) (i : Int) (w : World) : Calls Try.prog 4 #[.slice a 0 cap, .int .i64 i] w fun e w' => e = .returned (.bool true) ∧ w' = w := by
  go_enter Try.func4, Try.ntmps4
  go_wp2_with fail
  refine (bytes_median_zero a cap i w).mono ?_
  rintro e w' ⟨⟨v, rfl, -⟩, rfl⟩
  cases v
  · go_wp2
    go_ret
    exact ⟨rfl, rfl⟩
  · go_wp2_with fail
    refine (domain_zero a cap i w').mono ?_
    rintro e w ⟨rfl, rfl⟩
    go_wp2
    go_ret
    exact ⟨rfl, rfl⟩
theorem four_zero (a : Option Addr) (cap : Nat) (i : Int) (w : World) : Calls Try.prog 3 #[.slice a 0 cap, .int .i64 i] w fun e w' => e = .returned (.bool true) ∧ w' = w := by
  go_enter Try.func3, Try.ntmps3
  go_wp2_with fail
  refine (bytes_order_zero a cap i w).mono ?_
  rintro e w' ⟨⟨v, rfl, -⟩, rfl⟩
  cases v
  · go_wp2
    go_ret
    exact ⟨rfl, rfl⟩
  · go_wp2_with fail
    refine (domain_zero a cap i w').mono ?_
    rintro e w ⟨rfl, rfl⟩
    go_wp2
    go_ret
    exact ⟨rfl, rfl⟩
end Go.Proofs.Qxb6602892a
