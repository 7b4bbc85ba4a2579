/-
  The walks of cmp.isNaN[float64] (35), cmp.Less[float64] (25), orderedLess (15), sameFloat (10).
-/
import Derived.Test.Qxb6602892aProg
import Derived.Test.Qxb6602892aFloat
import Derived.Sort.Row
import Derived.Lib.Walk
import Derived.WalkKit
import Derived.Laws.Cover2
namespace Go.Proofs.Qxb6602892a
open Go.RowKit

theorem hide {p : Prop} (h : p) : Hid p := h
theorem ret_bool {a b : Bool} (h : a = b) : Ending.returned (.bool a) = .returned (.bool b) := by rw [h]
theorem fmt64 : FloatKind.f64.format = Ieee.double := rfl

/-- A store of a float (the kit has the like for integers, strings and the rest). -/
theorem run_store_float (P : Program) (w : World) (a : Addr) (k : FloatKind) (b : Nat) (m : Mode) : (store a (.float k b) m).run P w = stored P w a (.float k b) m := run_store P w a _ m rfl

abbrev encF : Nat → Value := fun x => Value.float .f64 x

theorem isNaN_any (x : Nat) (w : World) : Calls Try.prog 35 #[.float .f64 x] w fun e w' => e = .returned (.bool (isN x)) ∧ w' = w := by
  go_enter Try.func35, Try.ntmps35
  go_wp2
  go_ret
  exact ⟨ret_bool (self_ne x), rfl⟩

theorem less_any (x y : Nat) (w : World) : Calls Try.prog 25 #[.float .f64 x, .float .f64 y] w fun e w' => e = .returned (.bool (ltF x y)) ∧ w' = w := by
  have HL := hide (less_eq x y)
  cases hx : isN x
  · go_enter Try.func25, Try.ntmps25
    go_wp2_with (go_at_call 35; refine (isNaN_any _ _).mono ?_; rintro e w' ⟨rfl, rfl⟩)
    go_ret
    exact ⟨ret_bool (by rw [← HL.out, hx]; rfl), rfl⟩
  · cases hy : isN y
    · go_enter Try.func25, Try.ntmps25
      go_wp2_with (go_at_call 35; refine (isNaN_any _ _).mono ?_; rintro e w' ⟨rfl, rfl⟩)
      go_ret
      exact ⟨ret_bool (by rw [← HL.out, hx, hy]; rfl), rfl⟩
    · go_enter Try.func25, Try.ntmps25
      go_wp2_with (go_at_call 35; refine (isNaN_any _ _).mono ?_; rintro e w' ⟨rfl, rfl⟩)
      go_ret
      exact ⟨ret_bool (by rw [← HL.out, hx, hy]; rfl), rfl⟩
end Go.Proofs.Qxb6602892a
