/-
  '+' and '/ 2' on float64 words, as the model runs them: the word, or some NaN.
-/
import Derived.Test.Qxb6602892aLess
import Derived.Laws.FloatArith
import Derived.Deep.Draws
namespace Go.Proofs.Qxb6602892a
open Go.RowKit

/-- 2.0 -/
abbrev two64 : Nat := 4611686018427387904
/-- s is a + b. -/
def AddOf (a b s : Nat) : Prop := Ieee.double.add a b = some s ∨ (Ieee.double.add a b = none ∧ isN s = true)
/-- m is s / 2. -/
def HalfOf (s m : Nat) : Prop := Ieee.double.div s two64 = some m ∨ (Ieee.double.div s two64 = none ∧ isN m = true)

/-- The NaN that the tape gives. -/
def nanAt (W : World) (x y : Nat) : Nat := Question.cut (.nanBits .f64 x y) (W.tape W.drawn (.nanBits .f64 x y))
theorem nanAt_isN (W : World) (x y : Nat) : isN (nanAt W x y) = true := by
  unfold nanAt
  generalize W.tape W.drawn (.nanBits .f64 x y) = t
  show isN ((t % 2) * 2 ^ 63 + 0x7ff0000000000000 + 1 + (t / 2) % (2 ^ 52 - 1)) = true
  unfold isN Ieee.Format.read
  have hs : Ieee.double.signWeight = 2 ^ 63 := rfl
  have hb : Ieee.double.binade = 2 ^ 52 := rfl
  have hi : Ieee.double.infRung = 2047 * 2 ^ 52 := by decide
  simp only [hs, hb, hi]
  have e : ((t % 2) * 2 ^ 63 + 0x7ff0000000000000 + 1 + (t / 2) % (2 ^ 52 - 1)) % 2 ^ 63 = 0x7ff0000000000000 + 1 + (t / 2) % (2 ^ 52 - 1) := by omega
  rw [e, if_neg (by omega), if_neg (by omega), if_neg (by omega)]
  rfl

theorem run_none {P : Program} (op : BinOp) (hop : op = .add ∨ op = .quo) (t : TypeId) (x y : Nat) (h : floatBits op .f64 x y = none) (W : World) :
    (binOp op t (.float .f64 x) (.float .f64 y)).run P W = .ok (.float .f64 (nanAt W x y)) (W.drewN 1) := by
  have hf : Question.forced (.nanBits .f64 x y) = false := rfl
  rcases hop with rfl | rfl
  · have h' : FloatKind.f64.format.add x y = none := h
    simp [binOp, Op.floatArith, h', hf, nanAt]
    rfl
  · have h' : FloatKind.f64.format.div x y = none := h
    simp [binOp, Op.floatArith, h', hf, nanAt]
    rfl

/-- '+', in every world. -/
theorem add_all (P : Program) (t : TypeId) (a b : Nat) : ∃ (sv : World → Nat) (i : Nat), (∀ W, (binOp .add t (.float .f64 a) (.float .f64 b)).run P W = .ok (.float .f64 (sv W)) (W.drewN i)) ∧ ∀ W, AddOf a b (sv W) := by
  cases h : Ieee.double.add a b with
  | some s => exact ⟨fun _ => s, 0, fun W => run_float_arith W .add t .f64 a b s h, fun _ => Or.inl h⟩
  | none => exact ⟨fun W => nanAt W a b, 1, fun W => run_none .add (Or.inl rfl) t a b h W, fun W => Or.inr ⟨h, nanAt_isN W a b⟩⟩

theorem div_nan {s : Nat} (h : isN s = true) : Ieee.double.div s two64 = none := by
  unfold isN at h
  unfold Ieee.Format.div
  cases e : Ieee.double.read s with
  | nan => rfl
  | infinity => rw [e] at h; cases h
  | number => rw [e] at h; cases h

/-- '/ 2' of what '+' gave, in every world. -/
theorem half_all (P : Program) (t : TypeId) (a b : Nat) : ∃ (sv : World → Nat) (i : Nat) (mv : World → World → Nat) (j : Nat),
    (∀ W, (binOp .add t (.float .f64 a) (.float .f64 b)).run P W = .ok (.float .f64 (sv W)) (W.drewN i)) ∧
    (∀ W W', (binOp .quo t (.float .f64 (sv W)) (.float .f64 two64)).run P W' = .ok (.float .f64 (mv W W')) (W'.drewN j)) ∧
    ∀ W W', AddOf a b (sv W) ∧ HalfOf (sv W) (mv W W') := by
  cases h : Ieee.double.add a b with
  | some s =>
    cases hd : Ieee.double.div s two64 with
    | some m => exact ⟨fun _ => s, 0, fun _ _ => m, 0, fun W => run_float_arith W .add t .f64 a b s h, fun _ W' => run_float_arith W' .quo t .f64 s two64 m hd, fun _ _ => ⟨Or.inl h, Or.inl hd⟩⟩
    | none => exact ⟨fun _ => s, 0, fun _ W' => nanAt W' s two64, 1, fun W => run_float_arith W .add t .f64 a b s h, fun _ W' => run_none .quo (Or.inr rfl) t s two64 hd W', fun _ W' => ⟨Or.inl h, Or.inr ⟨hd, nanAt_isN W' _ _⟩⟩⟩
  | none =>
    exact ⟨fun W => nanAt W a b, 1, fun W W' => nanAt W' (nanAt W a b) two64, 1, fun W => run_none .add (Or.inl rfl) t a b h W, fun W W' => run_none .quo (Or.inr rfl) t _ two64 (div_nan (nanAt_isN W a b)) W',
      fun W W' => ⟨Or.inr ⟨h, nanAt_isN W a b⟩, Or.inr ⟨div_nan (nanAt_isN W a b), nanAt_isN W' _ _⟩⟩⟩
end Go.Proofs.Qxb6602892a
