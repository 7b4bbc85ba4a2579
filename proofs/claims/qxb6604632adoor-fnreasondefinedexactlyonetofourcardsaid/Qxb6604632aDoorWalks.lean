/-
  The walks of FnReasonDefinedExactlyOneToFour: the look-up is a hypothesis (after the guide's MapyWalks.lean).
-/
import Derived.Test.Qxb6604632aDoorProg
import Derived.WalkKit
namespace Go.Proofs.Qxb6604632aDoor

/-- Inside 1 .. 4: the key is there. -/
theorem walk_in (bm : Nat) (r : Int) (s : ByteArray) (w : World) (h1 : 1 ≤ r) (h4 : r ≤ 4) (hc : w.cell? ⟨0, 0, none⟩ = some (.map (some bm)))
    (hrun : (Instr.lookup 26 (.map (some bm)) (.int .u8 r) true).run Tryd.prog w = .ok (.tuple #[.string s, .bool true]) w) :
    Calls Tryd.prog 3 #[.int .u8 r] w fun e w' => e = .returned (.bool true) ∧ w' = w := by
  go_enter Tryd.func3, Tryd.ntmps3
  go_wp2
  go_ret
  exact ⟨rfl, rfl⟩

/-- Below 1: the key is not there. -/
theorem walk_low (bm : Nat) (r : Int) (s : ByteArray) (w : World) (h1 : r < 1) (hc : w.cell? ⟨0, 0, none⟩ = some (.map (some bm)))
    (hrun : (Instr.lookup 26 (.map (some bm)) (.int .u8 r) true).run Tryd.prog w = .ok (.tuple #[.string s, .bool false]) w) :
    Calls Tryd.prog 3 #[.int .u8 r] w fun e w' => e = .returned (.bool true) ∧ w' = w := by
  go_enter Tryd.func3, Tryd.ntmps3
  go_wp2
  go_ret
  exact ⟨rfl, rfl⟩

/-- Above 4: the key is not there. -/
theorem walk_high (bm : Nat) (r : Int) (s : ByteArray) (w : World) (h1 : 1 ≤ r) (hd : decide (r ≤ 4) = false) (hc : w.cell? ⟨0, 0, none⟩ = some (.map (some bm)))
    (hrun : (Instr.lookup 26 (.map (some bm)) (.int .u8 r) true).run Tryd.prog w = .ok (.tuple #[.string s, .bool false]) w) :
    Calls Tryd.prog 3 #[.int .u8 r] w fun e w' => e = .returned (.bool true) ∧ w' = w := by
  go_enter Tryd.func3, Tryd.ntmps3
  go_wp2
  go_ret
  exact ⟨rfl, rfl⟩
end Go.Proofs.Qxb6604632aDoor
