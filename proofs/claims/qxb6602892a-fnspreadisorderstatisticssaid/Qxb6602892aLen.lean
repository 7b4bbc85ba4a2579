/-
  math/bits.Len BY ITS CONTRACT OFF THE SHELF, laid at this dump in plain words (the kit's lay-shelf.mjs, lay-plain.mjs).
-/
import Derived.Shelf.Small.Bits
import Derived.Test.Qxb6602892aProg
namespace Go.Proofs.Qxb6602892a
open Go.Shelf Go.Proofs
def lenRen : Go.Shelf.Ren := ⟨fun | 125 => 18 | 128 => 28 | 129 => 29 | n => n, fun | 46 => 36 | 3 => 3 | 51 => 46 | 53 => 48 | 4 => 4 | 5 => 5 | 9 => 9 | n => n, fun | n => n⟩
theorem lenLays : Go.Proofs.Lays.n125 Try.prog lenRen := {
  mixed := by kernel_rfl
  f125 := Try.func18.trans (congrArg some (by kernel_rfl))
  f128 := Try.func28.trans (congrArg some (by kernel_rfl))
  f129 := Try.func29.trans (congrArg some (by kernel_rfl))
  t3 := Try.underlying3
  a3 := Try.isAgg3
  z3 := Try.sizeOf3
  v3 := Try.zeroValue3
  t4 := Try.underlying4
  a4 := Try.isAgg4
  z4 := Try.sizeOf4
  v4 := Try.zeroValue4
  t5 := Try.underlying5
  a5 := Try.isAgg5
  z5 := Try.sizeOf5
  v5 := Try.zeroValue5
  t9 := Try.underlying9
  a9 := Try.isAgg9
  z9 := Try.sizeOf9
  v9 := Try.zeroValue9
  t46 := Try.underlying36
  a46 := Try.isAgg36
  z46 := Try.sizeOf36
  v46 := Try.zeroValue36
  t51 := Try.underlying46
  a51 := Try.isAgg46
  z51 := Try.sizeOf46
  v51 := Try.zeroValue46
  t53 := Try.underlying48
  a53 := Try.isAgg48
  z53 := Try.sizeOf48
  v53 := Try.zeroValue48 }
/-- bits.Len: "Len returns the minimum number of bits required to represent x; the result is 0 for x == 0.": IT RETURNS 'Lib.bitLen x'; the world is as it was. (A uint has 64 bits in the model.) ITS CALLEE bits.Len64 IS MET BY ITS OWN CONTRACT OFF THE SHELF (lay that first). (LAID: no walk: one application.) -/
theorem bits_Len (x : Int) (w : World) (h0 : 0 ≤ x) (h1 : x ≤ 18446744073709551615) :
    Calls Try.prog 18 #[.int .u64 x] w fun e w' => e = .returned (.int .i64 (Lib.bitLen x.toNat)) ∧ w' = w := Any.bits_Len lenLays x w h0 h1
end Go.Proofs.Qxb6602892a
