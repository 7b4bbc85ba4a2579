/-
  slices.Sort[[]float64,float64] (16): the top of the sort, after the guide's own walk at int, and its assembly.
-/
import Derived.Sort.AssemblyPlain
import Derived.Sort.WalkA14
import Derived.Test.Qxb6602892aLen
import Derived.Test.Qxb6602892aIns
import Derived.Test.Qxb6602892aBrk
import Derived.Test.Qxb6602892aPiv
import Derived.Test.Qxb6602892aPar
import Derived.Test.Qxb6602892aPeq
import Derived.Test.Qxb6602892aPrt
import Derived.Test.Qxb6602892aPdq
namespace Go.Proofs.Qxb6602892a
open Go.RowKit Go.Sort
attribute [local go_sem] run_store_float

def pdqWalkF : Prop := ∀ (blk off cap a b limit : Nat) (d : Array Nat) (w : World), Holds (Value.float .f64) w blk off d → blk < w.heap.size → a ≤ b → b ≤ d.size → d.size < 4611686018427387904 → limit < 4611686018427387904 → Below ltF a b d →
  Calls Try.prog 17 #[.slice (some ⟨blk, off, none⟩) d.size cap, .int .i64 a, .int .i64 b, .int .i64 limit] w fun e w' =>
    e = .returned (.tuple #[]) ∧ ∃ n os, w' = grow (putRow (Value.float .f64) (Sort.ahead w n) blk off (Sort.pdq ltF d a b limit true true)) os

set_option maxRecDepth 100000 in
/-- WALK 14 OF THE PLAN, at int: slices.Sort's own body. -/
theorem Sort_f (hpdq : pdqWalkF) (blk off cap : Nat) (d : Array Nat) (w : World) (hH : Holds (Value.float .f64) w blk off d) (hblk : blk < w.heap.size) (hsz : d.size < 4611686018427387904) :
    Calls Try.prog 16 #[.slice (some ⟨blk, off, none⟩) d.size cap] w fun e w' => e = .returned (.tuple #[]) ∧ ∃ n os, w' = grow (putRow (Value.float .f64) (Sort.ahead w n) blk off (Sort.sort ltF d)) os := by
  have HH : Hid (Holds (Value.float .f64) w blk off d) := hH
  clear hH
  have hLen : ∀ w, Calls Try.prog 18 #[.int .u64 (d.size : Int)] w fun e w' => e = .returned (.int .i64 (bitsLen d.size : Nat)) ∧ w' = w := fun w => by
    have h := bits_Len (d.size : Int) w (by omega) (by omega)
    rwa [Int.toNat_natCast, bitLen_eq _ (by omega)] at h
  have hk : bitsLen d.size ≤ 62 := (bitsLen_le_iff d.size 62).2 (by omega)
  go_enter Try.func16, Try.ntmps16
  go_wp2_with (first
    | (go_at_call 18; refine (hLen _).mono ?_; rintro e w' ⟨rfl, rfl⟩)
    | (go_at_call 17; refine (hpdq blk off cap 0 d.size (bitsLen d.size) d _ (by exact HH.out) (by exact hblk) (Nat.zero_le _) (Nat.le_refl _) hsz (by omega) (Or.inl rfl)).mono ?_; rintro e w' ⟨rfl, n, os, rfl⟩))
  go_end0
  exact ⟨rfl, n, os, rfl⟩


theorem swoF : SWO ltF where
  irrefl x := by simp [ltF]
  trans x y z h1 h2 := by simp [ltF] at *; omega
  ntrans x y z h1 h2 := by simp [ltF] at *; omega

theorem calleesF : CalleesF where
  ins := insertionSort_f
  brk := breakPatterns_f
  piv := choosePivot_f
  par := partialInsertionSort_f
  peq := partitionEqualOrdered_f
  prt := partitionOrdered_f

theorem plainF : PlainF where
  swo := swoF
  ins := insertionSort_holds
  par := partialInsertionSort_holds
  prt := partition_holds _
  peq := partitionEqual_holds _
  pdq := pdq_sorts _

theorem pdqWalk_f : pdqWalkF := fun blk off cap a b limit d w hH hb hab hbd hsz hl hB =>
  pdqsort_f calleesF plainF (b - a + 1) blk off cap a b limit d w (by omega) hH hb hab hbd hsz hl hB

/-- slices.Sort at []float64: the row holds a sorted permutation of what it held; nothing old besides has turned. -/
theorem sort_any (blk off cap : Nat) (d : Array Nat) (w : World) (hH : Holds (Value.float .f64) w blk off d) (hblk : blk < w.heap.size) (hsz : d.size < 4611686018427387904) :
    Calls Try.prog 16 #[.slice (some ⟨blk, off, none⟩) d.size cap] w fun e w' => e = .returned (.tuple #[]) ∧ ∃ d' n os, PermIn 0 d.size d d' ∧ SortedIn ltF 0 d.size d' ∧ w' = grow (putRow (Value.float .f64) (Sort.ahead w n) blk off d') os := by
  refine (Sort_f pdqWalk_f blk off cap d w hH hblk hsz).mono ?_
  rintro e w' ⟨rfl, n, os, rfl⟩
  have h := sort_sorts ltF swoF d
  exact ⟨rfl, _, n, os, h.1, h.2, rfl⟩
end Go.Proofs.Qxb6602892a
