/-
  The walks of zzBytes (13, 5) and spreadSizeAndDomain (6): a slice of slices, its outer cells alone are read.
-/
import Derived.Test.Qxb6602892aLess
namespace Go.Proofs.Qxb6602892a
open Go.RowKit

/-- It returns a bool of which p holds. -/
def RetB (e : Ending) (p : Bool → Prop) : Prop := ∃ v, e = .returned (.bool v) ∧ p v

set_option maxHeartbeats 1000000 in
theorem bytes_median (b off n cap : Nat) (i : Int) (A : Nat → Option Addr) (L C : Nat → Nat) (w : World) (hn : n ≤ 9223372036854775807) (hO : ∀ r, r < n → w.cell? ⟨b, off + r, none⟩ = some (.slice (A r) (L r) (C r))) :
    Calls Try.prog 13 #[.slice (some ⟨b, off, none⟩) n cap, .int .i64 i] w fun e w' => RetB e (fun _ => True) ∧ w' = w := by
  have HO := hide hO
  clear hO
  by_cases hb : n ≤ 1048576
  · go_enter Try.func13, Try.ntmps13
    go_wp2
    go_loop [5, 6] (fun z i => ∃ (k : Nat) (X : Int), k ≤ n ∧ i = .int .i64 k ∧ z = .int .i64 X ∧ 0 ≤ X ∧ X ≤ 1048576) (fun _ i => n - (RowKit.intOf i).toNat)
    case atStart => exact ⟨0, n, by omega, rfl, rfl, by omega, by omega⟩
    case round =>
      obtain ⟨k, X, hk, rfl, rfl, h0, h1⟩ := hrel
      by_cases hlt : k < n
      · have hc := HO.out k hlt
        generalize A k = Ak at hc
        generalize C k = Ck at hc
        generalize L k = Lk at hc
        by_cases hL : Lk ≤ 1048576
        · by_cases hX : X + (Lk : Int) ≤ 1048576
          · go_wp2
            go_round
            case rel => exact ⟨k + 1, X + Lk, by omega, by go_num, rfl, by omega, by omega⟩
            case measure => simp [RowKit.intOf]; omega
          · go_wp2
            go_ret
            exact ⟨⟨_, rfl, trivial⟩, rfl⟩
        · go_wp2
          go_ret
          exact ⟨⟨_, rfl, trivial⟩, rfl⟩
      · go_wp2
        go_ret
        exact ⟨⟨_, rfl, trivial⟩, rfl⟩
  · go_enter Try.func13, Try.ntmps13
    go_wp2
    go_ret
    exact ⟨⟨_, rfl, trivial⟩, rfl⟩

/-- What a yes of spreadSizeAndDomain says. -/
def DomOk (n : Nat) (i : Int) (L : Nat → Nat) (v : Bool) : Prop := v = true → 1 ≤ n ∧ 0 ≤ i ∧ ∀ r, r < n → i < (L r : Int) ∧ L r ≤ 131072

set_option maxHeartbeats 1000000 in
theorem domain_any (b off n cap : Nat) (i : Int) (A : Nat → Option Addr) (L C : Nat → Nat) (w : World) (hn : n ≤ 4096) (hO : ∀ r, r < n → w.cell? ⟨b, off + r, none⟩ = some (.slice (A r) (L r) (C r))) :
    Calls Try.prog 6 #[.slice (some ⟨b, off, none⟩) n cap, .int .i64 i] w fun e w' => RetB e (DomOk n i L) ∧ w' = w := by
  have HO := hide hO
  clear hO
  go_enter Try.func6, Try.ntmps6
  go_wp2
  go_loop [5, 6] (fun z i => ∃ (k : Nat) (X : Int), k ≤ n ∧ i = .int .i64 k ∧ z = .int .i64 X ∧ 0 ≤ X ∧ X ≤ 1048576 ∧ Hid (∀ r, r < k → L r ≤ 131072)) (fun _ i => n - (RowKit.intOf i).toNat)
  case atStart => exact ⟨0, 24 * n, by omega, rfl, by go_num, by omega, by omega, fun r hr => absurd hr (by omega)⟩
  case round =>
    obtain ⟨k, X, hk, rfl, rfl, h0, h1, HL⟩ := hrel
    by_cases hlt : k < n
    · have hc := HO.out k hlt
      obtain ⟨Lk, hLk⟩ : ∃ Lk, Lk = L k := ⟨_, rfl⟩
      rw [← hLk] at hc
      have HLk := hide hLk
      clear hLk
      generalize A k = Ak at hc
      generalize C k = Ck at hc
      by_cases hL : Lk ≤ 131072
      · by_cases hX : X + 8 * (Lk : Int) ≤ 1048576
        · go_wp2
          go_round
          case rel => exact ⟨k + 1, X + 8 * Lk, by omega, by go_num, by go_num, by omega, by omega, fun r hr => by
            by_cases e : r = k
            · rw [e, ← HLk.out]; exact hL
            · exact HL.out r (by omega)⟩
          case measure => simp [RowKit.intOf]; omega
        · go_wp2
          go_ret
          exact ⟨⟨_, rfl, fun h => by cases h⟩, rfl⟩
      · go_wp2
        go_ret
        exact ⟨⟨_, rfl, fun h => by cases h⟩, rfl⟩
    · obtain rfl : k = n := by omega
      by_cases hz : k = 0
      · subst hz
        go_wp2
        go_ret
        exact ⟨⟨_, rfl, fun h => by cases h⟩, rfl⟩
      · have hzb : ((k : Int) == 0) = false := beq_eq_false_iff_ne.2 (by omega)
        by_cases hi : i < 0
        · go_wp2
          go_ret
          exact ⟨⟨_, rfl, fun h => by simp at h⟩, rfl⟩
        · have hi' : decide (i < 0) = false := by simpa using hi
          go_wp2
          go_loop [7] (fun j => ∃ m : Nat, m ≤ k ∧ j = .int .i64 m ∧ Hid (∀ r, r < m → i < (L r : Int))) (fun j => k - (RowKit.intOf j).toNat)
          case atStart => exact ⟨0, by omega, rfl, fun r hr => absurd hr (by omega)⟩
          case round =>
            obtain ⟨m, hm, rfl, HI⟩ := hrel
            by_cases hlt2 : m < k
            · have hc := HO.out m hlt2
              obtain ⟨Lk, hLk⟩ : ∃ Lk, Lk = L m := ⟨_, rfl⟩
              rw [← hLk] at hc
              have HLk := hide hLk
              clear hLk
              generalize A m = Ak at hc
              generalize C m = Ck at hc
              by_cases hiL : i < (Lk : Int)
              · go_wp2
                go_round
                case rel => exact ⟨m + 1, by omega, by go_num, fun r hr => by
                  by_cases e : r = m
                  · rw [e, ← HLk.out]; exact hiL
                  · exact HI.out r (by omega)⟩
                case measure => simp [RowKit.intOf]; omega
              · go_wp2
                go_ret
                exact ⟨⟨_, rfl, fun h => by cases h⟩, rfl⟩
            · obtain rfl : m = k := by omega
              go_wp2
              go_ret
              exact ⟨⟨_, rfl, fun _ => ⟨by omega, by omega, fun r hr => ⟨HI.out r hr, HL.out r hr⟩⟩⟩, rfl⟩
end Go.Proofs.Qxb6602892a
