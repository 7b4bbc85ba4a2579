/-
  The law's walk, FnDispositionStringRoundTrip (3), out of the contracts; what parseCanonicalInt makes of Itoa's text.
-/
import Derived.Test.Qxb6603265aDoorStr
namespace Go.Proofs.Qxb6603265aDoor
open Go.RowKit

theorem byte_at (l : List UInt8) (i : Nat) (h : i < (⟨l.toArray⟩ : ByteArray).size) : ((((⟨l.toArray⟩ : ByteArray)[i]'h).toNat : Nat) : Int) = at' l i := by
  have hl : i < l.length := by simpa [ByteArray.size] using h
  have e : (⟨l.toArray⟩ : ByteArray)[i]'h = l[i]'hl := rfl
  rw [e]
  simp [at', hl]
theorem size_of (l : List UInt8) : (⟨l.toArray⟩ : ByteArray).size = l.length := by simp [ByteArray.size]

theorem parse_itoa (d : Int) (w : World) (h0 : -9223372036854775808 ≤ d) (h1 : d ≤ 9223372036854775807) :
    Calls Tryd.prog 8 #[.string ⟨(Lib.itoa d).toArray⟩] w fun e w' => e = .returned (.tuple #[.int .i64 d, .bool true]) ∧ w' = w := by
  have hlen := Lib.itoa_length_le d h0 h1
  by_cases hn : d < 0
  · have e : Lib.itoa d = 45 :: Lib.decDigits d.natAbs := by unfold Lib.itoa; rw [if_pos hn]
    obtain ⟨f1, f2, f3, f4, _⟩ := dec_facts (d.natAbs + 1) d.natAbs (by omega)
    rw [e] at hlen ⊢
    generalize Lib.decDigits d.natAbs = D at *
    have hs : (⟨(45 :: D).toArray⟩ : ByteArray).size = D.length + 1 := by rw [size_of]; rfl
    have hy1 : ∀ i, at' (45 :: D) (1 + i) = at' D (0 + i) := fun i => by simp [at', Nat.add_comm 1 i]
    have hv : vl (at' (45 :: D)) 1 D.length = d.natAbs := by rw [vl_congr (z := at' D) (b := 0) D.length (fun i _ => hy1 i), f2]
    have := parse_neg ⟨(45 :: D).toArray⟩ (at' (45 :: D)) w (by rw [hs]; simp at hlen; omega) (by omega) (byte_at (45 :: D)) rfl
      (fun i hi1 hi2 => by
        obtain ⟨j, rfl⟩ : ∃ j, i = 1 + j := ⟨i - 1, by omega⟩
        rw [hy1 j, Nat.zero_add]
        exact f1 j (by omega))
      (by have := hy1 0; rw [show 1 + 0 = 1 from rfl] at this; rw [this]; exact f4 (by omega))
      (by rw [hs, Nat.add_sub_cancel, hv]; omega)
    rw [hs, Nat.add_sub_cancel, hv, show -((d.natAbs : Nat) : Int) = d by omega] at this
    exact this
  · have e : Lib.itoa d = Lib.decDigits d.toNat := by unfold Lib.itoa; rw [if_neg hn]
    obtain ⟨f1, f2, f3, f4, f5⟩ := dec_facts (d.toNat + 1) d.toNat (by omega)
    rw [e] at hlen ⊢
    generalize Lib.decDigits d.toNat = D at *
    have hs := size_of D
    have := parse_pos ⟨D.toArray⟩ (at' D) w (by rw [hs]; omega) (by omega) (byte_at D) (fun i _ hi => f1 i (by omega))
      (fun hz => by
        rw [hs]
        by_cases hd : d.toNat = 0
        · exact f5 hd
        · have := f4 (by omega); omega)
      (by rw [hs, f2]; omega)
    rw [hs, f2, show ((d.toNat : Nat) : Int) = d by omega] at this
    exact this

theorem law_any (d : Int) (w : World) (h0 : -9223372036854775808 ≤ d) (h1 : d ≤ 9223372036854775807) (htab : Lib.TabIs Tryd.prog w TAB .u64 Lib.pow10Tab) :
    Calls Tryd.prog 3 #[.int .i64 d] w fun e w' => e = .returned (.bool true) ∧ Below w.heap.size w w' := by
  by_cases n1 : d = 1
  · subst n1
    clear htab
    go_enter Tryd.func3, Tryd.ntmps3
    go_wp2
    go_ret
    exact ⟨rfl, Below.refl _ _⟩
  by_cases n2 : d = 2
  · subst n2
    clear htab
    go_enter Tryd.func3, Tryd.ntmps3
    go_wp2
    go_ret
    exact ⟨rfl, Below.refl _ _⟩
  by_cases n3 : d = 3
  · subst n3
    clear htab
    go_enter Tryd.func3, Tryd.ntmps3
    go_wp2
    go_ret
    exact ⟨rfl, Below.refl _ _⟩
  have hlen := Lib.itoa_length_le d h0 h1
  have hpos : 1 ≤ (Lib.itoa d).length := by
    unfold Lib.itoa
    split
    · simp
    · exact (dec_facts (d.toNat + 1) d.toNat (by omega)).2.2.1
  have HS := hide (str_any d w h0 h1 n1 n2 n3 htab)
  have HP : Hid (∀ w2, Calls Tryd.prog 6 #[.string (outS ⟨(Lib.itoa d).toArray⟩)] w2 fun e w' => e = .returned (.tuple #[.int .i64 d, .bool true]) ∧ w' = w2) := fun w2 =>
    pd_any (outS ⟨(Lib.itoa d).toArray⟩) ⟨(Lib.itoa d).toArray⟩ d w2 (by rw [size_of]; exact hpos) (by rw [size_of]; exact hlen) rfl n1 n2 n3 (parse_itoa d w2 h0 h1)
  generalize outS ⟨(Lib.itoa d).toArray⟩ = T at *
  clear htab hlen hpos n1 n2 n3
  go_enter Tryd.func3, Tryd.ntmps3
  go_wp2_with (first | (go_at_call 5; refine HS.out.mono ?_; rintro e w1 ⟨rfl, hB⟩; have HB := hide hB; clear hB) | (go_at_call 6; refine (HP.out _).mono ?_; rintro e w2 ⟨rfl, rfl⟩))
  go_ret
  exact ⟨by simp, HB.out⟩
end Go.Proofs.Qxb6603265aDoor
