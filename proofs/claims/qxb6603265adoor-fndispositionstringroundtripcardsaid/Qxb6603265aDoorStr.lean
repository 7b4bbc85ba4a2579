/-
  The walks of Disposition.String (5) and parseDisposition (6).
-/
import Derived.Test.Qxb6603265aDoorItoa
import Derived.Lib.ItoaLen
namespace Go.Proofs.Qxb6603265aDoor
open Go.RowKit

/-- What String makes of a number that has no name. -/
def outS (S : ByteArray) : ByteArray := { data := #[68, 105, 115, 112, 111, 115, 105, 116, 105, 111, 110, 40] } ++ S ++ { data := #[41] }

theorem str_any (d : Int) (w : World) (h0 : -9223372036854775808 ≤ d) (h1 : d ≤ 9223372036854775807) (n1 : d ≠ 1) (n2 : d ≠ 2) (n3 : d ≠ 3) (htab : Lib.TabIs Tryd.prog w TAB .u64 Lib.pow10Tab) :
    Calls Tryd.prog 5 #[.int .i64 d] w fun e w' => e = .returned (.string (outS ⟨(Lib.itoa d).toArray⟩)) ∧ Below w.heap.size w w' := by
  have HI := hide (itoa_any d h0 h1 w htab)
  have e1 : (d == 1) = false := beq_eq_false_iff_ne.2 n1
  have e2 : (d == 2) = false := beq_eq_false_iff_ne.2 n2
  have e3 : (d == 3) = false := beq_eq_false_iff_ne.2 n3
  have hsz : (⟨(Lib.itoa d).toArray⟩ : ByteArray).size ≤ 21 := by
    show (Lib.itoa d).toArray.size ≤ 21
    simpa using Lib.itoa_length_le d h0 h1
  obtain ⟨S, hS⟩ : ∃ S : ByteArray, S = ⟨(Lib.itoa d).toArray⟩ := ⟨_, rfl⟩
  rw [← hS] at HI hsz ⊢
  obtain ⟨T, hT⟩ : ∃ T : ByteArray, T = outS S := ⟨_, rfl⟩
  rw [← hT]
  have HT := hide hT
  clear htab n1 n2 n3 hS hT
  go_enter Tryd.func5, Tryd.ntmps5
  go_wp2_with (go_at_call 7; refine HI.out.mono ?_; rintro e w' ⟨rfl, hB⟩)
  go_ret
  exact ⟨by rw [HT.out]; rfl, hB⟩

theorem outS_data (S : ByteArray) : (outS S).data.toList = [68, 105, 115, 112, 111, 115, 105, 116, 105, 111, 110, 40] ++ S.data.toList ++ [41] := by
  simp [outS]
theorem size_list (B : ByteArray) : B.size = B.data.toList.length := Lib.size_eq B
theorem outS_size (S : ByteArray) : (outS S).size = S.size + 13 := by
  rw [size_list, outS_data, size_list]; simp
theorem outS_head (S : ByteArray) : ((outS S).extract 0 12).toList = [68, 105, 115, 112, 111, 115, 105, 116, 105, 111, 110, 40] := by
  rw [Lib.toList_data, Lib.extract_data, outS_data]; simp
theorem outS_mid (S : ByteArray) : (outS S).extract 12 ((outS S).size - 1) = S := by
  apply ByteArray.ext
  apply Array.toList_inj.1
  rw [Lib.extract_data, outS_data, outS_size, size_list]
  simp
theorem outS_last (S : ByteArray) (h : (outS S).size - 1 < (outS S).size) : ((((outS S)[(outS S).size - 1]'h).toNat : Nat) : Int) = 41 := by
  have e : (outS S)[(outS S).size - 1]'h = ((outS S).data.toList)[(outS S).size - 1]'(by rw [← size_list]; exact h) := rfl
  rw [e]
  have : ((outS S).data.toList)[(outS S).size - 1]? = some 41 := by
    rw [outS_data, outS_size, size_list]; simp
  rw [List.getElem?_eq_some_iff] at this
  obtain ⟨_, h2⟩ := this
  rw [h2]; rfl
theorem outS_ne (S : ByteArray) (l : List UInt8) (h : l.length < 13) : ((outS S).toList == l) = false := by
  rw [beq_eq_false_iff_ne]
  intro e
  have : (outS S).toList.length = l.length := by rw [e]
  rw [Lib.toList_data, ← size_list, outS_size] at this
  omega

theorem pd_any (T S : ByteArray) (d : Int) (w : World) (hs1 : 1 ≤ S.size) (hs2 : S.size ≤ 21) (hT : T = outS S) (n1 : d ≠ 1) (n2 : d ≠ 2) (n3 : d ≠ 3)
    (hP : Calls Tryd.prog 8 #[.string S] w fun e w' => e = .returned (.tuple #[.int .i64 d, .bool true]) ∧ w' = w) :
    Calls Tryd.prog 6 #[.string T] w fun e w' => e = .returned (.tuple #[.int .i64 d, .bool true]) ∧ w' = w := by
  have HP := hide hP
  have hsz : T.size = S.size + 13 := by rw [hT, outS_size]
  have hs3 : 14 ≤ T.size := by omega
  have hs4 : T.size ≤ 34 := by omega
  have e1 : (d == 1) = false := beq_eq_false_iff_ne.2 n1
  have e2 : (d == 2) = false := beq_eq_false_iff_ne.2 n2
  have e3 : (d == 3) = false := beq_eq_false_iff_ne.2 n3
  have a1 : (T.toList == [65, 99, 107]) = false := by rw [hT]; exact outS_ne S _ (by decide)
  have a2 : (T.toList == [82, 101, 116, 114, 121]) = false := by rw [hT]; exact outS_ne S _ (by decide)
  have a3 : (T.toList == [82, 101, 106, 101, 99, 116]) = false := by rw [hT]; exact outS_ne S _ (by decide)
  have x12 : (T.extract 0 12).toList = [68, 105, 115, 112, 111, 115, 105, 116, 105, 111, 110, 40] := by rw [hT]; exact outS_head S
  have xm : T.extract 12 (T.size - 1) = S := by rw [hT]; exact outS_mid S
  have xl : ∀ h : T.size - 1 < T.size, (((T[T.size - 1]'h).toNat : Nat) : Int) = 41 := by subst hT; exact outS_last S
  have hb1 : (12 : Int) ≤ (T.size : Int) - 1 := by omega
  have hb2 : (T.size : Int) - 1 ≤ T.size := by omega
  have hb3 : ((T.size : Int) - 1).toNat = T.size - 1 := by omega
  clear hsz hP hT n1 n2 n3 hs1 hs2
  go_enter Tryd.func6, Tryd.ntmps6
  go_wp2_with (go_at_call 8; refine HP.out.mono ?_; rintro e w' ⟨rfl, rfl⟩)
  go_ret2
  exact ⟨rfl, rfl⟩

/-- parseDisposition at the three names. -/
theorem pd_ack (w : World) : Calls Tryd.prog 6 #[.string ⟨#[65, 99, 107]⟩] w fun e w' => e = .returned (.tuple #[.int .i64 1, .bool true]) ∧ w' = w := by
  go_enter Tryd.func6, Tryd.ntmps6
  go_wp2
  go_ret2
  exact ⟨rfl, rfl⟩
theorem pd_retry (w : World) : Calls Tryd.prog 6 #[.string ⟨#[82, 101, 116, 114, 121]⟩] w fun e w' => e = .returned (.tuple #[.int .i64 2, .bool true]) ∧ w' = w := by
  go_enter Tryd.func6, Tryd.ntmps6
  go_wp2
  go_ret2
  exact ⟨rfl, rfl⟩
theorem pd_reject (w : World) : Calls Tryd.prog 6 #[.string ⟨#[82, 101, 106, 101, 99, 116]⟩] w fun e w' => e = .returned (.tuple #[.int .i64 3, .bool true]) ∧ w' = w := by
  go_enter Tryd.func6, Tryd.ntmps6
  go_wp2
  go_ret2
  exact ⟨rfl, rfl⟩
end Go.Proofs.Qxb6603265aDoor
