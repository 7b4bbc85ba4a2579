/-
  encoding/hex.Decode BY ITS CONTRACT OFF THE SHELF ('Any.hex_Decode_tag'), laid at this dump in plain words (the kit's lay-shelf.mjs, lay-plain.mjs), and turned to what hasLoneSurrogate hands it: four hexadecimal digits into a new [2]byte.
-/
import Derived.Shelf.Hex.Tagged
import Derived.Test.Qxb6003416aDoorClone
namespace Go.Proofs.Qxb6003416aDoor
open Go.Shelf Go.RowKit Go.Lib
def hxRen : Go.Shelf.Ren := ⟨fun | 44 => 19 | n => n, fun | 30 => 22 | 3 => 3 | 35 => 33 | 4 => 4 | 0 => 0 | 5 => 5 | 9 => 9 | 47 => 39 | 46 => 36 | 45 => 43 | n => n, fun | 0 => 0 | n => n⟩
theorem hxLays : Go.Proofs.Lays.p44 Tryd.prog hxRen := {
  mixed := by kernel_rfl
  f44 := Tryd.func19.trans (congrArg some (by kernel_rfl))
  t0 := Tryd.underlying0
  a0 := Tryd.isAgg0
  z0 := Tryd.sizeOf0
  v0 := Tryd.zeroValue0
  t3 := Tryd.underlying3
  a3 := Tryd.isAgg3
  z3 := Tryd.sizeOf3
  v3 := Tryd.zeroValue3
  t4 := Tryd.underlying4
  a4 := Tryd.isAgg4
  z4 := Tryd.sizeOf4
  v4 := Tryd.zeroValue4
  t5 := Tryd.underlying5
  a5 := Tryd.isAgg5
  z5 := Tryd.sizeOf5
  v5 := Tryd.zeroValue5
  t9 := Tryd.underlying9
  a9 := Tryd.isAgg9
  z9 := Tryd.sizeOf9
  v9 := Tryd.zeroValue9
  t30 := Tryd.underlying22
  a30 := Tryd.isAgg22
  z30 := Tryd.sizeOf22
  v30 := Tryd.zeroValue22
  t35 := Tryd.underlying33
  a35 := Tryd.isAgg33
  z35 := Tryd.sizeOf33
  v35 := Tryd.zeroValue33
  t45 := Tryd.underlying43
  a45 := Tryd.isAgg43
  z45 := Tryd.sizeOf43
  v45 := Tryd.zeroValue43
  t46 := Tryd.underlying36
  a46 := Tryd.isAgg36
  z46 := Tryd.sizeOf36
  v46 := Tryd.zeroValue36
  t47 := Tryd.underlying39
  a47 := Tryd.isAgg39
  z47 := Tryd.sizeOf39
  v47 := Tryd.zeroValue39
  g0 := by kernel_rfl }

theorem v_of_fin : ∀ n : Fin 256, hexB (n.val : Int) = true → Hx.v (UInt8.ofNat n.val) = (hexV (n.val : Int)).toNat := by decide +kernel
theorem v_of {c : Int} (h : hexB c = true) : Hx.v (UInt8.ofNat c.toNat) = (hexV c).toNat := by
  have hb := (hexB_iff c).1 h
  obtain ⟨m, rfl⟩ := Int.eq_ofNat_of_zero_le (show 0 ≤ c by omega)
  simpa using v_of_fin ⟨m, by omega⟩ (by simpa using h)

theorem dec_two {a b : Int} (t : List UInt8) (ha : hexB a = true) (hb : hexB b = true) :
    Hx.decode (UInt8.ofNat a.toNat :: UInt8.ofNat b.toNat :: t) = (UInt8.ofNat (hexV a * 16 + hexV b).toNat :: (Hx.decode t).1, (Hx.decode t).2) := by
  have h1 := hexV_bd ha; have h2 := hexV_bd hb
  rw [Hx.decode_two, v_of ha, v_of hb, if_neg (by omega), if_neg (by omega)]
  congr 3
  omega

/-- Four digits make two bytes. -/
theorem dec_four {a b c d : Int} (ha : hexB a = true) (hb : hexB b = true) (hc : hexB c = true) (hd : hexB d = true) :
    Hx.decode (Lib.bytesOf [a, b, c, d]) = ([UInt8.ofNat (hexV a * 16 + hexV b).toNat, UInt8.ofNat (hexV c * 16 + hexV d).toNat], .ok) := by
  show Hx.decode (UInt8.ofNat a.toNat :: UInt8.ofNat b.toNat :: UInt8.ofNat c.toNat :: UInt8.ofNat d.toNat :: []) = _
  rw [dec_two _ ha hb, dec_two _ hc hd, Hx.decode_nil]

theorem byte_back {a b : Int} (ha : hexB a = true) (hb : hexB b = true) : (((UInt8.ofNat (hexV a * 16 + hexV b).toNat).toNat : Nat) : Int) = hexV a * 16 + hexV b := by
  have h1 := hexV_bd ha; have h2 := hexV_bd hb
  simp only [UInt8.toNat_ofNat']
  omega

theorem hexB_byte {a : Int} (ha : hexB a = true) : 0 ≤ a ∧ a < 256 := by
  have := (hexB_iff a).1 ha
  omega

/-- hex.Decode of four digits into a new array of two bytes. -/
theorem dec_call (a b c d : Int) (ha : hexB a = true) (hb : hexB b = true) (hc : hexB c = true) (hd : hexB d = true) (bd bs os cd cs : Nat) (W : World) (ev : Value)
    (hW : W.heap[bd]? = some (.cells #[.int .u8 0, .int .u8 0] 31 (0, 0))) (h0 : W.cell? ⟨bs, os, none⟩ = some (.int .u8 a)) (h1 : W.cell? ⟨bs, os + 1, none⟩ = some (.int .u8 b)) (h2 : W.cell? ⟨bs, os + 2, none⟩ = some (.int .u8 c)) (h3 : W.cell? ⟨bs, os + 3, none⟩ = some (.int .u8 d))
    (hne : bd ≠ bs) (hE : W.cell? ⟨0, 0, none⟩ = some ev) (hz : 0 ≠ bd) :
    Calls Tryd.prog 19 #[.slice (some ⟨bd, 0, none⟩) 2 cd, .slice (some ⟨bs, os, none⟩) 4 cs] W fun e w' => e = .returned (.tuple #[.int .i64 2, .nilIface]) ∧ w'.cell? ⟨bd, 0, none⟩ = some (.int .u8 (hexV a * 16 + hexV b)) ∧ w'.cell? ⟨bd, 1, none⟩ = some (.int .u8 (hexV c * 16 + hexV d)) ∧ Below bd W w' := by
  have hlt : bd < W.heap.size := (Array.getElem?_eq_some_iff.1 hW).1
  refine (Any.hex_Decode_tag hxLays 31 bd 0 2 cd 2 (fun _ => .int .u8 0) bs os 4 cs [a, b, c, d] W ev rfl ?_ ?_ ?_ (by omega) (by omega) hne (by omega) hE hz).mono ?_
  · have e0 := hexB_byte ha; have e1 := hexB_byte hb; have e2 := hexB_byte hc; have e3 := hexB_byte hd
    intro i hi
    match i, hi with
    | 0, _ => exact e0
    | 1, _ => exact e1
    | 2, _ => exact e2
    | 3, _ => exact e3
  · intro i hi
    match i, hi with
    | 0, _ => exact h0
    | 1, _ => exact h1
    | 2, _ => exact h2
    | 3, _ => exact h3
  · refine ⟨_, hW, rfl, fun i hi => ?_⟩
    match i, hi with
    | 0, _ => rfl
    | 1, _ => rfl
  · rintro e w' ⟨rfl, ⟨cc, hcc, _, hat⟩, hg⟩
    rw [dec_four ha hb hc hd] at *
    have q0 := hat 0 (by omega)
    have q1 := hat 1 (by omega)
    simp [Hx.rowP] at q0 q1
    refine ⟨rfl, ?_, ?_, ⟨hg.os, hg.tape, hg.output, by have := hg.size; omega, fun k hk => hg.block k (by omega) (fun e => by have := Option.some.inj e; omega)⟩⟩
    · have := byte_back ha hb
      simp [World.cell?, hcc, q0]
      simpa using this
    · have := byte_back hc hd
      simp [World.cell?, hcc, q1]
      simpa using this
end Go.Proofs.Qxb6003416aDoor
