/-
  Seat b6617070a: the plain functions: what a status line's head reads as.
-/
import Derived.Lib.Bytes
namespace Go.Proofs.Qxb6617070a

/-- A decimal digit's byte. -/
def dig (c : Int) : Bool := decide (48 ≤ c) && decide (c ≤ 57)
/-- The seven bytes of the protocol's name. -/
def pre (z : Nat → Int) : Bool := z 0 == 72 && z 1 == 84 && z 2 == 84 && z 3 == 80 && z 4 == 47 && z 5 == 49 && z 6 == 46
def headOk (z : Nat → Int) : Bool := pre z && (z 8 == 32) && dig (z 7) && (decide (49 ≤ z 9) && decide (z 9 ≤ 57)) && dig (z 10) && dig (z 11)
def code (z : Nat → Int) : Int := 100 * (z 9 - 48) + 10 * (z 10 - 48) + (z 11 - 48)
/-- Is it a status line? p: is the tail right? -/
def ok (z : Nat → Int) (p : Bool) : Bool := headOk z && p
def st (z : Nat → Int) (p : Bool) : Int := if ok z p then code z else 0
def mi (z : Nat → Int) (p : Bool) : Int := if ok z p then z 7 - 48 else 0

theorem st_no {z : Nat → Int} {p : Bool} (h : ok z p = false) : st z p = 0 := by simp [st, h]
theorem mi_no {z : Nat → Int} {p : Bool} (h : ok z p = false) : mi z p = 0 := by simp [mi, h]
theorem st_yes {z : Nat → Int} {p : Bool} (h : ok z p = true) : st z p = code z := by simp [st, h]
theorem mi_yes {z : Nat → Int} {p : Bool} (h : ok z p = true) : mi z p = z 7 - 48 := by simp [mi, h]
theorem ok_false (z : Nat → Int) : ok z false = false := by simp [ok]

theorem byte_inj {a b : Int} (ha : 0 ≤ a ∧ a ≤ 255) (hb : 0 ≤ b ∧ b ≤ 255) : (UInt8.ofNat a.toNat = UInt8.ofNat b.toNat) ↔ a = b := by
  constructor
  · intro h
    have := congrArg UInt8.toNat h
    simp only [UInt8.toNat_ofNat'] at this
    have e1 : a.toNat % 2 ^ 8 = a.toNat := Nat.mod_eq_of_lt (by omega)
    have e2 : b.toNat % 2 ^ 8 = b.toNat := Nat.mod_eq_of_lt (by omega)
    rw [e1, e2] at this
    omega
  · intro h; rw [h]

/-- The first seven numbers of a row, as bytes, are the protocol's name just where 'pre' says so. -/
theorem pre_bytes (z : Nat → Int) (hz : ∀ i, i < 7 → 0 ≤ z i ∧ z i ≤ 255) :
    (Lib.bytesOf [z 0, z 1, z 2, z 3, z 4, z 5, z 6] == Lib.bytesOf [72, 84, 84, 80, 47, 49, 46]) = pre z := by
  have b0 := byte_inj (hz 0 (by omega)) (b := 72) (by omega)
  have b1 := byte_inj (hz 1 (by omega)) (b := 84) (by omega)
  have b2 := byte_inj (hz 2 (by omega)) (b := 84) (by omega)
  have b3 := byte_inj (hz 3 (by omega)) (b := 80) (by omega)
  have b4 := byte_inj (hz 4 (by omega)) (b := 47) (by omega)
  have b5 := byte_inj (hz 5 (by omega)) (b := 49) (by omega)
  have b6 := byte_inj (hz 6 (by omega)) (b := 46) (by omega)
  rw [Bool.eq_iff_iff]
  simp only [Lib.bytesOf, List.map_cons, List.map_nil, beq_iff_eq, List.cons.injEq, b0, b1, b2, b3, b4, b5, b6, and_true, pre, Bool.and_eq_true]
  constructor
  · rintro ⟨h0, h1, h2, h3, h4, h5, h6⟩
    exact ⟨⟨⟨⟨⟨⟨h0, h1⟩, h2⟩, h3⟩, h4⟩, h5⟩, h6⟩
  · rintro ⟨⟨⟨⟨⟨⟨h0, h1⟩, h2⟩, h3⟩, h4⟩, h5⟩, h6⟩
    exact ⟨h0, h1, h2, h3, h4, h5, h6⟩

end Go.Proofs.Qxb6617070a
