/-
  Seat b6617793a: the plain mathematics: decimal numbers written as digits, compared by length first and bytes second.
-/
import Derived.Lib.Bytealg
namespace Go.Proofs.Qxb6617793a
open Go.Lib (compareBytes)

/-- Compared by length first, by bytes second. -/
def dcmp (a b : List UInt8) : Int := if a.length < b.length then -1 else if b.length < a.length then 1 else compareBytes a b
/-- The first of three that is not nought. -/
def lex3 (a b c : Int) : Int := if a ≠ 0 then a else if b ≠ 0 then b else c

theorem compareBytes_self : ∀ a : List UInt8, compareBytes a a = 0
  | [] => rfl
  | a :: as => by
    have h : ¬ a < a := by simp
    rw [compareBytes, if_neg h, if_neg h, compareBytes_self as]

theorem compareBytes_swap : ∀ a b : List UInt8, compareBytes b a = -compareBytes a b
  | [], [] => rfl
  | [], _ :: _ => rfl
  | _ :: _, [] => rfl
  | a :: as, b :: bs => by
    rw [compareBytes, compareBytes]
    by_cases h1 : a < b
    · have h2 : ¬ b < a := by
        intro h
        have := UInt8.lt_iff_toNat_lt.1 h1
        have := UInt8.lt_iff_toNat_lt.1 h
        omega
      rw [if_neg h2, if_pos h1, if_pos h1]
      rfl
    · by_cases h2 : b < a
      · rw [if_pos h2, if_neg h1, if_pos h2]
      · rw [if_neg h2, if_neg h1, if_neg h1, if_neg h2]
        exact compareBytes_swap as bs

theorem dcmp_self (a : List UInt8) : dcmp a a = 0 := by
  simp [dcmp, compareBytes_self]

theorem dcmp_swap (a b : List UInt8) : dcmp b a = -dcmp a b := by
  unfold dcmp
  by_cases h1 : a.length < b.length
  · rw [if_neg (by omega), if_pos h1, if_pos h1]
    rfl
  · by_cases h2 : b.length < a.length
    · rw [if_pos h2, if_neg h1, if_pos h2]
    · rw [if_neg h2, if_neg h1, if_neg h1, if_neg h2]
      exact compareBytes_swap a b

theorem lex3_neg (a b c : Int) : lex3 (-a) (-b) (-c) = -lex3 a b c := by
  unfold lex3
  by_cases ha : a = 0
  · by_cases hb : b = 0
    · simp [ha, hb]
    · simp [ha, hb]
  · simp [ha]

theorem compareBytes_range : ∀ a b : List UInt8, -1 ≤ compareBytes a b ∧ compareBytes a b ≤ 1
  | [], [] => by decide
  | [], _ :: _ => by simp [compareBytes]
  | _ :: _, [] => by simp [compareBytes]
  | a :: as, b :: bs => by
    rw [compareBytes]
    split
    · decide
    · split
      · decide
      · exact compareBytes_range as bs

theorem dcmp_range (a b : List UInt8) : -1 ≤ dcmp a b ∧ dcmp a b ≤ 1 := by
  unfold dcmp
  split
  · decide
  · split
    · decide
    · exact compareBytes_range a b

theorem lex3_range {a b c : Int} (ha : -1 ≤ a ∧ a ≤ 1) (hb : -1 ≤ b ∧ b ≤ 1) (hc : -1 ≤ c ∧ c ≤ 1) : -1 ≤ lex3 a b c ∧ lex3 a b c ≤ 1 := by
  unfold lex3
  split
  · exact ha
  · split
    · exact hb
    · exact hc

/-- Two lists that agree up to place k and part there. -/
theorem compareBytes_lt : ∀ (a b : List UInt8) (k : Nat), a.take k = b.take k → ∀ x y, a[k]? = some x → b[k]? = some y → x < y → compareBytes a b = -1
  | [], _, k, _, x, _, hx, _, _ => by simp at hx
  | _ :: _, [], k, _, _, y, _, hy, _ => by simp at hy
  | a :: as, b :: bs, 0, _, x, y, hx, hy, h => by
    simp at hx hy
    subst hx; subst hy
    rw [compareBytes, if_pos h]
  | a :: as, b :: bs, k + 1, ht, x, y, hx, hy, h => by
    simp only [List.take_succ_cons, List.cons.injEq] at ht
    obtain ⟨rfl, ht⟩ := ht
    have hn : ¬ a < a := by simp
    rw [compareBytes, if_neg hn, if_neg hn]
    exact compareBytes_lt as bs k ht x y (by simpa using hx) (by simpa using hy) h

theorem compareBytes_gt (a b : List UInt8) (k : Nat) (ht : a.take k = b.take k) (x y : UInt8) (hx : a[k]? = some x) (hy : b[k]? = some y) (h : y < x) : compareBytes a b = 1 := by
  have := compareBytes_lt b a k ht.symm y x hy hx h
  rw [compareBytes_swap b a, this]
  rfl

theorem dcmp_short {a b : List UInt8} (h : a.length < b.length) : dcmp a b = -1 := by rw [dcmp, if_pos h]
theorem dcmp_long {a b : List UInt8} (h : b.length < a.length) : dcmp a b = 1 := by rw [dcmp, if_neg (by omega), if_pos h]
theorem dcmp_same {a b : List UInt8} (h : a.length = b.length) : dcmp a b = compareBytes a b := by rw [dcmp, if_neg (by omega), if_neg (by omega)]

/-- What the law's own test of form lets by. -/
structure Canon (s : ByteArray) : Prop where
  pos : 0 < s.size
  digits : ∀ i (h : i < s.size), 48 ≤ (s[i].toNat : Int) ∧ (s[i].toNat : Int) ≤ 57
  lead : ∀ _h : 1 < s.size, (s[0].toNat : Int) ≠ 48

end Go.Proofs.Qxb6617793a
