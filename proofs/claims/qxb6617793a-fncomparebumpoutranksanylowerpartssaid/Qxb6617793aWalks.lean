/-
  Seat b6617793a: the walks of the small callees.
-/
import Derived.Test.Qxb6617793aProg
import Derived.Test.Qxb6617793aPlain
import Derived.WalkKit
import Derived.ProofKit
import Derived.WalkSpells
import Derived.Lib.Strings
import Derived.Lib.Walk
import Derived.Lib.Bytealg
import Derived.Deep.QuietTactic
import Derived.BigQuiet
namespace Go.Proofs.Qxb6617793a
open Go.ChangeShapes Go.WideShapes Go.ChangeAt Go.RowKit
set_option linter.unusedVariables false

theorem ret_int {k : IntKind} {a b : Int} (h : a = b) : Ending.returned (.int k a) = .returned (.int k b) := by rw [h]
theorem ret_bool {a b : Bool} (h : a = b) : Ending.returned (.bool a) = .returned (.bool b) := by rw [h]

set_option maxHeartbeats 1000000 in
set_option maxRecDepth 100000 in
/-- internal/bytealg.CompareString: after the shelf's template. -/
theorem compareString_any (a b : ByteArray) (w : World) :
    Calls Try.prog 20 #[.string a, .string b] w fun e w' => e = .returned (.int .i64 (Lib.compareBytes a.data.toList b.data.toList)) ∧ w' = w := by
  go_enter Try.func20, Try.ntmps20
  go_wp2
  rw [run_callFunc_extern Try.func21 (by kernel_rfl) (by kernel_rfl) (by kernel_rfl) (e := Extern.BytealgCompare.compare) (by kernel_rfl), Lib.run_compareString]
  simp only [Result.andThen]
  rw [Oper.upon_value]
  go_wp2
  go_ret
  exact ⟨rfl, rfl⟩

theorem compare_any (a b : ByteArray) (w : World) :
    Calls Try.prog 18 #[.string a, .string b] w fun e w' => e = .returned (.int .i64 (Lib.compareBytes a.data.toList b.data.toList)) ∧ w' = w := by
  go_enter Try.func18, Try.ntmps18
  go_wp2_with (go_at_call 20; refine (compareString_any _ _ _).mono ?_; rintro e w' ⟨rfl, hw⟩; have hw' := hw.symm; subst hw'; clear hw)
  go_ret
  exact ⟨rfl, rfl⟩

/-- A bool comes back; where it is yes, the string has the documented form. -/
def SaysCanon (s : ByteArray) (e : Ending) : Prop := ∃ r, e = .returned (.bool r) ∧ (r = true → Canon s)
theorem SaysCanon.no {s : ByteArray} : SaysCanon s (.returned (.bool false)) := ⟨false, rfl, fun h => by cases h⟩
theorem SaysCanon.yes {s : ByteArray} (h : Canon s) : SaysCanon s (.returned (.bool true)) := ⟨true, rfl, fun _ => h⟩

set_option maxHeartbeats 1000000 in
theorem canon_any (s : ByteArray) (w : World) (hs : s.size ≤ 1048576) :
    Calls Try.prog 8 #[.string s] w fun e w' => SaysCanon s e ∧ w' = w := by
  by_cases h0 : s.size = 0
  · have e0 : ((s.size : Int) == 0) = true := by simp [h0]
    have H0 : Hid (s.size = 0) := h0
    clear h0
    go_enter Try.func8, Try.ntmps8
    go_wp2
    go_ret
    exact ⟨SaysCanon.no, rfl⟩
  · have e0 : ((s.size : Int) == 0) = false := by simpa using h0
    have hpos : 0 < s.size := by omega
    clear h0
    go_enter Try.func8, Try.ntmps8
    go_wp2
    go_loop [3] (fun i => ∃ k : Nat, k ≤ s.size ∧ i = .int .i64 k ∧ Hid (∀ j (h : j < s.size), j < k → 48 ≤ (s[j].toNat : Int) ∧ (s[j].toNat : Int) ≤ 57)) (fun i => s.size - (intOf i).toNat)
    case atStart => exact ⟨0, Nat.zero_le _, rfl, fun j _ h => absurd h (Nat.not_lt_zero _)⟩
    case round =>
      obtain ⟨k, hk, rfl, HD⟩ := hrel
      by_cases hlt : k < s.size
      · by_cases h1 : (48 : Int) ≤ (s[k].toNat : Int)
        · by_cases h2 : (s[k].toNat : Int) ≤ 57
          · have HN : Hid (∀ j (h : j < s.size), j < k + 1 → 48 ≤ (s[j].toNat : Int) ∧ (s[j].toNat : Int) ≤ 57) := by
              intro j h hj
              by_cases hjk : j = k
              · subst hjk
                exact ⟨h1, h2⟩
              · exact HD.out j h (by omega)
            clear HD
            go_wp2
            go_round
            case rel => exact ⟨k + 1, by omega, by go_num, HN⟩
            case measure => simp [intOf]; omega
          · go_wp2
            go_ret
            exact ⟨SaysCanon.no, rfl⟩
        · go_wp2
          go_ret
          exact ⟨SaysCanon.no, rfl⟩
      · have hd : Hid (∀ j (h : j < s.size), 48 ≤ (s[j].toNat : Int) ∧ (s[j].toNat : Int) ≤ 57) := fun j h => HD.out j h (by omega)
        clear HD
        go_wp2
        · go_ret
          exact ⟨SaysCanon.no, rfl⟩
        · go_ret
          have h1 : (s.size : Int) ≤ 1 := by assumption
          exact ⟨SaysCanon.yes ⟨hpos, hd.out, fun h => by omega⟩, rfl⟩
        · go_ret
          have h1 : ¬ ((s[0].toNat : Int) = 48) := by assumption
          exact ⟨SaysCanon.yes ⟨hpos, hd.out, fun _ => h1⟩, rfl⟩

/-- Some bool comes back. -/
def SaysAny (e : Ending) : Prop := ∃ r, e = .returned (.bool r)

set_option maxHeartbeats 1000000 in
theorem bytes7_any (a0 a1 a2 a3 a4 a5 a6 a7 : ByteArray) (w : World) :
    Calls Try.prog 7 #[.string a0, .string a1, .string a2, .string a3, .string a4, .string a5, .string a6, .string a7] w fun e w' => SaysAny e ∧ w' = w := by
  go_enter Try.func7, Try.ntmps7
  go_wp2
  all_goals (go_ret; exact ⟨⟨_, rfl⟩, rfl⟩)

set_option maxHeartbeats 1000000 in
theorem bytes16_any (a0 a1 a2 a3 : ByteArray) (k : Int) (a5 a6 a7 : ByteArray) (w : World) :
    Calls Try.prog 16 #[.string a0, .string a1, .string a2, .string a3, .int .i64 k, .string a5, .string a6, .string a7] w fun e w' => SaysAny e ∧ w' = w := by
  go_enter Try.func16, Try.ntmps16
  go_wp2
  all_goals (go_ret; exact ⟨⟨_, rfl⟩, rfl⟩)

end Go.Proofs.Qxb6617793a
