/-
  Seat b6616331a: zzAscending, zzHas.
-/
import Derived.Test.Qxb6616331aMembers
import Derived.Test.Qxb6616331aWalks
import Derived.Deep.QuietTactic
import Derived.BigQuiet
import Derived.Lib.Strings
namespace Go.Proofs.Qxb6616331a
open Go.ChangeShapes Go.WideShapes Go.ChangeAt Go.RowKit
set_option linter.unusedVariables false

/-- The j-th string. -/
def strAt (zs : List Str) (j : Nat) : ByteArray := ⟨(zs[j]?.getD []).toArray⟩
theorem strAt_toList (zs : List Str) (j : Nat) : (strAt zs j).toList = zs[j]?.getD [] := by
  rw [Lib.toList_data]
  simp [strAt]

/-- Block g's first m cells hold the strings of zs. -/
def Cells (w : World) (g : Nat) (zs : List Str) (m : Nat) : Prop := ∀ j, j < m → w.cell? ⟨g, j, none⟩ = some (.string (strAt zs j))

set_option maxRecDepth 100000 in
set_option maxHeartbeats 1000000 in
theorem asc_any (g c : Nat) (zs : List Str) (w : World) (hlen : zs.length ≤ 1048576) (hc : Cells w g zs zs.length) (hasc : ∀ j, j + 1 < zs.length → Op.bytesLess (strAt zs j).toList (strAt zs (j + 1)).toList = true) :
    Calls Try.prog 12 #[.slice (some ⟨g, 0, none⟩) zs.length c] w fun e w' => e = .returned (.bool true) ∧ ∃ q, w' = w.drewN q := by
  obtain ⟨m, hm⟩ : ∃ m, m = zs.length := ⟨_, rfl⟩
  rw [← hm] at hlen hc hasc ⊢
  clear hm
  go_enter Try.func12, Try.ntmps12
  go_wp2_with fail
  go_loopw [3] (fun i wr => ∃ k : Nat, (k < m ∨ k = 0) ∧ i = .int .i64 ((k : Int) + 1) ∧ ∃ q, wr = w.drewN q) (fun i _ => m + 1 - (intOf i).toNat)
  case atStart => exact ⟨0, .inr rfl, rfl, 0, rfl⟩
  case round =>
    obtain ⟨k, hk, rfl, q, rfl⟩ := hrel
    by_cases hlt : k + 1 < m
    · have c0 := hc k (by omega)
      have c1 := hc (k + 1) hlt
      have ha := hasc k hlt
      have i1 : (k : Int) + 1 < (m : Int) := by omega
      have i0 : (k : Int) < (m : Int) := by omega
      clear hasc hc
      go_wp2_with fail
      go_quiet (fail)
      go_wp2_with fail
      go_roundw
      case rel => exact ⟨k + 1, .inl (by omega), by go_num, _, rfl⟩
      case measure => simp [intOf]; omega
    · have i1 : ¬ (k : Int) + 1 < (m : Int) := by omega
      clear hasc hc
      go_wp2_with fail
      go_ret
      exact ⟨rfl, q, rfl⟩

set_option maxRecDepth 100000 in
set_option maxHeartbeats 400000 in
theorem asc_nil (w : World) : Calls Try.prog 12 #[.slice none 0 0] w fun e w' => e = .returned (.bool true) ∧ w' = w := by
  go_enter Try.func12, Try.ntmps12
  go_wp2_with fail
  refine wp_loop_rounds 1 ?_
  rw [rounds_succ]
  go_wp2_with fail
  go_ret
  exact ⟨rfl, rfl⟩

set_option maxRecDepth 100000 in
set_option maxHeartbeats 1000000 in
theorem has_any (g c n : Nat) (zs : List Str) (x : ByteArray) (w : World) (hlen : n ≤ 1048576) (hc : Cells w g zs n) (j0 : Nat) (hj0 : j0 < n) (he : ((strAt zs j0).toList == x.toList) = true) :
    Calls Try.prog 13 #[.slice (some ⟨g, 0, none⟩) n c, .string x] w fun e w' => e = .returned (.bool true) ∧ w' = w := by
  have HE : Hid (((strAt zs j0).toList == x.toList) = true) := he
  clear he
  go_enter Try.func13, Try.ntmps13
  go_wp2_with fail
  go_loop [5] (fun i => ∃ k : Nat, k ≤ j0 ∧ i = .int .i64 (k : Int)) (fun i => n - (intOf i).toNat)
  case atStart => exact ⟨0, Nat.zero_le _, rfl⟩
  case round =>
    obtain ⟨k, hk, rfl⟩ := hrel
    have hlt : k < n := by omega
    have c0 := hc k hlt
    have i0 : (k : Int) < (n : Int) := by omega
    cases hb : ((strAt zs k).toList == x.toList)
    · have hne : k ≠ j0 := by
        intro e
        subst e
        rw [HE.out] at hb
        cases hb
      have hk' : k + 1 ≤ j0 := by omega
      clear hc hne
      go_wp2_with fail
      go_round
      case rel => exact ⟨k + 1, hk', by go_num⟩
      case measure => simp [intOf]; omega
    · clear hc
      go_wp2_with fail
      go_ret
      exact ⟨rfl, rfl⟩

end Go.Proofs.Qxb6616331a
