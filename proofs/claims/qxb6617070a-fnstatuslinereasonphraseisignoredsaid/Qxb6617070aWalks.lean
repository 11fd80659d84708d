/-
  Seat b6617070a: the walks of the callees: isDigit, zzIsDigit, decimal, bytes.Equal, bytes.HasPrefix, the size guard.
-/
import Derived.Test.Qxb6617070aProg
import Derived.Test.Qxb6617070aPlain
import Derived.WalkKit
import Derived.ProofKit
import Derived.WalkSpells
import Derived.Laws.BytesArg
import Derived.Lib.SlBytesConst
import Derived.Lib.Bytes
import Derived.Lib.Walk
import Derived.Deep.QuietTactic
import Derived.BigQuiet
namespace Go.Proofs.Qxb6617070a
open Go.ChangeShapes Go.WideShapes Go.ChangeAt Go.RowKit
set_option linter.unusedVariables false

theorem ret_bool {a b : Bool} (h : a = b) : Ending.returned (.bool a) = .returned (.bool b) := by rw [h]

theorem ret_ib {k : IntKind} {a a' : Int} {b : Bool} (h : a = a') : Ending.returned (.tuple #[.int k a, .bool b]) = .returned (.tuple #[.int k a', .bool b]) := by rw [h]
theorem ret_iib {k : IntKind} {a a' c c' : Int} {b b' : Bool} (h : a = a') (h1 : c = c') (h2 : b = b') : Ending.returned (.tuple #[.int k a, .int k c, .bool b]) = .returned (.tuple #[.int k a', .int k c', .bool b']) := by rw [h, h1, h2]

theorem dig_any (c : Int) (w : World) :
    Calls Try.prog 27 #[.int .u8 c] w fun e w' => e = .returned (.bool (dig c)) ∧ w' = w := by
  by_cases h1 : 48 ≤ c
  · by_cases h2 : c ≤ 57
    · go_enter Try.func27, Try.ntmps27
      go_wp2
      go_ret
      exact ⟨ret_bool (by simp [dig, h1, h2]), rfl⟩
    · go_enter Try.func27, Try.ntmps27
      go_wp2
      go_ret
      exact ⟨ret_bool (by simp [dig, h1, h2]), rfl⟩
  · go_enter Try.func27, Try.ntmps27
    go_wp2
    go_ret
    exact ⟨ret_bool (by simp [dig]; omega), rfl⟩

theorem zdig_any (c : Int) (w : World) :
    Calls Try.prog 24 #[.int .u8 c] w fun e w' => e = .returned (.bool (dig c)) ∧ w' = w := by
  by_cases h1 : 48 ≤ c
  · by_cases h2 : c ≤ 57
    · go_enter Try.func24, Try.ntmps24
      go_wp2
      go_ret
      exact ⟨ret_bool (by simp [dig, h1, h2]), rfl⟩
    · go_enter Try.func24, Try.ntmps24
      go_wp2
      go_ret
      exact ⟨ret_bool (by simp [dig, h1, h2]), rfl⟩
  · go_enter Try.func24, Try.ntmps24
    go_wp2
    go_ret
    exact ⟨ret_bool (by simp [dig]; omega), rfl⟩

theorem dig_range {c : Int} (h : dig c = true) : 48 ≤ c ∧ c ≤ 57 := by
  simp [dig] at h; omega

set_option maxRecDepth 100000 in
set_option maxHeartbeats 1000000 in
/-- decimal, at three bytes. -/
theorem decimal_yes (b off c : Nat) (x y z : Int) (w : World) (h0 : w.cell? ⟨b, off, none⟩ = some (.int .u8 x)) (h1 : w.cell? ⟨b, off + 1, none⟩ = some (.int .u8 y)) (h2 : w.cell? ⟨b, off + 2, none⟩ = some (.int .u8 z))
    (dx : dig x = true) (dy : dig y = true) (dz : dig z = true) :
    Calls Try.prog 23 #[.slice (some ⟨b, off, none⟩) 3 c] w fun e w' => e = .returned (.tuple #[.int .i64 (100 * (x - 48) + 10 * (y - 48) + (z - 48)), .bool true]) ∧ w' = w := by
  have rx := dig_range dx
  have ry := dig_range dy
  have rz := dig_range dz
  obtain ⟨rx1, rx2⟩ := rx
  obtain ⟨ry1, ry2⟩ := ry
  obtain ⟨rz1, rz2⟩ := rz
  go_enter Try.func23, Try.ntmps23
  go_wp2_with (go_at_call 27; refine (dig_any _ _).mono ?_; rintro e w' ⟨rfl, hw⟩; have hw' := hw.symm; subst hw'; clear hw)
  refine wp_loop_rounds 4 ?_
  iterate 4 (rw [rounds_succ]; go_wp2_with (go_at_call 27; refine (dig_any _ _).mono ?_; rintro e w' ⟨rfl, hw⟩; have hw' := hw.symm; subst hw'; clear hw))
  go_ret2
  exact ⟨ret_ib (by omega), rfl⟩

set_option maxRecDepth 100000 in
set_option maxHeartbeats 1000000 in
theorem decimal_no0 (b off c : Nat) (x : Int) (w : World) (h0 : w.cell? ⟨b, off, none⟩ = some (.int .u8 x)) (dx : dig x = false) :
    Calls Try.prog 23 #[.slice (some ⟨b, off, none⟩) 3 c] w fun e w' => e = .returned (.tuple #[.int .i64 0, .bool false]) ∧ w' = w := by
  go_enter Try.func23, Try.ntmps23
  go_wp2_with fail
  refine wp_loop_rounds 1 ?_
  rw [rounds_succ]
  go_wp2_with (go_at_call 27; refine (dig_any _ _).mono ?_; rintro e w' ⟨rfl, hw⟩; have hw' := hw.symm; subst hw'; clear hw)
  go_ret2
  exact ⟨rfl, rfl⟩

set_option maxRecDepth 100000 in
set_option maxHeartbeats 1000000 in
theorem decimal_no1 (b off c : Nat) (x y : Int) (w : World) (h0 : w.cell? ⟨b, off, none⟩ = some (.int .u8 x)) (h1 : w.cell? ⟨b, off + 1, none⟩ = some (.int .u8 y)) (dx : dig x = true) (dy : dig y = false) :
    Calls Try.prog 23 #[.slice (some ⟨b, off, none⟩) 3 c] w fun e w' => e = .returned (.tuple #[.int .i64 0, .bool false]) ∧ w' = w := by
  obtain ⟨rx1, rx2⟩ := dig_range dx
  go_enter Try.func23, Try.ntmps23
  go_wp2_with fail
  refine wp_loop_rounds 2 ?_
  iterate 2 (rw [rounds_succ]; go_wp2_with (go_at_call 27; refine (dig_any _ _).mono ?_; rintro e w' ⟨rfl, hw⟩; have hw' := hw.symm; subst hw'; clear hw))
  go_ret2
  exact ⟨rfl, rfl⟩

set_option maxRecDepth 100000 in
set_option maxHeartbeats 1000000 in
theorem decimal_no2 (b off c : Nat) (x y z : Int) (w : World) (h0 : w.cell? ⟨b, off, none⟩ = some (.int .u8 x)) (h1 : w.cell? ⟨b, off + 1, none⟩ = some (.int .u8 y)) (h2 : w.cell? ⟨b, off + 2, none⟩ = some (.int .u8 z))
    (dx : dig x = true) (dy : dig y = true) (dz : dig z = false) :
    Calls Try.prog 23 #[.slice (some ⟨b, off, none⟩) 3 c] w fun e w' => e = .returned (.tuple #[.int .i64 0, .bool false]) ∧ w' = w := by
  obtain ⟨rx1, rx2⟩ := dig_range dx
  obtain ⟨ry1, ry2⟩ := dig_range dy
  go_enter Try.func23, Try.ntmps23
  go_wp2_with fail
  refine wp_loop_rounds 3 ?_
  iterate 3 (rw [rounds_succ]; go_wp2_with (go_at_call 27; refine (dig_any _ _).mono ?_; rintro e w' ⟨rfl, hw⟩; have hw' := hw.symm; subst hw'; clear hw))
  go_ret2
  exact ⟨rfl, rfl⟩

/-- decimal, at three bytes, one of which is no digit. -/
theorem decimal_no (b off c : Nat) (x y z : Int) (w : World) (h0 : w.cell? ⟨b, off, none⟩ = some (.int .u8 x)) (h1 : w.cell? ⟨b, off + 1, none⟩ = some (.int .u8 y)) (h2 : w.cell? ⟨b, off + 2, none⟩ = some (.int .u8 z))
    (h : (dig x && dig y && dig z) = false) :
    Calls Try.prog 23 #[.slice (some ⟨b, off, none⟩) 3 c] w fun e w' => e = .returned (.tuple #[.int .i64 0, .bool false]) ∧ w' = w := by
  cases dx : dig x
  · exact decimal_no0 b off c x w h0 dx
  · cases dy : dig y
    · exact decimal_no1 b off c x y w h0 h1 dx dy
    · cases dz : dig z
      · exact decimal_no2 b off c x y z w h0 h1 h2 dx dy dz
      · rw [dx, dy, dz] at h; cases h

/-- bytes.Equal: after the shelf's template. -/
theorem equal_any (v1 v2 : Value) (xs ys : List Int) (w : World)
    (h1 : (convert 22 9 v1).run Try.prog w = .ok (.string (strOfNums xs)) w) (h2 : (convert 22 9 v2).run Try.prog w = .ok (.string (strOfNums ys)) w) :
    Calls Try.prog 29 #[v1, v2] w fun e w' => e = .returned (.bool (Lib.bytesOf xs == Lib.bytesOf ys)) ∧ w' = w := by
  rw [← Lib.strOfNums_toList, ← Lib.strOfNums_toList]
  go_enter Try.func29, Try.ntmps29
  go_wp2
  go_ret
  exact ⟨rfl, rfl⟩

set_option maxHeartbeats 1000000 in
/-- bytes.HasPrefix, at the protocol's name. -/
theorem hasPrefix_any (b1 o1 n c b2 : Nat) (d : Nat) (z : Nat → Int) (w : World) (hn : 7 ≤ n) (hnm : n ≤ 9223372036854775807) (hnc : n ≤ c) (hz : ∀ i, i < 7 → 0 ≤ z i ∧ z i ≤ 255)
    (hc1 : ∀ i, i < 7 → w.cell? ⟨b1, o1 + i, none⟩ = some (.int .u8 (z i))) (hc2 : ∀ i, i < 7 → w.cell? ⟨b2, 0 + i, none⟩ = some (.int .u8 (([72, 84, 84, 80, 47, 49, 46] : List Int).getD i 0))) :
    Calls Try.prog 28 #[.slice (some ⟨b1, o1, none⟩) n c, .slice (some ⟨b2, 0, none⟩) 7 d] w fun e w' => e = .returned (.bool (pre z)) ∧ w' = w := by
  have g2 := run_convert_bytes_arg (P := Try.prog) w 22 5 Try.underlying22 Try.underlying5 b2 0 7 d [72, 84, 84, 80, 47, 49, 46] rfl hc2 9 Try.underlying9
  have g1 : (convert 22 9 (.slice (some ⟨b1, o1, none⟩) 7 c)).run Try.prog w = .ok (.string (strOfNums [z 0, z 1, z 2, z 3, z 4, z 5, z 6])) w :=
    run_convert_bytes_arg (P := Try.prog) w 22 5 Try.underlying22 Try.underlying5 b1 o1 7 c [z 0, z 1, z 2, z 3, z 4, z 5, z 6] rfl (fun i hi => by
      rw [hc1 i hi]
      match i, hi with
      | 0, _ => rfl
      | 1, _ => rfl
      | 2, _ => rfl
      | 3, _ => rfl
      | 4, _ => rfl
      | 5, _ => rfl
      | 6, _ => rfl) 9 Try.underlying9
  have hp := pre_bytes z hz
  have HP : Hid ((Lib.bytesOf [z 0, z 1, z 2, z 3, z 4, z 5, z 6] == Lib.bytesOf [72, 84, 84, 80, 47, 49, 46]) = pre z) := hp
  clear hp hc1 hc2
  have hn' : (7 : Int) ≤ (n : Int) := by omega
  have E := equal_any _ _ _ _ w g1 g2
  rw [HP.out] at E
  clear g1 g2
  go_enter Try.func28, Try.ntmps28
  go_wp2_with (go_at_call 29; refine E.mono ?_; rintro e w' ⟨rfl, hw⟩; have hw' := hw.symm; subst hw'; clear hw)
  go_ret
  exact ⟨rfl, rfl⟩

end Go.Proofs.Qxb6617070a
