/-
  Seat b6617793a: the walk of FnCompareBumpOutranksAnyLowerParts.
-/
import Derived.Test.Qxb6617793aAgrees
import Derived.Test.Qxb6617793aInc
namespace Go.Proofs.Qxb6617793a
open Go.ChangeShapes Go.WideShapes Go.ChangeAt Go.RowKit
set_option linter.unusedVariables false

set_option maxRecDepth 100000 in
set_option maxHeartbeats 4000000 in
theorem bump_out (a0 a1 a2 a3 : ByteArray) (k : Int) (a5 a6 a7 : ByteArray) (w : World) (hk : k < 0 ∨ 2 < k) :
    Calls Try.prog 6 #[.string a0, .string a1, .string a2, .string a3, .int .i64 k, .string a5, .string a6, .string a7] w fun e w' => e = .returned (.bool true) ∧ Below w.heap.size w w' := by
  have HK : Hid (k < 0 ∨ 2 < k) := hk
  clear hk
  go_enter Try.func6, Try.ntmps6
  go_wp2_with fail
  refine (bytes16_any _ _ _ _ _ _ _ _ _).mono ?_
  rintro e w' ⟨⟨r, rfl⟩, hw⟩; have hw' := hw.symm; subst hw'; clear hw
  cases r
  · go_wp2_with fail
    go_ret
    exact ⟨rfl, Below.refl _ _⟩
  by_cases s0 : a0.size ≤ 131072
  case neg =>
    go_wp2_with fail
    go_ret
    exact ⟨rfl, Below.refl _ _⟩
  by_cases s1 : a1.size ≤ 131072
  case neg =>
    go_wp2_with fail
    go_ret
    exact ⟨rfl, Below.refl _ _⟩
  by_cases s2 : a2.size ≤ 131072
  case neg =>
    go_wp2_with fail
    go_ret
    exact ⟨rfl, Below.refl _ _⟩
  by_cases s3 : a3.size ≤ 131072
  case neg =>
    go_wp2_with fail
    go_ret
    exact ⟨rfl, Below.refl _ _⟩
  by_cases s5 : a5.size ≤ 131072
  case neg =>
    go_wp2_with fail
    go_ret
    exact ⟨rfl, Below.refl _ _⟩
  by_cases s6 : a6.size ≤ 131072
  case neg =>
    go_wp2_with fail
    go_ret
    exact ⟨rfl, Below.refl _ _⟩
  by_cases s7 : a7.size ≤ 131072
  case neg =>
    go_wp2_with fail
    go_ret
    exact ⟨rfl, Below.refl _ _⟩
  rcases HK.out with h | h
  · go_wp2_with fail
    go_ret
    exact ⟨rfl, Below.refl _ _⟩
  · have h' : ¬ k < 0 := by omega
    go_wp2_with fail
    go_ret
    exact ⟨rfl, Below.refl _ _⟩

set_option maxRecDepth 100000 in
set_option maxHeartbeats 4000000 in
theorem bump_0 (a0 a1 a2 a3 a5 a6 a7 : ByteArray) (w : World) :
    Calls Try.prog 6 #[.string a0, .string a1, .string a2, .string a3, .int .i64 0, .string a5, .string a6, .string a7] w fun e w' => e = .returned (.bool true) ∧ Below w.heap.size w w' := by
  go_enter Try.func6, Try.ntmps6
  go_wp2_with fail
  refine (bytes16_any _ _ _ _ _ _ _ _ _).mono ?_
  rintro e w' ⟨⟨r, rfl⟩, hw⟩; have hw' := hw.symm; subst hw'; clear hw
  cases r
  · go_wp2_with fail
    go_ret
    exact ⟨rfl, Below.refl _ _⟩
  by_cases s0 : a0.size ≤ 131072
  case neg =>
    go_wp2_with fail
    go_ret
    exact ⟨rfl, Below.refl _ _⟩
  by_cases s1 : a1.size ≤ 131072
  case neg =>
    go_wp2_with fail
    go_ret
    exact ⟨rfl, Below.refl _ _⟩
  by_cases s2 : a2.size ≤ 131072
  case neg =>
    go_wp2_with fail
    go_ret
    exact ⟨rfl, Below.refl _ _⟩
  by_cases s3 : a3.size ≤ 131072
  case neg =>
    go_wp2_with fail
    go_ret
    exact ⟨rfl, Below.refl _ _⟩
  by_cases s5 : a5.size ≤ 131072
  case neg =>
    go_wp2_with fail
    go_ret
    exact ⟨rfl, Below.refl _ _⟩
  by_cases s6 : a6.size ≤ 131072
  case neg =>
    go_wp2_with fail
    go_ret
    exact ⟨rfl, Below.refl _ _⟩
  by_cases s7 : a7.size ≤ 131072
  case neg =>
    go_wp2_with fail
    go_ret
    exact ⟨rfl, Below.refl _ _⟩
  go_wp2_with fail
  refine (canon_any a1 _ (by omega)).mono ?_
  rintro e w' ⟨⟨r, rfl, hr⟩, hw⟩; have hw' := hw.symm; subst hw'; clear hw
  cases r
  · clear hr
    go_wp2_with fail
    go_ret
    exact ⟨rfl, Below.refl _ _⟩
  have C1 := hr rfl
  clear hr
  go_wp2_with fail
  refine (canon_any a2 _ (by omega)).mono ?_
  rintro e w' ⟨⟨r, rfl, hr⟩, hw⟩; have hw' := hw.symm; subst hw'; clear hw
  cases r
  · clear hr
    go_wp2_with fail
    go_ret
    exact ⟨rfl, Below.refl _ _⟩
  have C2 := hr rfl
  clear hr
  go_wp2_with fail
  refine (canon_any a3 _ (by omega)).mono ?_
  rintro e w' ⟨⟨r, rfl, hr⟩, hw⟩; have hw' := hw.symm; subst hw'; clear hw
  cases r
  · clear hr
    go_wp2_with fail
    go_ret
    exact ⟨rfl, Below.refl _ _⟩
  have C3 := hr rfl
  clear hr
  go_wp2_with fail
  refine (canon_any a5 _ (by omega)).mono ?_
  rintro e w' ⟨⟨r, rfl, hr⟩, hw⟩; have hw' := hw.symm; subst hw'; clear hw
  cases r
  · clear hr
    go_wp2_with fail
    go_ret
    exact ⟨rfl, Below.refl _ _⟩
  have C5 := hr rfl
  clear hr
  go_wp2_with fail
  refine (canon_any a6 _ (by omega)).mono ?_
  rintro e w' ⟨⟨r, rfl, hr⟩, hw⟩; have hw' := hw.symm; subst hw'; clear hw
  cases r
  · clear hr
    go_wp2_with fail
    go_ret
    exact ⟨rfl, Below.refl _ _⟩
  have C6 := hr rfl
  clear hr
  go_wp2_with fail
  refine (zinc_any a1 w s1 C1).mono ?_
  rintro e w1 ⟨⟨r, rfl, h1, hrs⟩, hb1⟩
  clear C1 C2 C3 C5 C6
  have E11 : Hid (∀ w, Calls Try.prog 11 #[.agg #[.string a0, .string a1, .string a2, .string a3], .agg #[.string a7, .string r, .string a5, .string a6]] w fun e w' => e = .returned (.int .i64 (-1)) ∧ Below w.heap.size w w') := by
    intro w
    have e : lex3 (dcmp a1.data.toList r.data.toList) (dcmp a2.data.toList a5.data.toList) (dcmp a3.data.toList a6.data.toList) = -1 := by simp [lex3, h1]
    have := compare_core a0 a1 a2 a3 a7 r a5 a6 w (by omega) (by omega) (by omega) (by omega) (by omega) (by omega)
    rw [e] at this
    exact this
  have E12 : Hid (∀ w, Calls Try.prog 11 #[.agg #[.string a7, .string r, .string a5, .string a6], .agg #[.string a0, .string a1, .string a2, .string a3]] w fun e w' => e = .returned (.int .i64 1) ∧ Below w.heap.size w w') := by
    intro w
    have h2 : dcmp r.data.toList a1.data.toList = 1 := by rw [dcmp_swap a1.data.toList, h1]; rfl
    have e : lex3 (dcmp r.data.toList a1.data.toList) (dcmp a5.data.toList a2.data.toList) (dcmp a6.data.toList a3.data.toList) = 1 := by simp [lex3, h2]
    have := compare_core a7 r a5 a6 a0 a1 a2 a3 w (by omega) (by omega) (by omega) (by omega) (by omega) (by omega)
    rw [e] at this
    exact this
  clear h1 hrs
  go_wp2_with (go_at_call 9; refine (version_any _ _ _ _ _).mono ?_; rintro e w' ⟨rfl, rfl⟩)
  refine (E11.out _).mono ?_
  rintro e w3 ⟨rfl, hb3⟩
  have v0 : w3.cell? ⟨w1.heap.size + 1, 0, none⟩ = some (.string a0) := cell_second hb3 0
  have v1 : w3.cell? ⟨w1.heap.size + 1, 1, none⟩ = some (.string a1) := cell_second hb3 1
  have v2 : w3.cell? ⟨w1.heap.size + 1, 2, none⟩ = some (.string a2) := cell_second hb3 2
  have v3 : w3.cell? ⟨w1.heap.size + 1, 3, none⟩ = some (.string a3) := cell_second hb3 3
  have u0 : w3.cell? ⟨w1.heap.size + 1 + 1 + 1, 0, none⟩ = some (.string a7) := cell_fourth hb3 0
  have u1 : w3.cell? ⟨w1.heap.size + 1 + 1 + 1, 1, none⟩ = some (.string r) := cell_fourth hb3 1
  have u2 : w3.cell? ⟨w1.heap.size + 1 + 1 + 1, 2, none⟩ = some (.string a5) := cell_fourth hb3 2
  have u3 : w3.cell? ⟨w1.heap.size + 1 + 1 + 1, 3, none⟩ = some (.string a6) := cell_fourth hb3 3
  have hB3 := hb1.trans ((below_four hb3).mono hb1.size)
  clear hb3 hb1
  go_wp2_with fail
  refine (E12.out _).mono ?_
  rintro e w4 ⟨rfl, hb4⟩
  have hB4 := hB3.trans (hb4.mono hB3.size)
  go_wp2_with fail
  go_ret
  exact ⟨rfl, hB4⟩

set_option maxRecDepth 100000 in
set_option maxHeartbeats 4000000 in
theorem bump_1 (a0 a1 a2 a3 a5 a6 a7 : ByteArray) (w : World) :
    Calls Try.prog 6 #[.string a0, .string a1, .string a2, .string a3, .int .i64 1, .string a5, .string a6, .string a7] w fun e w' => e = .returned (.bool true) ∧ Below w.heap.size w w' := by
  go_enter Try.func6, Try.ntmps6
  go_wp2_with fail
  refine (bytes16_any _ _ _ _ _ _ _ _ _).mono ?_
  rintro e w' ⟨⟨r, rfl⟩, hw⟩; have hw' := hw.symm; subst hw'; clear hw
  cases r
  · go_wp2_with fail
    go_ret
    exact ⟨rfl, Below.refl _ _⟩
  by_cases s0 : a0.size ≤ 131072
  case neg =>
    go_wp2_with fail
    go_ret
    exact ⟨rfl, Below.refl _ _⟩
  by_cases s1 : a1.size ≤ 131072
  case neg =>
    go_wp2_with fail
    go_ret
    exact ⟨rfl, Below.refl _ _⟩
  by_cases s2 : a2.size ≤ 131072
  case neg =>
    go_wp2_with fail
    go_ret
    exact ⟨rfl, Below.refl _ _⟩
  by_cases s3 : a3.size ≤ 131072
  case neg =>
    go_wp2_with fail
    go_ret
    exact ⟨rfl, Below.refl _ _⟩
  by_cases s5 : a5.size ≤ 131072
  case neg =>
    go_wp2_with fail
    go_ret
    exact ⟨rfl, Below.refl _ _⟩
  by_cases s6 : a6.size ≤ 131072
  case neg =>
    go_wp2_with fail
    go_ret
    exact ⟨rfl, Below.refl _ _⟩
  by_cases s7 : a7.size ≤ 131072
  case neg =>
    go_wp2_with fail
    go_ret
    exact ⟨rfl, Below.refl _ _⟩
  go_wp2_with fail
  refine (canon_any a1 _ (by omega)).mono ?_
  rintro e w' ⟨⟨r, rfl, hr⟩, hw⟩; have hw' := hw.symm; subst hw'; clear hw
  cases r
  · clear hr
    go_wp2_with fail
    go_ret
    exact ⟨rfl, Below.refl _ _⟩
  have C1 := hr rfl
  clear hr
  go_wp2_with fail
  refine (canon_any a2 _ (by omega)).mono ?_
  rintro e w' ⟨⟨r, rfl, hr⟩, hw⟩; have hw' := hw.symm; subst hw'; clear hw
  cases r
  · clear hr
    go_wp2_with fail
    go_ret
    exact ⟨rfl, Below.refl _ _⟩
  have C2 := hr rfl
  clear hr
  go_wp2_with fail
  refine (canon_any a3 _ (by omega)).mono ?_
  rintro e w' ⟨⟨r, rfl, hr⟩, hw⟩; have hw' := hw.symm; subst hw'; clear hw
  cases r
  · clear hr
    go_wp2_with fail
    go_ret
    exact ⟨rfl, Below.refl _ _⟩
  have C3 := hr rfl
  clear hr
  go_wp2_with fail
  refine (canon_any a5 _ (by omega)).mono ?_
  rintro e w' ⟨⟨r, rfl, hr⟩, hw⟩; have hw' := hw.symm; subst hw'; clear hw
  cases r
  · clear hr
    go_wp2_with fail
    go_ret
    exact ⟨rfl, Below.refl _ _⟩
  have C5 := hr rfl
  clear hr
  go_wp2_with fail
  refine (canon_any a6 _ (by omega)).mono ?_
  rintro e w' ⟨⟨r, rfl, hr⟩, hw⟩; have hw' := hw.symm; subst hw'; clear hw
  cases r
  · clear hr
    go_wp2_with fail
    go_ret
    exact ⟨rfl, Below.refl _ _⟩
  have C6 := hr rfl
  clear hr
  go_wp2_with fail
  refine (zinc_any a2 w s2 C2).mono ?_
  rintro e w1 ⟨⟨r, rfl, h1, hrs⟩, hb1⟩
  clear C1 C2 C3 C5 C6
  have E11 : Hid (∀ w, Calls Try.prog 11 #[.agg #[.string a0, .string a1, .string a2, .string a3], .agg #[.string a7, .string a1, .string r, .string a6]] w fun e w' => e = .returned (.int .i64 (-1)) ∧ Below w.heap.size w w') := by
    intro w
    have e : lex3 (dcmp a1.data.toList a1.data.toList) (dcmp a2.data.toList r.data.toList) (dcmp a3.data.toList a6.data.toList) = -1 := by simp [lex3, h1, dcmp_self]
    have := compare_core a0 a1 a2 a3 a7 a1 r a6 w (by omega) (by omega) (by omega) (by omega) (by omega) (by omega)
    rw [e] at this
    exact this
  have E12 : Hid (∀ w, Calls Try.prog 11 #[.agg #[.string a7, .string a1, .string r, .string a6], .agg #[.string a0, .string a1, .string a2, .string a3]] w fun e w' => e = .returned (.int .i64 1) ∧ Below w.heap.size w w') := by
    intro w
    have h2 : dcmp r.data.toList a2.data.toList = 1 := by rw [dcmp_swap a2.data.toList, h1]; rfl
    have e : lex3 (dcmp a1.data.toList a1.data.toList) (dcmp r.data.toList a2.data.toList) (dcmp a6.data.toList a3.data.toList) = 1 := by simp [lex3, h2, dcmp_self]
    have := compare_core a7 a1 r a6 a0 a1 a2 a3 w (by omega) (by omega) (by omega) (by omega) (by omega) (by omega)
    rw [e] at this
    exact this
  clear h1 hrs
  go_wp2_with (go_at_call 9; refine (version_any _ _ _ _ _).mono ?_; rintro e w' ⟨rfl, rfl⟩)
  refine (E11.out _).mono ?_
  rintro e w3 ⟨rfl, hb3⟩
  have v0 : w3.cell? ⟨w1.heap.size + 1, 0, none⟩ = some (.string a0) := cell_second hb3 0
  have v1 : w3.cell? ⟨w1.heap.size + 1, 1, none⟩ = some (.string a1) := cell_second hb3 1
  have v2 : w3.cell? ⟨w1.heap.size + 1, 2, none⟩ = some (.string a2) := cell_second hb3 2
  have v3 : w3.cell? ⟨w1.heap.size + 1, 3, none⟩ = some (.string a3) := cell_second hb3 3
  have u0 : w3.cell? ⟨w1.heap.size + 1 + 1 + 1, 0, none⟩ = some (.string a7) := cell_fourth hb3 0
  have u1 : w3.cell? ⟨w1.heap.size + 1 + 1 + 1, 1, none⟩ = some (.string a1) := cell_fourth hb3 1
  have u2 : w3.cell? ⟨w1.heap.size + 1 + 1 + 1, 2, none⟩ = some (.string r) := cell_fourth hb3 2
  have u3 : w3.cell? ⟨w1.heap.size + 1 + 1 + 1, 3, none⟩ = some (.string a6) := cell_fourth hb3 3
  have hB3 := hb1.trans ((below_four hb3).mono hb1.size)
  clear hb3 hb1
  go_wp2_with fail
  refine (E12.out _).mono ?_
  rintro e w4 ⟨rfl, hb4⟩
  have hB4 := hB3.trans (hb4.mono hB3.size)
  go_wp2_with fail
  go_ret
  exact ⟨rfl, hB4⟩

set_option maxRecDepth 100000 in
set_option maxHeartbeats 4000000 in
theorem bump_2 (a0 a1 a2 a3 a5 a6 a7 : ByteArray) (w : World) :
    Calls Try.prog 6 #[.string a0, .string a1, .string a2, .string a3, .int .i64 2, .string a5, .string a6, .string a7] w fun e w' => e = .returned (.bool true) ∧ Below w.heap.size w w' := by
  go_enter Try.func6, Try.ntmps6
  go_wp2_with fail
  refine (bytes16_any _ _ _ _ _ _ _ _ _).mono ?_
  rintro e w' ⟨⟨r, rfl⟩, hw⟩; have hw' := hw.symm; subst hw'; clear hw
  cases r
  · go_wp2_with fail
    go_ret
    exact ⟨rfl, Below.refl _ _⟩
  by_cases s0 : a0.size ≤ 131072
  case neg =>
    go_wp2_with fail
    go_ret
    exact ⟨rfl, Below.refl _ _⟩
  by_cases s1 : a1.size ≤ 131072
  case neg =>
    go_wp2_with fail
    go_ret
    exact ⟨rfl, Below.refl _ _⟩
  by_cases s2 : a2.size ≤ 131072
  case neg =>
    go_wp2_with fail
    go_ret
    exact ⟨rfl, Below.refl _ _⟩
  by_cases s3 : a3.size ≤ 131072
  case neg =>
    go_wp2_with fail
    go_ret
    exact ⟨rfl, Below.refl _ _⟩
  by_cases s5 : a5.size ≤ 131072
  case neg =>
    go_wp2_with fail
    go_ret
    exact ⟨rfl, Below.refl _ _⟩
  by_cases s6 : a6.size ≤ 131072
  case neg =>
    go_wp2_with fail
    go_ret
    exact ⟨rfl, Below.refl _ _⟩
  by_cases s7 : a7.size ≤ 131072
  case neg =>
    go_wp2_with fail
    go_ret
    exact ⟨rfl, Below.refl _ _⟩
  go_wp2_with fail
  refine (canon_any a1 _ (by omega)).mono ?_
  rintro e w' ⟨⟨r, rfl, hr⟩, hw⟩; have hw' := hw.symm; subst hw'; clear hw
  cases r
  · clear hr
    go_wp2_with fail
    go_ret
    exact ⟨rfl, Below.refl _ _⟩
  have C1 := hr rfl
  clear hr
  go_wp2_with fail
  refine (canon_any a2 _ (by omega)).mono ?_
  rintro e w' ⟨⟨r, rfl, hr⟩, hw⟩; have hw' := hw.symm; subst hw'; clear hw
  cases r
  · clear hr
    go_wp2_with fail
    go_ret
    exact ⟨rfl, Below.refl _ _⟩
  have C2 := hr rfl
  clear hr
  go_wp2_with fail
  refine (canon_any a3 _ (by omega)).mono ?_
  rintro e w' ⟨⟨r, rfl, hr⟩, hw⟩; have hw' := hw.symm; subst hw'; clear hw
  cases r
  · clear hr
    go_wp2_with fail
    go_ret
    exact ⟨rfl, Below.refl _ _⟩
  have C3 := hr rfl
  clear hr
  go_wp2_with fail
  refine (canon_any a5 _ (by omega)).mono ?_
  rintro e w' ⟨⟨r, rfl, hr⟩, hw⟩; have hw' := hw.symm; subst hw'; clear hw
  cases r
  · clear hr
    go_wp2_with fail
    go_ret
    exact ⟨rfl, Below.refl _ _⟩
  have C5 := hr rfl
  clear hr
  go_wp2_with fail
  refine (canon_any a6 _ (by omega)).mono ?_
  rintro e w' ⟨⟨r, rfl, hr⟩, hw⟩; have hw' := hw.symm; subst hw'; clear hw
  cases r
  · clear hr
    go_wp2_with fail
    go_ret
    exact ⟨rfl, Below.refl _ _⟩
  have C6 := hr rfl
  clear hr
  go_wp2_with fail
  refine (zinc_any a3 w s3 C3).mono ?_
  rintro e w1 ⟨⟨r, rfl, h1, hrs⟩, hb1⟩
  clear C1 C2 C3 C5 C6
  have E11 : Hid (∀ w, Calls Try.prog 11 #[.agg #[.string a0, .string a1, .string a2, .string a3], .agg #[.string a7, .string a1, .string a2, .string r]] w fun e w' => e = .returned (.int .i64 (-1)) ∧ Below w.heap.size w w') := by
    intro w
    have e : lex3 (dcmp a1.data.toList a1.data.toList) (dcmp a2.data.toList a2.data.toList) (dcmp a3.data.toList r.data.toList) = -1 := by simp [lex3, h1, dcmp_self]
    have := compare_core a0 a1 a2 a3 a7 a1 a2 r w (by omega) (by omega) (by omega) (by omega) (by omega) (by omega)
    rw [e] at this
    exact this
  have E12 : Hid (∀ w, Calls Try.prog 11 #[.agg #[.string a7, .string a1, .string a2, .string r], .agg #[.string a0, .string a1, .string a2, .string a3]] w fun e w' => e = .returned (.int .i64 1) ∧ Below w.heap.size w w') := by
    intro w
    have h2 : dcmp r.data.toList a3.data.toList = 1 := by rw [dcmp_swap a3.data.toList, h1]; rfl
    have e : lex3 (dcmp a1.data.toList a1.data.toList) (dcmp a2.data.toList a2.data.toList) (dcmp r.data.toList a3.data.toList) = 1 := by simp [lex3, h2, dcmp_self]
    have := compare_core a7 a1 a2 r a0 a1 a2 a3 w (by omega) (by omega) (by omega) (by omega) (by omega) (by omega)
    rw [e] at this
    exact this
  clear h1 hrs
  go_wp2_with (go_at_call 9; refine (version_any _ _ _ _ _).mono ?_; rintro e w' ⟨rfl, rfl⟩)
  refine (E11.out _).mono ?_
  rintro e w3 ⟨rfl, hb3⟩
  have v0 : w3.cell? ⟨w1.heap.size + 1, 0, none⟩ = some (.string a0) := cell_second hb3 0
  have v1 : w3.cell? ⟨w1.heap.size + 1, 1, none⟩ = some (.string a1) := cell_second hb3 1
  have v2 : w3.cell? ⟨w1.heap.size + 1, 2, none⟩ = some (.string a2) := cell_second hb3 2
  have v3 : w3.cell? ⟨w1.heap.size + 1, 3, none⟩ = some (.string a3) := cell_second hb3 3
  have u0 : w3.cell? ⟨w1.heap.size + 1 + 1 + 1, 0, none⟩ = some (.string a7) := cell_fourth hb3 0
  have u1 : w3.cell? ⟨w1.heap.size + 1 + 1 + 1, 1, none⟩ = some (.string a1) := cell_fourth hb3 1
  have u2 : w3.cell? ⟨w1.heap.size + 1 + 1 + 1, 2, none⟩ = some (.string a2) := cell_fourth hb3 2
  have u3 : w3.cell? ⟨w1.heap.size + 1 + 1 + 1, 3, none⟩ = some (.string r) := cell_fourth hb3 3
  have hB3 := hb1.trans ((below_four hb3).mono hb1.size)
  clear hb3 hb1
  go_wp2_with fail
  refine (E12.out _).mono ?_
  rintro e w4 ⟨rfl, hb4⟩
  have hB4 := hB3.trans (hb4.mono hB3.size)
  go_wp2_with fail
  go_ret
  exact ⟨rfl, hB4⟩

theorem bump_walk (a0 a1 a2 a3 : ByteArray) (k : Int) (a5 a6 a7 : ByteArray) (w : World) :
    Calls Try.prog 6 #[.string a0, .string a1, .string a2, .string a3, .int .i64 k, .string a5, .string a6, .string a7] w fun e w' => e = .returned (.bool true) ∧ Below w.heap.size w w' := by
  by_cases h : k < 0 ∨ 2 < k
  · exact bump_out a0 a1 a2 a3 k a5 a6 a7 w h
  · have h3 : k = 0 ∨ k = 1 ∨ k = 2 := by omega
    rcases h3 with rfl | rfl | rfl
    · exact bump_0 a0 a1 a2 a3 a5 a6 a7 w
    · exact bump_1 a0 a1 a2 a3 a5 a6 a7 w
    · exact bump_2 a0 a1 a2 a3 a5 a6 a7 w

end Go.Proofs.Qxb6617793a
