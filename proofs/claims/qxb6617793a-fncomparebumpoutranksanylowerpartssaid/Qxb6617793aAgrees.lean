/-
  Seat b6617793a: the walk of FnCompareAgreesWithNumericOrder.
-/
import Derived.Test.Qxb6617793aCmp
namespace Go.Proofs.Qxb6617793a
open Go.ChangeShapes Go.WideShapes Go.ChangeAt Go.RowKit
set_option linter.unusedVariables false

/-- The two versions' own blocks, in a world that keeps what lay. -/
theorem cell_second {w w3 : World} {o0 o2 o3 : Obj} {A : Array Value} {t : TypeId} (hb : Below ((((w.alloc o0).alloc (.cells A t)).alloc o2).alloc o3).heap.size ((((w.alloc o0).alloc (.cells A t)).alloc o2).alloc o3) w3) (j : Nat) :
    w3.cell? ⟨w.heap.size + 1, j, none⟩ = A[j]? := by
  rw [hb.cell (p := ⟨w.heap.size + 1, j, none⟩) (by simp)]
  have h1 : Below (w.heap.size + 2) ((w.alloc o0).alloc (.cells A t)) ((((w.alloc o0).alloc (.cells A t)).alloc o2).alloc o3) := ((Below.refl _ _).alloc (by simp) _).alloc (by simp) _
  rw [h1.cell (p := ⟨w.heap.size + 1, j, none⟩) (by simp)]
  exact World.cell?_alloc_at _ _ _ _ (by simp)

theorem cell_fourth {w w3 : World} {o0 o1 o2 : Obj} {A : Array Value} {t : TypeId} (hb : Below ((((w.alloc o0).alloc o1).alloc o2).alloc (.cells A t)).heap.size ((((w.alloc o0).alloc o1).alloc o2).alloc (.cells A t)) w3) (j : Nat) :
    w3.cell? ⟨w.heap.size + 1 + 1 + 1, j, none⟩ = A[j]? := by
  rw [hb.cell (p := ⟨w.heap.size + 1 + 1 + 1, j, none⟩) (by simp)]
  exact World.cell?_alloc_at _ _ _ _ (by simp)

theorem below_four {w w3 : World} {o0 o1 o2 o3 : Obj} (hb : Below ((((w.alloc o0).alloc o1).alloc o2).alloc o3).heap.size ((((w.alloc o0).alloc o1).alloc o2).alloc o3) w3) : Below w.heap.size w w3 :=
  (((((Below.refl _ w).alloc (Nat.le_refl _) _).alloc (by simp) _).alloc (by simp; omega) _).alloc (by simp; omega) _).trans (hb.mono (by simp; omega))

set_option maxRecDepth 100000 in
set_option maxHeartbeats 4000000 in
theorem agrees_walk (a0 a1 a2 a3 a4 a5 a6 a7 : ByteArray) (w : World) :
    Calls Try.prog 3 #[.string a0, .string a1, .string a2, .string a3, .string a4, .string a5, .string a6, .string a7] w fun e w' => e = .returned (.bool true) ∧ Below w.heap.size w w' := by
  go_enter Try.func3, Try.ntmps3
  go_wp2_with fail
  refine (bytes7_any _ _ _ _ _ _ _ _ _).mono ?_
  rintro e w' ⟨⟨r, rfl⟩, hw⟩; have hw' := hw.symm; subst hw'; clear hw
  cases r
  · go_wp2_with fail
    go_ret
    exact ⟨rfl, Below.refl _ _⟩
  by_cases s0 : a0.size ≤ 131072
  case neg =>
    go_wp2_with fail
    go_ret
    exact ⟨rfl, Below.refl _ _⟩
  by_cases s1 : a1.size ≤ 131072
  case neg =>
    go_wp2_with fail
    go_ret
    exact ⟨rfl, Below.refl _ _⟩
  by_cases s2 : a2.size ≤ 131072
  case neg =>
    go_wp2_with fail
    go_ret
    exact ⟨rfl, Below.refl _ _⟩
  by_cases s3 : a3.size ≤ 131072
  case neg =>
    go_wp2_with fail
    go_ret
    exact ⟨rfl, Below.refl _ _⟩
  by_cases s4 : a4.size ≤ 131072
  case neg =>
    go_wp2_with fail
    go_ret
    exact ⟨rfl, Below.refl _ _⟩
  by_cases s5 : a5.size ≤ 131072
  case neg =>
    go_wp2_with fail
    go_ret
    exact ⟨rfl, Below.refl _ _⟩
  by_cases s6 : a6.size ≤ 131072
  case neg =>
    go_wp2_with fail
    go_ret
    exact ⟨rfl, Below.refl _ _⟩
  by_cases s7 : a7.size ≤ 131072
  case neg =>
    go_wp2_with fail
    go_ret
    exact ⟨rfl, Below.refl _ _⟩
  go_wp2_with fail
  refine (canon_any a1 _ (by omega)).mono ?_
  rintro e w' ⟨⟨r, rfl, hr⟩, hw⟩; have hw' := hw.symm; subst hw'; clear hw
  cases r
  · clear hr
    go_wp2_with fail
    go_ret
    exact ⟨rfl, Below.refl _ _⟩
  have C1 := hr rfl
  clear hr
  go_wp2_with fail
  refine (canon_any a2 _ (by omega)).mono ?_
  rintro e w' ⟨⟨r, rfl, hr⟩, hw⟩; have hw' := hw.symm; subst hw'; clear hw
  cases r
  · clear hr
    go_wp2_with fail
    go_ret
    exact ⟨rfl, Below.refl _ _⟩
  have C2 := hr rfl
  clear hr
  go_wp2_with fail
  refine (canon_any a3 _ (by omega)).mono ?_
  rintro e w' ⟨⟨r, rfl, hr⟩, hw⟩; have hw' := hw.symm; subst hw'; clear hw
  cases r
  · clear hr
    go_wp2_with fail
    go_ret
    exact ⟨rfl, Below.refl _ _⟩
  have C3 := hr rfl
  clear hr
  go_wp2_with fail
  refine (canon_any a5 _ (by omega)).mono ?_
  rintro e w' ⟨⟨r, rfl, hr⟩, hw⟩; have hw' := hw.symm; subst hw'; clear hw
  cases r
  · clear hr
    go_wp2_with fail
    go_ret
    exact ⟨rfl, Below.refl _ _⟩
  have C5 := hr rfl
  clear hr
  go_wp2_with fail
  refine (canon_any a6 _ (by omega)).mono ?_
  rintro e w' ⟨⟨r, rfl, hr⟩, hw⟩; have hw' := hw.symm; subst hw'; clear hw
  cases r
  · clear hr
    go_wp2_with fail
    go_ret
    exact ⟨rfl, Below.refl _ _⟩
  have C6 := hr rfl
  clear hr
  go_wp2_with fail
  refine (canon_any a7 _ (by omega)).mono ?_
  rintro e w' ⟨⟨r, rfl, hr⟩, hw⟩; have hw' := hw.symm; subst hw'; clear hw
  cases r
  · clear hr
    go_wp2_with fail
    go_ret
    exact ⟨rfl, Below.refl _ _⟩
  have C7 := hr rfl
  clear hr
  obtain ⟨c, hc⟩ : ∃ c, c = lex3 (dcmp a1.data.toList a5.data.toList) (dcmp a2.data.toList a6.data.toList) (dcmp a3.data.toList a7.data.toList) := ⟨_, rfl⟩
  have hr := lex3_range (dcmp_range a1.data.toList a5.data.toList) (dcmp_range a2.data.toList a6.data.toList) (dcmp_range a3.data.toList a7.data.toList)
  have E10 : Hid (∀ w, Calls Try.prog 10 #[.string a1, .string a2, .string a3, .string a5, .string a6, .string a7] w fun e w' => e = .returned (.int .i64 c) ∧ w' = w) := by
    intro w
    rw [hc]
    exact parts_any a1 a2 a3 a5 a6 a7 w C1 C2 C3 C5 C6 C7 (by omega) (by omega) (by omega) (by omega) (by omega) (by omega)
  have E11 : Hid (∀ w, Calls Try.prog 11 #[.agg #[.string a0, .string a1, .string a2, .string a3], .agg #[.string a4, .string a5, .string a6, .string a7]] w fun e w' => e = .returned (.int .i64 c) ∧ Below w.heap.size w w') := by
    intro w
    rw [hc]
    exact compare_core a0 a1 a2 a3 a4 a5 a6 a7 w (by omega) (by omega) (by omega) (by omega) (by omega) (by omega)
  have E12 : Hid (∀ w, Calls Try.prog 11 #[.agg #[.string a4, .string a5, .string a6, .string a7], .agg #[.string a0, .string a1, .string a2, .string a3]] w fun e w' => e = .returned (.int .i64 (-c)) ∧ Below w.heap.size w w') := by
    intro w
    rw [hc, ← lex3_neg, ← dcmp_swap, ← dcmp_swap, ← dcmp_swap]
    exact compare_core a4 a5 a6 a7 a0 a1 a2 a3 w (by omega) (by omega) (by omega) (by omega) (by omega) (by omega)
  rw [← hc] at hr
  obtain ⟨hr1, hr2⟩ := hr
  clear hc C1 C2 C3 C5 C6 C7
  go_wp2_with (first
    | (go_at_call 9; refine (version_any _ _ _ _ _).mono ?_; rintro e w' ⟨rfl, rfl⟩)
    | (go_at_call 10; refine (E10.out _).mono ?_; rintro e w' ⟨rfl, hw⟩; have hw' := hw.symm; subst hw'; clear hw))
  refine (E11.out _).mono ?_
  rintro e w3 ⟨rfl, hb3⟩
  have v0 : w3.cell? ⟨w.heap.size + 1, 0, none⟩ = some (.string a0) := cell_second hb3 0
  have v1 : w3.cell? ⟨w.heap.size + 1, 1, none⟩ = some (.string a1) := cell_second hb3 1
  have v2 : w3.cell? ⟨w.heap.size + 1, 2, none⟩ = some (.string a2) := cell_second hb3 2
  have v3 : w3.cell? ⟨w.heap.size + 1, 3, none⟩ = some (.string a3) := cell_second hb3 3
  have u0 : w3.cell? ⟨w.heap.size + 1 + 1 + 1, 0, none⟩ = some (.string a4) := cell_fourth hb3 0
  have u1 : w3.cell? ⟨w.heap.size + 1 + 1 + 1, 1, none⟩ = some (.string a5) := cell_fourth hb3 1
  have u2 : w3.cell? ⟨w.heap.size + 1 + 1 + 1, 2, none⟩ = some (.string a6) := cell_fourth hb3 2
  have u3 : w3.cell? ⟨w.heap.size + 1 + 1 + 1, 3, none⟩ = some (.string a7) := cell_fourth hb3 3
  have hB3 := below_four hb3
  clear hb3
  go_wp2_with fail
  refine (E12.out _).mono ?_
  rintro e w4 ⟨rfl, hb4⟩
  have hB4 := hB3.trans (hb4.mono hB3.size)
  go_wp2_with fail
  go_ret
  exact ⟨ret_bool (by simp), hB4⟩

end Go.Proofs.Qxb6617793a
