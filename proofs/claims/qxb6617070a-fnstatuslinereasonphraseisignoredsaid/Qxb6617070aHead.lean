/-
  Seat b6617070a: ZZstatusLine, zzStatusHead, the size guard.
-/
import Derived.Test.Qxb6617070aLine
namespace Go.Proofs.Qxb6617070a
open Go.ChangeShapes Go.WideShapes Go.ChangeAt Go.RowKit
set_option linter.unusedVariables false

set_option maxRecDepth 100000 in
set_option maxHeartbeats 400000 in
theorem zline_short (a : Option Addr) (n c : Nat) (w : World) (hn : n < 12) :
    Calls Try.prog 15 #[.slice a n c] w fun e w' => e = .returned (.tuple #[.int .i64 0, .int .i64 0, .bool false]) ∧ w' = w := by
  go_enter Try.func15, Try.ntmps15
  go_wp2_with (go_at_call 25; refine (line_short _ _ _ _ hn).mono ?_; rintro e w' ⟨rfl, hw⟩; have hw' := hw.symm; subst hw'; clear hw)
  go_ret3
  exact ⟨rfl, rfl⟩

set_option maxRecDepth 100000 in
set_option maxHeartbeats 400000 in
theorem zline_any (b off n c : Nat) (z : Nat → Int) (t : Int) (p : Bool) (w : World) (hn : 12 ≤ n) (hnm : n ≤ 9223372036854775807) (hnc : n ≤ c) (hz : ∀ i, i < 12 → 0 ≤ z i ∧ z i ≤ 255) (hbl : b < w.heap.size)
    (hc : ∀ i, i < 12 → w.cell? ⟨b, off + i, none⟩ = some (.int .u8 (z i))) (ht : 12 < n → w.cell? ⟨b, off + 12, none⟩ = some (.int .u8 t))
    (hp : (p = true ∧ n = 12) ∨ (p = true ∧ 12 < n ∧ t = 32) ∨ (p = false ∧ 12 < n ∧ t ≠ 32)) :
    Calls Try.prog 15 #[.slice (some ⟨b, off, none⟩) n c] w fun e w' => e = .returned (.tuple #[.int .i64 (st z p), .int .i64 (mi z p), .bool (ok z p)]) ∧ Below w.heap.size w w' := by
  have HE : Hid (Calls Try.prog 25 #[.slice (some ⟨b, off, none⟩) n c] w fun e w' => e = .returned (.tuple #[.int .i64 (st z p), .int .i64 (mi z p), .bool (ok z p)]) ∧ Below w.heap.size w w') := line_any b off n c z t p w hn hnm hnc hz hbl hc ht hp
  clear hn hnm hnc hz hbl hc ht hp
  go_enter Try.func15, Try.ntmps15
  go_wp2_with (go_at_call 25; refine HE.out.mono ?_; rintro e w' ⟨rfl, hb⟩)
  go_ret3
  exact ⟨rfl, hb⟩

/-- A bool comes back; where it is yes, the two lengths are short. -/
def Says (n m : Nat) (e : Ending) : Prop := ∃ r, e = .returned (.bool r) ∧ (r = true → n ≤ 1048576 ∧ m ≤ 1048576)
theorem Says.no {n m : Nat} : Says n m (.returned (.bool false)) := ⟨false, rfl, fun h => by cases h⟩
theorem Says.yes {n m : Nat} (h : n ≤ 1048576) (h' : m ≤ 1048576) : Says n m (.returned (.bool true)) := ⟨true, rfl, fun _ => ⟨h, h'⟩⟩

set_option maxHeartbeats 400000 in
theorem bytes_any (a : Option Addr) (n c : Nat) (a' : Option Addr) (m d : Nat) (w : World) (hn : n ≤ 9223372036854775807) (hm : m ≤ 9223372036854775807) :
    Calls Try.prog 14 #[.slice a n c, .slice a' m d] w fun e w' => Says n m e ∧ w' = w := by
  by_cases h1 : n ≤ 1048576
  · by_cases h2 : m ≤ 1048576
    · by_cases h3 : n + m ≤ 1048576
      · go_enter Try.func14, Try.ntmps14
        go_wp2
        go_ret
        exact ⟨Says.yes h1 h2, rfl⟩
      · go_enter Try.func14, Try.ntmps14
        go_wp2
        go_ret
        exact ⟨Says.no, rfl⟩
    · go_enter Try.func14, Try.ntmps14
      go_wp2
      go_ret
      exact ⟨Says.no, rfl⟩
  · go_enter Try.func14, Try.ntmps14
    go_wp2
    go_ret
    exact ⟨Says.no, rfl⟩

theorem ok_no_top {z : Nat → Int} {p : Bool} (h : 57 < z 9) : ok z p = false := by
  cases h1 : ok z p
  · rfl
  · exfalso
    simp only [ok, headOk, Bool.and_eq_true, decide_eq_true_eq] at h1
    omega

set_option maxRecDepth 100000 in
set_option maxHeartbeats 2000000 in
/-- zzStatusHead at twelve bytes. -/
theorem head_any (b off c : Nat) (z : Nat → Int) (w : World) (hnc : 12 ≤ c) (hz : ∀ i, i < 12 → 0 ≤ z i ∧ z i ≤ 255)
    (hc : ∀ i, i < 12 → w.cell? ⟨b, off + i, none⟩ = some (.int .u8 (z i))) :
    Calls Try.prog 16 #[.slice (some ⟨b, off, none⟩) 12 c] w fun e w' => e = .returned (.tuple #[.int .i64 (st z true), .int .i64 (mi z true), .bool (ok z true)]) ∧ Below w.heap.size w w' := by
  have c0 : w.cell? ⟨b, off, none⟩ = some (.int .u8 (z 0)) := hc 0 (by omega)
  have c1 := hc 1 (by omega)
  have c2 := hc 2 (by omega)
  have c3 := hc 3 (by omega)
  have c4 := hc 4 (by omega)
  have c5 := hc 5 (by omega)
  have c6 := hc 6 (by omega)
  have c7 := hc 7 (by omega)
  have c8 := hc 8 (by omega)
  have c9 := hc 9 (by omega)
  have c10 := hc 10 (by omega)
  have c11 := hc 11 (by omega)
  clear hc
  have g0 : (((⟨#[72, 84, 84, 80, 47, 49, 46]⟩ : ByteArray)[0]'(by decide)).toNat : Int) = 72 := rfl
  have g1 : (((⟨#[72, 84, 84, 80, 47, 49, 46]⟩ : ByteArray)[1]'(by decide)).toNat : Int) = 84 := rfl
  have g2 : (((⟨#[72, 84, 84, 80, 47, 49, 46]⟩ : ByteArray)[2]'(by decide)).toNat : Int) = 84 := rfl
  have g3 : (((⟨#[72, 84, 84, 80, 47, 49, 46]⟩ : ByteArray)[3]'(by decide)).toNat : Int) = 80 := rfl
  have g4 : (((⟨#[72, 84, 84, 80, 47, 49, 46]⟩ : ByteArray)[4]'(by decide)).toNat : Int) = 47 := rfl
  have g5 : (((⟨#[72, 84, 84, 80, 47, 49, 46]⟩ : ByteArray)[5]'(by decide)).toNat : Int) = 49 := rfl
  have g6 : (((⟨#[72, 84, 84, 80, 47, 49, 46]⟩ : ByteArray)[6]'(by decide)).toNat : Int) = 46 := rfl
  go_enter Try.func16, Try.ntmps16
  go_wp2_with fail
  refine wp_loop_rounds 8 ?_
  rw [rounds_succ]
  cases h0 : (z 0 == 72)
  · have HN : Hid (ok z true = false) := by show ok z true = false; simp [ok, headOk, pre, h0]
    have h0' : (z 0 != 72) = true := by simp [bne, h0]
    clear h0
    go_wp2_with fail
    go_quiet (fail)
    go_wp2_with fail
    go_ret3
    exact ⟨ret_iib (st_no HN.out).symm (mi_no HN.out).symm HN.out.symm, (by repeat (first | exact Below.refl _ _ | apply below_draws))⟩
  have h0' : (z 0 != 72) = false := by simp [bne, h0]
  have H0 : Hid ((z 0 == 72) = true) := h0
  clear h0
  go_wp2_with fail
  go_quiet (fail)
  go_wp2_with fail
  clear h0' g0 c0
  rw [rounds_succ]
  cases h1 : (z 1 == 84)
  · have HN : Hid (ok z true = false) := by show ok z true = false; simp [ok, headOk, pre, h1]
    have h1' : (z 1 != 84) = true := by simp [bne, h1]
    clear h1
    go_wp2_with fail
    go_quiet (fail)
    go_wp2_with fail
    go_ret3
    exact ⟨ret_iib (st_no HN.out).symm (mi_no HN.out).symm HN.out.symm, (by repeat (first | exact Below.refl _ _ | apply below_draws))⟩
  have h1' : (z 1 != 84) = false := by simp [bne, h1]
  have H1 : Hid ((z 1 == 84) = true) := h1
  clear h1
  go_wp2_with fail
  go_quiet (fail)
  go_wp2_with fail
  clear h1' g1 c1
  rw [rounds_succ]
  cases h2 : (z 2 == 84)
  · have HN : Hid (ok z true = false) := by show ok z true = false; simp [ok, headOk, pre, h2]
    have h2' : (z 2 != 84) = true := by simp [bne, h2]
    clear h2
    go_wp2_with fail
    go_quiet (fail)
    go_wp2_with fail
    go_ret3
    exact ⟨ret_iib (st_no HN.out).symm (mi_no HN.out).symm HN.out.symm, (by repeat (first | exact Below.refl _ _ | apply below_draws))⟩
  have h2' : (z 2 != 84) = false := by simp [bne, h2]
  have H2 : Hid ((z 2 == 84) = true) := h2
  clear h2
  go_wp2_with fail
  go_quiet (fail)
  go_wp2_with fail
  clear h2' g2 c2
  rw [rounds_succ]
  cases h3 : (z 3 == 80)
  · have HN : Hid (ok z true = false) := by show ok z true = false; simp [ok, headOk, pre, h3]
    have h3' : (z 3 != 80) = true := by simp [bne, h3]
    clear h3
    go_wp2_with fail
    go_quiet (fail)
    go_wp2_with fail
    go_ret3
    exact ⟨ret_iib (st_no HN.out).symm (mi_no HN.out).symm HN.out.symm, (by repeat (first | exact Below.refl _ _ | apply below_draws))⟩
  have h3' : (z 3 != 80) = false := by simp [bne, h3]
  have H3 : Hid ((z 3 == 80) = true) := h3
  clear h3
  go_wp2_with fail
  go_quiet (fail)
  go_wp2_with fail
  clear h3' g3 c3
  rw [rounds_succ]
  cases h4 : (z 4 == 47)
  · have HN : Hid (ok z true = false) := by show ok z true = false; simp [ok, headOk, pre, h4]
    have h4' : (z 4 != 47) = true := by simp [bne, h4]
    clear h4
    go_wp2_with fail
    go_quiet (fail)
    go_wp2_with fail
    go_ret3
    exact ⟨ret_iib (st_no HN.out).symm (mi_no HN.out).symm HN.out.symm, (by repeat (first | exact Below.refl _ _ | apply below_draws))⟩
  have h4' : (z 4 != 47) = false := by simp [bne, h4]
  have H4 : Hid ((z 4 == 47) = true) := h4
  clear h4
  go_wp2_with fail
  go_quiet (fail)
  go_wp2_with fail
  clear h4' g4 c4
  rw [rounds_succ]
  cases h5 : (z 5 == 49)
  · have HN : Hid (ok z true = false) := by show ok z true = false; simp [ok, headOk, pre, h5]
    have h5' : (z 5 != 49) = true := by simp [bne, h5]
    clear h5
    go_wp2_with fail
    go_quiet (fail)
    go_wp2_with fail
    go_ret3
    exact ⟨ret_iib (st_no HN.out).symm (mi_no HN.out).symm HN.out.symm, (by repeat (first | exact Below.refl _ _ | apply below_draws))⟩
  have h5' : (z 5 != 49) = false := by simp [bne, h5]
  have H5 : Hid ((z 5 == 49) = true) := h5
  clear h5
  go_wp2_with fail
  go_quiet (fail)
  go_wp2_with fail
  clear h5' g5 c5
  rw [rounds_succ]
  cases h6 : (z 6 == 46)
  · have HN : Hid (ok z true = false) := by show ok z true = false; simp [ok, headOk, pre, h6]
    have h6' : (z 6 != 46) = true := by simp [bne, h6]
    clear h6
    go_wp2_with fail
    go_quiet (fail)
    go_wp2_with fail
    go_ret3
    exact ⟨ret_iib (st_no HN.out).symm (mi_no HN.out).symm HN.out.symm, (by repeat (first | exact Below.refl _ _ | apply below_draws))⟩
  have h6' : (z 6 != 46) = false := by simp [bne, h6]
  have H6 : Hid ((z 6 == 46) = true) := h6
  clear h6
  go_wp2_with fail
  go_quiet (fail)
  go_wp2_with fail
  clear h6' g6 c6
  have hpre : pre z = true := by simp only [pre, H0.out, H1.out, H2.out, H3.out, H4.out, H5.out, H6.out, Bool.and_self]
  have HPre : Hid (pre z = true) := hpre
  clear hpre H0 H1 H2 H3 H4 H5 H6
  rw [rounds_succ]
  cases d7 : dig (z 7)
  · have HN : Hid (ok z true = false) := ok_no_minor d7
    go_wp2_with (go_at_call 24; refine (zdig_any _ _).mono ?_; rintro e w' ⟨rfl, hw⟩; have hw' := hw.symm; subst hw'; clear hw)
    go_ret3
    exact ⟨ret_iib (st_no HN.out).symm (mi_no HN.out).symm HN.out.symm, (by repeat (first | exact Below.refl _ _ | apply below_draws))⟩
  cases h8 : (z 8 == 32)
  · have HN : Hid (ok z true = false) := by show ok z true = false; simp [ok, headOk, h8]
    have h8' : (z 8 != 32) = true := by simp [bne, h8]
    clear h8
    go_wp2_with (go_at_call 24; refine (zdig_any _ _).mono ?_; rintro e w' ⟨rfl, hw⟩; have hw' := hw.symm; subst hw'; clear hw)
    go_ret3
    exact ⟨ret_iib (st_no HN.out).symm (mi_no HN.out).symm HN.out.symm, (by repeat (first | exact Below.refl _ _ | apply below_draws))⟩
  have h8' : (z 8 != 32) = false := by simp [bne, h8]
  have H8 : Hid ((z 8 == 32) = true) := h8
  clear h8
  by_cases l9 : z 9 < 49
  · have HN : Hid (ok z true = false) := ok_no_lead l9
    go_wp2_with (go_at_call 24; refine (zdig_any _ _).mono ?_; rintro e w' ⟨rfl, hw⟩; have hw' := hw.symm; subst hw'; clear hw)
    go_ret3
    exact ⟨ret_iib (st_no HN.out).symm (mi_no HN.out).symm HN.out.symm, (by repeat (first | exact Below.refl _ _ | apply below_draws))⟩
  by_cases u9 : 57 < z 9
  · have HN : Hid (ok z true = false) := ok_no_top u9
    go_wp2_with (go_at_call 24; refine (zdig_any _ _).mono ?_; rintro e w' ⟨rfl, hw⟩; have hw' := hw.symm; subst hw'; clear hw)
    go_ret3
    exact ⟨ret_iib (st_no HN.out).symm (mi_no HN.out).symm HN.out.symm, (by repeat (first | exact Below.refl _ _ | apply below_draws))⟩
  have d9 : dig (z 9) = true := by simp [dig]; omega
  have D9 : Hid (dig (z 9) = true) := d9
  clear d9
  cases d10 : dig (z 10)
  · have HN : Hid (ok z true = false) := by show ok z true = false; simp [ok, headOk, d10]
    go_wp2_with (go_at_call 24; refine (zdig_any _ _).mono ?_; rintro e w' ⟨rfl, hw⟩; have hw' := hw.symm; subst hw'; clear hw)
    go_ret3
    exact ⟨ret_iib (st_no HN.out).symm (mi_no HN.out).symm HN.out.symm, (by repeat (first | exact Below.refl _ _ | apply below_draws))⟩
  cases d11 : dig (z 11)
  · have HN : Hid (ok z true = false) := by show ok z true = false; simp [ok, headOk, d11]
    go_wp2_with (go_at_call 24; refine (zdig_any _ _).mono ?_; rintro e w' ⟨rfl, hw⟩; have hw' := hw.symm; subst hw'; clear hw)
    go_ret3
    exact ⟨ret_iib (st_no HN.out).symm (mi_no HN.out).symm HN.out.symm, (by repeat (first | exact Below.refl _ _ | apply below_draws))⟩
  have HY : Hid (ok z true = true) := ok_yes HPre.out H8.out d7 (by omega) ⟨D9.out, d10, d11, by omega, by omega⟩
  obtain ⟨r7, r7'⟩ := dig_range d7
  obtain ⟨r10, r10'⟩ := dig_range d10
  obtain ⟨r11, r11'⟩ := dig_range d11
  go_wp2_with (go_at_call 24; refine (zdig_any _ _).mono ?_; rintro e w' ⟨rfl, hw⟩; have hw' := hw.symm; subst hw'; clear hw)
  go_quiet (fail)
  go_wp2_with fail
  go_quiet (fail)
  go_wp2_with fail
  go_ret3
  exact ⟨ret_iib (st_yes HY.out).symm (mi_yes HY.out).symm HY.out.symm, (by repeat (first | exact Below.refl _ _ | apply below_draws))⟩

end Go.Proofs.Qxb6617070a
