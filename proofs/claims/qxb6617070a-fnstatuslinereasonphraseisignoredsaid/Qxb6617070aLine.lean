/-
  Seat b6617070a: the walk of statusLine.
-/
import Derived.Test.Qxb6617070aWalks
namespace Go.Proofs.Qxb6617070a
open Go.ChangeShapes Go.WideShapes Go.ChangeAt Go.RowKit
set_option linter.unusedVariables false

theorem ok_no_digits {z : Nat → Int} {p : Bool} (h : (dig (z 9) && dig (z 10) && dig (z 11)) = false) : ok z p = false := by
  cases h1 : ok z p
  · rfl
  · exfalso
    simp only [ok, headOk, Bool.and_eq_true, decide_eq_true_eq] at h1
    obtain ⟨⟨⟨⟨_, h9, h9'⟩, h10⟩, h11⟩, _⟩ := h1
    have hd : dig (z 9) = true := by simp [dig]; omega
    rw [hd, h10, h11] at h
    cases h

theorem ok_no_lead {z : Nat → Int} {p : Bool} (h : z 9 < 49) : ok z p = false := by
  cases h1 : ok z p
  · rfl
  · exfalso
    simp only [ok, headOk, Bool.and_eq_true, decide_eq_true_eq] at h1
    omega

theorem ok_no_minor {z : Nat → Int} {p : Bool} (h : dig (z 7) = false) : ok z p = false := by simp [ok, headOk, h]

theorem ok_yes {z : Nat → Int} (h : pre z = true) (h8 : (z 8 == 32) = true) (h7 : dig (z 7) = true) (h9 : 49 ≤ z 9) (hd : dig (z 9) = true ∧ dig (z 10) = true ∧ dig (z 11) = true ∧ 48 ≤ z 9 ∧ z 9 ≤ 57) : ok z true = true := by
  simp only [ok, headOk, h, h8, h7, hd.2.1, hd.2.2.1, h9, hd.2.2.2.2, decide_true, Bool.and_self]

theorem below_draws {B : Nat} {a w : World} (h : Below B a w) (n : Nat) : Below B a (w.drewN n) := h.trans ⟨rfl, rfl, rfl, Nat.le_refl _, fun _ _ => rfl⟩

set_option maxRecDepth 100000 in
set_option maxHeartbeats 400000 in
theorem line_short (a : Option Addr) (n c : Nat) (w : World) (hn : n < 12) :
    Calls Try.prog 25 #[.slice a n c] w fun e w' => e = .returned (.tuple #[.int .i64 0, .int .i64 0, .bool false]) ∧ w' = w := by
  have hn' : (n : Int) < 12 := by omega
  go_enter Try.func25, Try.ntmps25
  go_wp2
  go_ret3
  exact ⟨rfl, rfl⟩

set_option maxRecDepth 100000 in
set_option maxHeartbeats 2000000 in
theorem line_any (b off n c : Nat) (z : Nat → Int) (t : Int) (p : Bool) (w : World) (hn : 12 ≤ n) (hnm : n ≤ 9223372036854775807) (hnc : n ≤ c) (hz : ∀ i, i < 12 → 0 ≤ z i ∧ z i ≤ 255) (hbl : b < w.heap.size)
    (hc : ∀ i, i < 12 → w.cell? ⟨b, off + i, none⟩ = some (.int .u8 (z i))) (ht : 12 < n → w.cell? ⟨b, off + 12, none⟩ = some (.int .u8 t))
    (hp : (p = true ∧ n = 12) ∨ (p = true ∧ 12 < n ∧ t = 32) ∨ (p = false ∧ 12 < n ∧ t ≠ 32)) :
    Calls Try.prog 25 #[.slice (some ⟨b, off, none⟩) n c] w fun e w' => e = .returned (.tuple #[.int .i64 (st z p), .int .i64 (mi z p), .bool (ok z p)]) ∧ Below w.heap.size w w' := by
  have kc := fun (w : World) (C : Array Value) (n c : Nat) => Lib.run_convert_bytes_const (P := Try.prog) w 22 5 C n c Try.underlying22 Try.underlying5
  have hb0 : Below w.heap.size w (w.alloc (.cells #[.int .u8 72, .int .u8 84, .int .u8 84, .int .u8 80, .int .u8 47, .int .u8 49, .int .u8 46] 5 (7, 8))) := (Below.refl _ _).alloc (Nat.le_refl _) _
  have E := hasPrefix_any b off n c w.heap.size 7 z (w.alloc (.cells #[.int .u8 72, .int .u8 84, .int .u8 84, .int .u8 80, .int .u8 47, .int .u8 49, .int .u8 46] 5 (7, 8))) (by omega) hnm hnc (fun i hi => hz i (by omega))
    (fun i hi => (hb0.cell (p := ⟨b, off + i, none⟩) hbl).trans (hc i (by omega)))
    (fun i hi => by
      rw [World.cell?_alloc_mark]
      match i, hi with
      | 0, _ => rfl
      | 1, _ => rfl
      | 2, _ => rfl
      | 3, _ => rfl
      | 4, _ => rfl
      | 5, _ => rfl
      | 6, _ => rfl)
  have hn' : (12 : Int) ≤ (n : Int) := by omega
  have HE : Hid (Calls Try.prog 28 #[.slice (some ⟨b, off, none⟩) n c, .slice (some ⟨w.heap.size, 0, none⟩) 7 7] (w.alloc (.cells #[.int .u8 72, .int .u8 84, .int .u8 84, .int .u8 80, .int .u8 47, .int .u8 49, .int .u8 46] 5 (7, 8))) fun e w' => e = .returned (.bool (pre z)) ∧ w' = (w.alloc (.cells #[.int .u8 72, .int .u8 84, .int .u8 84, .int .u8 80, .int .u8 47, .int .u8 49, .int .u8 46] 5 (7, 8)))) := E
  clear E
  have HC : Hid (∀ i, i < 12 → w.cell? ⟨b, off + i, none⟩ = some (.int .u8 (z i))) := hc
  have HT : Hid (12 < n → w.cell? ⟨b, off + 12, none⟩ = some (.int .u8 t)) := ht
  have HP : Hid ((p = true ∧ n = 12) ∨ (p = true ∧ 12 < n ∧ t = 32) ∨ (p = false ∧ 12 < n ∧ t ≠ 32)) := hp
  clear hc ht hp
  go_enter Try.func25, Try.ntmps25
  go_wp2_with fail
  refine HE.out.mono ?_
  rintro e w1 ⟨rfl, hw⟩
  have hb1 : Below w.heap.size w w1 := by rw [hw]; exact hb0
  clear hw hb0 kc HE
  have c7 : w1.cell? ⟨b, off + 7, none⟩ = some (.int .u8 (z 7)) := (hb1.cell (p := ⟨b, off + 7, none⟩) hbl).trans (HC.out 7 (by omega))
  have c8 : w1.cell? ⟨b, off + 8, none⟩ = some (.int .u8 (z 8)) := (hb1.cell (p := ⟨b, off + 8, none⟩) hbl).trans (HC.out 8 (by omega))
  have c9 : w1.cell? ⟨b, off + 9, none⟩ = some (.int .u8 (z 9)) := (hb1.cell (p := ⟨b, off + 9, none⟩) hbl).trans (HC.out 9 (by omega))
  have c10 : w1.cell? ⟨b, off + 9 + 1, none⟩ = some (.int .u8 (z 10)) := (hb1.cell (p := ⟨b, off + 10, none⟩) hbl).trans (HC.out 10 (by omega))
  have c11 : w1.cell? ⟨b, off + 9 + 2, none⟩ = some (.int .u8 (z 11)) := (hb1.cell (p := ⟨b, off + 11, none⟩) hbl).trans (HC.out 11 (by omega))
  cases hpre : pre z
  · have hno : ok z p = false := by simp [ok, headOk, hpre]
    have HN : Hid (ok z p = false) := hno
    clear hno
    go_wp2_with fail
    go_ret3
    exact ⟨ret_iib (st_no HN.out).symm (mi_no HN.out).symm HN.out.symm, hb1⟩
  cases h8 : (z 8 == 32)
  · have hno : ok z p = false := by simp [ok, headOk, h8]
    have HN : Hid (ok z p = false) := hno
    clear hno
    have h8' : (z 8 != 32) = true := by simp [bne, h8]
    clear h8
    go_wp2_with fail
    go_ret3
    exact ⟨ret_iib (st_no HN.out).symm (mi_no HN.out).symm HN.out.symm, hb1⟩
  have h8' : (z 8 != 32) = false := by simp [bne, h8]
  have H8 : Hid ((z 8 == 32) = true) := h8
  clear h8
  cases h9 : (dig (z 9) && dig (z 10) && dig (z 11))
  · have HN : Hid (ok z p = false) := ok_no_digits h9
    have E := decimal_no b (off + 9) (c - 9) (z 9) (z 10) (z 11) w1 c9 c10 c11 h9
    have HE : Hid (Calls Try.prog 23 #[.slice (some ⟨b, off + 9, none⟩) 3 (c - 9)] w1 fun e w' => e = .returned (.tuple #[.int .i64 0, .bool false]) ∧ w' = w1) := E
    clear E h9
    rcases HP.out with ⟨rfl, rfl⟩ | ⟨rfl, h12, rfl⟩ | ⟨rfl, h12, h32⟩
    · go_wp2_with (go_at_call 23; refine HE.out.mono ?_; rintro e w' ⟨rfl, hw⟩; have hw' := hw.symm; subst hw'; clear hw)
      go_ret3
      exact ⟨ret_iib (st_no HN.out).symm (mi_no HN.out).symm HN.out.symm, hb1⟩
    · have c12 : w1.cell? ⟨b, off + 12, none⟩ = some (.int .u8 32) := (hb1.cell (p := ⟨b, off + 12, none⟩) hbl).trans (HT.out h12)
      have h12' : (12 : Int) < (n : Int) := by omega
      go_wp2_with (go_at_call 23; refine HE.out.mono ?_; rintro e w' ⟨rfl, hw⟩; have hw' := hw.symm; subst hw'; clear hw)
      go_ret3
      exact ⟨ret_iib (st_no HN.out).symm (mi_no HN.out).symm HN.out.symm, hb1⟩
    · have c12 : w1.cell? ⟨b, off + 12, none⟩ = some (.int .u8 t) := (hb1.cell (p := ⟨b, off + 12, none⟩) hbl).trans (HT.out h12)
      have h12' : (12 : Int) < (n : Int) := by omega
      have h32' : (t != 32) = true := by simpa [bne] using h32
      clear h32
      go_wp2_with fail
      go_ret3
      exact ⟨ret_iib (st_no HN.out).symm (mi_no HN.out).symm HN.out.symm, hb1⟩
  have d9 : dig (z 9) = true := by revert h9; cases dig (z 9) <;> simp
  have d10 : dig (z 10) = true := by revert h9; cases dig (z 10) <;> simp
  have d11 : dig (z 11) = true := by revert h9; cases dig (z 11) <;> simp
  clear h9
  obtain ⟨r9, r9'⟩ := dig_range d9
  obtain ⟨r10, r10'⟩ := dig_range d10
  obtain ⟨r11, r11'⟩ := dig_range d11
  have E := decimal_yes b (off + 9) (c - 9) (z 9) (z 10) (z 11) w1 c9 c10 c11 d9 d10 d11
  obtain ⟨v, hv⟩ : ∃ v, v = 100 * (z 9 - 48) + 10 * (z 10 - 48) + (z 11 - 48) := ⟨_, rfl⟩
  rw [← hv] at E
  have HE : Hid (Calls Try.prog 23 #[.slice (some ⟨b, off + 9, none⟩) 3 (c - 9)] w1 fun e w' => e = .returned (.tuple #[.int .i64 v, .bool true]) ∧ w' = w1) := E
  have HV : Hid (v = 100 * (z 9 - 48) + 10 * (z 10 - 48) + (z 11 - 48)) := hv
  clear E
  have hv0 : 0 ≤ v := by omega
  have hv1 : v ≤ 999 := by omega
  have hd9 : v < 100 ↔ z 9 < 49 := by omega
  have HD : Hid (v < 100 ↔ z 9 < 49) := hd9
  have HD9 : Hid (dig (z 9) = true ∧ dig (z 10) = true ∧ dig (z 11) = true ∧ 48 ≤ z 9 ∧ z 9 ≤ 57) := ⟨d9, d10, d11, r9, r9'⟩
  clear hd9 hv c9 c10 c11 d9 d10 d11 r9 r9' r10 r10' r11 r11'
  rcases HP.out with ⟨rfl, rfl⟩ | ⟨rfl, h12, rfl⟩ | ⟨rfl, h12, h32⟩
  · skip
    by_cases hv100 : v < 100
    · have HN : Hid (ok z true = false) := ok_no_lead (HD.out.1 hv100)
      go_wp2_with (go_at_call 23; refine HE.out.mono ?_; rintro e w' ⟨rfl, hw⟩; have hw' := hw.symm; subst hw'; clear hw)
      go_ret3
      exact ⟨ret_iib (st_no HN.out).symm (mi_no HN.out).symm HN.out.symm, hb1⟩
    · cases d7 : dig (z 7)
      · have HN : Hid (ok z true = false) := ok_no_minor d7
        go_wp2_with (first
          | (go_at_call 23; refine HE.out.mono ?_; rintro e w' ⟨rfl, hw⟩; have hw' := hw.symm; subst hw'; clear hw)
          | (go_at_call 27; refine (dig_any _ _).mono ?_; rintro e w' ⟨rfl, hw⟩; have hw' := hw.symm; subst hw'; clear hw))
        go_ret3
        exact ⟨ret_iib (st_no HN.out).symm (mi_no HN.out).symm HN.out.symm, hb1⟩
      · have HY : Hid (ok z true = true) := ok_yes hpre H8.out d7 (by have := HD.out; omega) HD9.out
        obtain ⟨r7, r7'⟩ := dig_range d7
        have h7 : (7 : Int) < ((12 : Nat) : Int) := by omega
        go_wp2_with (first
          | (go_at_call 23; refine HE.out.mono ?_; rintro e w' ⟨rfl, hw⟩; have hw' := hw.symm; subst hw'; clear hw)
          | (go_at_call 27; refine (dig_any _ _).mono ?_; rintro e w' ⟨rfl, hw⟩; have hw' := hw.symm; subst hw'; clear hw))
        go_quiet (fail)
        go_wp2_with fail
        go_ret3
        exact ⟨ret_iib ((st_yes HY.out).trans HV.out.symm).symm (mi_yes HY.out).symm HY.out.symm, below_draws hb1 _⟩
  · have c12 : w1.cell? ⟨b, off + 12, none⟩ = some (.int .u8 32) := (hb1.cell (p := ⟨b, off + 12, none⟩) hbl).trans (HT.out h12)
    have h12' : (12 : Int) < (n : Int) := by omega
    by_cases hv100 : v < 100
    · have HN : Hid (ok z true = false) := ok_no_lead (HD.out.1 hv100)
      go_wp2_with (go_at_call 23; refine HE.out.mono ?_; rintro e w' ⟨rfl, hw⟩; have hw' := hw.symm; subst hw'; clear hw)
      go_ret3
      exact ⟨ret_iib (st_no HN.out).symm (mi_no HN.out).symm HN.out.symm, hb1⟩
    · cases d7 : dig (z 7)
      · have HN : Hid (ok z true = false) := ok_no_minor d7
        go_wp2_with (first
          | (go_at_call 23; refine HE.out.mono ?_; rintro e w' ⟨rfl, hw⟩; have hw' := hw.symm; subst hw'; clear hw)
          | (go_at_call 27; refine (dig_any _ _).mono ?_; rintro e w' ⟨rfl, hw⟩; have hw' := hw.symm; subst hw'; clear hw))
        go_ret3
        exact ⟨ret_iib (st_no HN.out).symm (mi_no HN.out).symm HN.out.symm, hb1⟩
      · have HY : Hid (ok z true = true) := ok_yes hpre H8.out d7 (by have := HD.out; omega) HD9.out
        obtain ⟨r7, r7'⟩ := dig_range d7
        have h7 : (7 : Int) < (n : Int) := by omega
        go_wp2_with (first
          | (go_at_call 23; refine HE.out.mono ?_; rintro e w' ⟨rfl, hw⟩; have hw' := hw.symm; subst hw'; clear hw)
          | (go_at_call 27; refine (dig_any _ _).mono ?_; rintro e w' ⟨rfl, hw⟩; have hw' := hw.symm; subst hw'; clear hw))
        go_quiet (fail)
        go_wp2_with fail
        go_ret3
        exact ⟨ret_iib ((st_yes HY.out).trans HV.out.symm).symm (mi_yes HY.out).symm HY.out.symm, below_draws hb1 _⟩
  · have HN : Hid (ok z false = false) := ok_false z
    have c12 : w1.cell? ⟨b, off + 12, none⟩ = some (.int .u8 t) := (hb1.cell (p := ⟨b, off + 12, none⟩) hbl).trans (HT.out h12)
    have h12' : (12 : Int) < (n : Int) := by omega
    have h32' : (t != 32) = true := by simpa [bne] using h32
    clear h32
    go_wp2_with fail
    go_ret3
    exact ⟨ret_iib (st_no HN.out).symm (mi_no HN.out).symm HN.out.symm, hb1⟩

end Go.Proofs.Qxb6617070a
