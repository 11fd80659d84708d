/-
  Seat b6617793a: cmpDecPaddedB1, cmpVersionPartsB1, ZZVersion, Version.Compare.
-/
import Derived.Test.Qxb6617793aWalks
namespace Go.Proofs.Qxb6617793a
open Go.ChangeShapes Go.WideShapes Go.ChangeAt Go.RowKit
set_option linter.unusedVariables false

theorem at_list (s : ByteArray) (k : Nat) (h : k < s.size) : s.data.toList[k]? = some s[k] := by
  have h' : k < s.data.toList.length := by simpa using h
  rw [List.getElem?_eq_getElem h']
  rfl

theorem take_snoc (s : ByteArray) (k : Nat) (h : k < s.size) : s.data.toList.take (k + 1) = s.data.toList.take k ++ [s[k]] := by
  rw [List.take_succ_eq_append_getElem (by simpa using h)]; rfl

theorem byte_eq {x y : UInt8} (h1 : ¬ (x.toNat : Int) < (y.toNat : Int)) (h2 : ¬ (y.toNat : Int) < (x.toNat : Int)) : x = y := by
  apply UInt8.toNat_inj.1
  omega

theorem byte_lt {x y : UInt8} (h : (x.toNat : Int) < (y.toNat : Int)) : x < y := by
  rw [UInt8.lt_iff_toNat_lt]
  omega

theorem size_list (s : ByteArray) : s.data.toList.length = s.size := by rw [Array.length_toList]; rfl

set_option maxRecDepth 100000 in
set_option maxHeartbeats 1000000 in
theorem padded_short (a b : ByteArray) (w : World) (ha : 0 < a.size) (hab : a.size < b.size) (hb : b.size ≤ 1048576) (hl : (48 : Int) < (b[0].toNat : Int)) :
    Calls Try.prog 17 #[.string a, .string b] w fun e w' => e = .returned (.int .i64 (-1)) ∧ w' = w := by
  go_enter Try.func17, Try.ntmps17
  go_wp2
  refine wp_loop_rounds 1 ?_
  rw [rounds_succ]
  go_wp2
  go_ret
  exact ⟨rfl, rfl⟩

set_option maxRecDepth 100000 in
set_option maxHeartbeats 1000000 in
theorem padded_long (a b : ByteArray) (w : World) (hb : 0 < b.size) (hab : b.size < a.size) (ha : a.size ≤ 1048576) (hl : (48 : Int) < (a[0].toNat : Int)) :
    Calls Try.prog 17 #[.string a, .string b] w fun e w' => e = .returned (.int .i64 1) ∧ w' = w := by
  go_enter Try.func17, Try.ntmps17
  go_wp2
  refine wp_loop_rounds 1 ?_
  rw [rounds_succ]
  go_wp2
  go_ret
  exact ⟨rfl, rfl⟩

set_option maxRecDepth 100000 in
set_option maxHeartbeats 1000000 in
theorem padded_same (a b : ByteArray) (w : World) (hE : a.size = b.size) (hb : b.size ≤ 1048576) :
    Calls Try.prog 17 #[.string a, .string b] w fun e w' => e = .returned (.int .i64 (Lib.compareBytes a.data.toList b.data.toList)) ∧ w' = w := by
  go_enter Try.func17, Try.ntmps17
  go_wp2
  go_loop [8] (fun i => ∃ k : Nat, k ≤ b.size ∧ i = .int .i64 k ∧ Hid (a.data.toList.take k = b.data.toList.take k)) (fun i => b.size - (intOf i).toNat)
  case atStart => exact ⟨0, Nat.zero_le _, rfl, rfl⟩
  case round =>
    obtain ⟨k, hk, rfl, HT⟩ := hrel
    by_cases hlt : k < b.size
    · have hla : k < a.size := by omega
      have la := at_list a k hla
      have lb := at_list b k hlt
      have ta := take_snoc a k hla
      have tb := take_snoc b k hlt
      by_cases h1 : (a[k].toNat : Int) < (b[k].toNat : Int)
      · have HC : Hid (Lib.compareBytes a.data.toList b.data.toList = -1) := compareBytes_lt _ _ k HT.out _ _ la lb (byte_lt h1)
        clear la lb ta tb
        go_wp2
        go_ret
        exact ⟨ret_int HC.out.symm, rfl⟩
      · by_cases h2 : (b[k].toNat : Int) < (a[k].toNat : Int)
        · have HC : Hid (Lib.compareBytes a.data.toList b.data.toList = 1) := compareBytes_gt _ _ k HT.out _ _ la lb (byte_lt h2)
          clear la lb ta tb
          go_wp2
          go_ret
          exact ⟨ret_int HC.out.symm, rfl⟩
        · have HN : Hid (a.data.toList.take (k + 1) = b.data.toList.take (k + 1)) := by
            show a.data.toList.take (k + 1) = b.data.toList.take (k + 1)
            rw [ta, tb, HT.out, byte_eq h1 h2]
          clear la lb ta tb HT
          go_wp2
          go_round
          case rel => exact ⟨k + 1, by omega, by go_num, HN⟩
          case measure => simp [intOf]; omega
    · have HC : Hid (Lib.compareBytes a.data.toList b.data.toList = 0) := by
        have h1 := HT.out
        rw [List.take_of_length_le (by rw [size_list]; omega), List.take_of_length_le (by rw [size_list]; omega)] at h1
        show Lib.compareBytes a.data.toList b.data.toList = 0
        rw [h1]
        exact compareBytes_self _
      clear HT
      go_wp2
      go_ret
      exact ⟨ret_int HC.out.symm, rfl⟩

/-- cmpDecPaddedB1 at two numbers in the documented form. -/
theorem padded_any (a b : ByteArray) (w : World) (ca : Canon a) (cb : Canon b) (ha : a.size ≤ 1048576) (hb : b.size ≤ 1048576) :
    Calls Try.prog 17 #[.string a, .string b] w fun e w' => e = .returned (.int .i64 (dcmp a.data.toList b.data.toList)) ∧ w' = w := by
  have pa := ca.pos
  have pb := cb.pos
  by_cases h1 : a.size < b.size
  · rw [dcmp_short (by rw [size_list, size_list]; exact h1)]
    refine padded_short a b w pa h1 hb ?_
    have := (cb.digits 0 pb).1
    have := cb.lead (by omega)
    omega
  · by_cases h2 : b.size < a.size
    · rw [dcmp_long (by rw [size_list, size_list]; exact h2)]
      refine padded_long a b w pb h2 ha ?_
      have := (ca.digits 0 pa).1
      have := ca.lead (by omega)
      omega
    · rw [dcmp_same (by rw [size_list, size_list]; omega)]
      exact padded_same a b w (by omega) hb

set_option maxRecDepth 100000 in
set_option maxHeartbeats 400000 in
theorem parts_core (v0 v1 v2 w0 w1 w2 : ByteArray) (c0 c1 c2 : Int) (w : World) (E0 : Hid (∀ w, Calls Try.prog 17 #[.string v0, .string w0] w fun e w' => e = .returned (.int .i64 c0) ∧ w' = w))
    (E1 : Hid (∀ w, Calls Try.prog 17 #[.string v1, .string w1] w fun e w' => e = .returned (.int .i64 c1) ∧ w' = w)) (E2 : Hid (∀ w, Calls Try.prog 17 #[.string v2, .string w2] w fun e w' => e = .returned (.int .i64 c2) ∧ w' = w)) :
    Calls Try.prog 10 #[.string v0, .string v1, .string v2, .string w0, .string w1, .string w2] w fun e w' => e = .returned (.int .i64 (lex3 c0 c1 c2)) ∧ w' = w := by
  by_cases h0 : c0 = 0
  · have b0 : (c0 != 0) = false := by simp [h0]
    by_cases h1 : c1 = 0
    · have b1 : (c1 != 0) = false := by simp [h1]
      have HL : Hid (lex3 c0 c1 c2 = c2) := by show lex3 c0 c1 c2 = c2; simp [lex3, h0, h1]
      clear h0 h1
      go_enter Try.func10, Try.ntmps10
      go_wp2_with fail
      refine (E0.out _).mono ?_
      rintro e w' ⟨rfl, hw⟩; have hw' := hw.symm; subst hw'; clear hw
      go_wp2_with fail
      refine (E1.out _).mono ?_
      rintro e w' ⟨rfl, hw⟩; have hw' := hw.symm; subst hw'; clear hw
      go_wp2_with fail
      refine (E2.out _).mono ?_
      rintro e w' ⟨rfl, hw⟩; have hw' := hw.symm; subst hw'; clear hw
      go_wp2_with fail
      go_ret
      exact ⟨ret_int HL.out.symm, rfl⟩
    · have b1 : (c1 != 0) = true := by simp [h1]
      have HL : Hid (lex3 c0 c1 c2 = c1) := by show lex3 c0 c1 c2 = c1; simp [lex3, h0, h1]
      clear h0 h1
      go_enter Try.func10, Try.ntmps10
      go_wp2_with fail
      refine (E0.out _).mono ?_
      rintro e w' ⟨rfl, hw⟩; have hw' := hw.symm; subst hw'; clear hw
      go_wp2_with fail
      refine (E1.out _).mono ?_
      rintro e w' ⟨rfl, hw⟩; have hw' := hw.symm; subst hw'; clear hw
      go_wp2_with fail
      go_ret
      exact ⟨ret_int HL.out.symm, rfl⟩
  · have b0 : (c0 != 0) = true := by simp [h0]
    have HL : Hid (lex3 c0 c1 c2 = c0) := by show lex3 c0 c1 c2 = c0; simp [lex3, h0]
    clear h0
    go_enter Try.func10, Try.ntmps10
    go_wp2_with fail
    refine (E0.out _).mono ?_
    rintro e w' ⟨rfl, hw⟩; have hw' := hw.symm; subst hw'; clear hw
    go_wp2_with fail
    go_ret
    exact ⟨ret_int HL.out.symm, rfl⟩

theorem parts_any (v0 v1 v2 w0 w1 w2 : ByteArray) (w : World) (cv0 : Canon v0) (cv1 : Canon v1) (cv2 : Canon v2) (cw0 : Canon w0) (cw1 : Canon w1) (cw2 : Canon w2)
    (hv0 : v0.size ≤ 1048576) (hv1 : v1.size ≤ 1048576) (hv2 : v2.size ≤ 1048576) (hw0 : w0.size ≤ 1048576) (hw1 : w1.size ≤ 1048576) (hw2 : w2.size ≤ 1048576) :
    Calls Try.prog 10 #[.string v0, .string v1, .string v2, .string w0, .string w1, .string w2] w fun e w' =>
      e = .returned (.int .i64 (lex3 (dcmp v0.data.toList w0.data.toList) (dcmp v1.data.toList w1.data.toList) (dcmp v2.data.toList w2.data.toList))) ∧ w' = w :=
  parts_core v0 v1 v2 w0 w1 w2 _ _ _ w (fun w => padded_any v0 w0 w cv0 cw0 hv0 hw0) (fun w => padded_any v1 w1 w cv1 cw1 hv1 hw1) (fun w => padded_any v2 w2 w cv2 cw2 hv2 hw2)

set_option maxRecDepth 100000 in
set_option maxHeartbeats 400000 in
theorem version_any (t p0 p1 p2 : ByteArray) (w : World) :
    Calls Try.prog 9 #[.string t, .string p0, .string p1, .string p2] w fun e w' => e = .returned (.agg #[.string t, .string p0, .string p1, .string p2]) ∧ w' = w.alloc (.cells #[.string t, .string p0, .string p1, .string p2] 26) := by
  go_enter Try.func9, Try.ntmps9
  go_wp2
  exact bodyPost_ret (v := .agg #[.string t, .string p0, .string p1, .string p2]) (by simp [results, Try.results9, go_sem]) rfl ⟨rfl, rfl⟩

theorem below_draws {B : Nat} {a w : World} (h : Below B a w) (n : Nat) : Below B a (w.drewN n) := h.trans ⟨rfl, rfl, rfl, Nat.le_refl _, fun _ _ => rfl⟩

set_option maxRecDepth 100000 in
set_option maxHeartbeats 2000000 in
theorem compare_core (t p0 p1 p2 t' q0 q1 q2 : ByteArray) (w : World) (s0 : p0.size ≤ 1048576) (s1 : p1.size ≤ 1048576) (s2 : p2.size ≤ 1048576) (r0 : q0.size ≤ 1048576) (r1 : q1.size ≤ 1048576) (r2 : q2.size ≤ 1048576) :
    Calls Try.prog 11 #[.agg #[.string t, .string p0, .string p1, .string p2], .agg #[.string t', .string q0, .string q1, .string q2]] w fun e w' =>
      e = .returned (.int .i64 (lex3 (dcmp p0.data.toList q0.data.toList) (dcmp p1.data.toList q1.data.toList) (dcmp p2.data.toList q2.data.toList))) ∧ Below w.heap.size w w' := by
  obtain ⟨d0, hd0⟩ : ∃ d, d = dcmp p0.data.toList q0.data.toList := ⟨_, rfl⟩
  obtain ⟨d1, hd1⟩ : ∃ d, d = dcmp p1.data.toList q1.data.toList := ⟨_, rfl⟩
  obtain ⟨d2, hd2⟩ : ∃ d, d = dcmp p2.data.toList q2.data.toList := ⟨_, rfl⟩
  rw [← hd0, ← hd1, ← hd2]
  have D0 : Hid (d0 = dcmp p0.data.toList q0.data.toList) := hd0
  have D1 : Hid (d1 = dcmp p1.data.toList q1.data.toList) := hd1
  have D2 : Hid (d2 = dcmp p2.data.toList q2.data.toList) := hd2
  clear hd0 hd1 hd2
  go_enter Try.func11, Try.ntmps11
  go_wp2_with fail
  refine wp_loop_rounds 4 ?_
  rw [rounds_succ]
  by_cases lt0 : p0.size < q0.size
  · have V : Hid (lex3 d0 d1 d2 = -1) := by
      show lex3 d0 d1 d2 = -1
      have e : d0 = -1 := D0.out.trans (dcmp_short (by rw [size_list, size_list]; exact lt0))
      simp [lex3, e]
    have ne : ((p0.size : Int) != (q0.size : Int)) = true := by rw [bne_iff_ne]; omega
    have lt' : (p0.size : Int) < (q0.size : Int) := by omega
    go_wp2_with fail
    go_quiet (fail)
    go_wp2_with fail
    go_ret
    exact ⟨ret_int V.out.symm, (by repeat (first | exact Below.refl _ _ | apply below_draws | (apply Below.alloc _ (by simp))))⟩
  by_cases gt0 : q0.size < p0.size
  · have V : Hid (lex3 d0 d1 d2 = 1) := by
      show lex3 d0 d1 d2 = 1
      have e : d0 = 1 := D0.out.trans (dcmp_long (by rw [size_list, size_list]; exact gt0))
      simp [lex3, e]
    have ne : ((p0.size : Int) != (q0.size : Int)) = true := by rw [bne_iff_ne]; omega
    have lt' : ¬ (p0.size : Int) < (q0.size : Int) := by omega
    go_wp2_with fail
    go_quiet (fail)
    go_wp2_with fail
    go_ret
    exact ⟨ret_int V.out.symm, (by repeat (first | exact Below.refl _ _ | apply below_draws | (apply Below.alloc _ (by simp))))⟩
  have ne0 : ((p0.size : Int) != (q0.size : Int)) = false := by rw [bne_eq_false_iff_eq]; omega
  have E0 : Hid (∀ w, Calls Try.prog 18 #[.string p0, .string q0] w fun e w' => e = .returned (.int .i64 d0) ∧ w' = w) := by
    intro w
    have e : d0 = Lib.compareBytes p0.data.toList q0.data.toList := D0.out.trans (dcmp_same (by rw [size_list, size_list]; omega))
    rw [e]
    exact compare_any p0 q0 w
  clear lt0 gt0
  by_cases z0 : d0 = 0
  case neg =>
    have V : Hid (lex3 d0 d1 d2 = d0) := by
      show lex3 d0 d1 d2 = d0
      simp [lex3, z0]
    have nz : (d0 != 0) = true := by simp [z0]
    clear z0
    go_wp2_with fail
    go_quiet (fail)
    go_wp2_with (go_at_call 18; refine (E0.out _).mono ?_; rintro e w' ⟨rfl, rfl⟩)
    go_ret
    exact ⟨ret_int V.out.symm, (by repeat (first | exact Below.refl _ _ | apply below_draws | (apply Below.alloc _ (by simp))))⟩
  have Z0 : Hid (d0 = 0) := z0
  have nz0 : (d0 != 0) = false := by simp [z0]
  clear z0
  go_wp2_with fail
  go_quiet (fail)
  go_wp2_with (go_at_call 18; refine (E0.out _).mono ?_; rintro e w' ⟨rfl, rfl⟩)
  clear ne0 nz0 E0
  rw [rounds_succ]
  by_cases lt1 : p1.size < q1.size
  · have V : Hid (lex3 d0 d1 d2 = -1) := by
      show lex3 d0 d1 d2 = -1
      have e : d1 = -1 := D1.out.trans (dcmp_short (by rw [size_list, size_list]; exact lt1))
      simp [lex3, e, Z0.out]
    have ne : ((p1.size : Int) != (q1.size : Int)) = true := by rw [bne_iff_ne]; omega
    have lt' : (p1.size : Int) < (q1.size : Int) := by omega
    go_wp2_with fail
    go_quiet (fail)
    go_wp2_with fail
    go_ret
    exact ⟨ret_int V.out.symm, (by repeat (first | exact Below.refl _ _ | apply below_draws | (apply Below.alloc _ (by simp))))⟩
  by_cases gt1 : q1.size < p1.size
  · have V : Hid (lex3 d0 d1 d2 = 1) := by
      show lex3 d0 d1 d2 = 1
      have e : d1 = 1 := D1.out.trans (dcmp_long (by rw [size_list, size_list]; exact gt1))
      simp [lex3, e, Z0.out]
    have ne : ((p1.size : Int) != (q1.size : Int)) = true := by rw [bne_iff_ne]; omega
    have lt' : ¬ (p1.size : Int) < (q1.size : Int) := by omega
    go_wp2_with fail
    go_quiet (fail)
    go_wp2_with fail
    go_ret
    exact ⟨ret_int V.out.symm, (by repeat (first | exact Below.refl _ _ | apply below_draws | (apply Below.alloc _ (by simp))))⟩
  have ne1 : ((p1.size : Int) != (q1.size : Int)) = false := by rw [bne_eq_false_iff_eq]; omega
  have E1 : Hid (∀ w, Calls Try.prog 18 #[.string p1, .string q1] w fun e w' => e = .returned (.int .i64 d1) ∧ w' = w) := by
    intro w
    have e : d1 = Lib.compareBytes p1.data.toList q1.data.toList := D1.out.trans (dcmp_same (by rw [size_list, size_list]; omega))
    rw [e]
    exact compare_any p1 q1 w
  clear lt1 gt1
  by_cases z1 : d1 = 0
  case neg =>
    have V : Hid (lex3 d0 d1 d2 = d1) := by
      show lex3 d0 d1 d2 = d1
      simp [lex3, z1, Z0.out]
    have nz : (d1 != 0) = true := by simp [z1]
    clear z1
    go_wp2_with fail
    go_quiet (fail)
    go_wp2_with (go_at_call 18; refine (E1.out _).mono ?_; rintro e w' ⟨rfl, rfl⟩)
    go_ret
    exact ⟨ret_int V.out.symm, (by repeat (first | exact Below.refl _ _ | apply below_draws | (apply Below.alloc _ (by simp))))⟩
  have Z1 : Hid (d1 = 0) := z1
  have nz1 : (d1 != 0) = false := by simp [z1]
  clear z1
  go_wp2_with fail
  go_quiet (fail)
  go_wp2_with (go_at_call 18; refine (E1.out _).mono ?_; rintro e w' ⟨rfl, rfl⟩)
  clear ne1 nz1 E1
  rw [rounds_succ]
  by_cases lt2 : p2.size < q2.size
  · have V : Hid (lex3 d0 d1 d2 = -1) := by
      show lex3 d0 d1 d2 = -1
      have e : d2 = -1 := D2.out.trans (dcmp_short (by rw [size_list, size_list]; exact lt2))
      simp [lex3, e, Z0.out, Z1.out]
    have ne : ((p2.size : Int) != (q2.size : Int)) = true := by rw [bne_iff_ne]; omega
    have lt' : (p2.size : Int) < (q2.size : Int) := by omega
    go_wp2_with fail
    go_quiet (fail)
    go_wp2_with fail
    go_ret
    exact ⟨ret_int V.out.symm, (by repeat (first | exact Below.refl _ _ | apply below_draws | (apply Below.alloc _ (by simp))))⟩
  by_cases gt2 : q2.size < p2.size
  · have V : Hid (lex3 d0 d1 d2 = 1) := by
      show lex3 d0 d1 d2 = 1
      have e : d2 = 1 := D2.out.trans (dcmp_long (by rw [size_list, size_list]; exact gt2))
      simp [lex3, e, Z0.out, Z1.out]
    have ne : ((p2.size : Int) != (q2.size : Int)) = true := by rw [bne_iff_ne]; omega
    have lt' : ¬ (p2.size : Int) < (q2.size : Int) := by omega
    go_wp2_with fail
    go_quiet (fail)
    go_wp2_with fail
    go_ret
    exact ⟨ret_int V.out.symm, (by repeat (first | exact Below.refl _ _ | apply below_draws | (apply Below.alloc _ (by simp))))⟩
  have ne2 : ((p2.size : Int) != (q2.size : Int)) = false := by rw [bne_eq_false_iff_eq]; omega
  have E2 : Hid (∀ w, Calls Try.prog 18 #[.string p2, .string q2] w fun e w' => e = .returned (.int .i64 d2) ∧ w' = w) := by
    intro w
    have e : d2 = Lib.compareBytes p2.data.toList q2.data.toList := D2.out.trans (dcmp_same (by rw [size_list, size_list]; omega))
    rw [e]
    exact compare_any p2 q2 w
  clear lt2 gt2
  by_cases z2 : d2 = 0
  case neg =>
    have V : Hid (lex3 d0 d1 d2 = d2) := by
      show lex3 d0 d1 d2 = d2
      simp [lex3, Z0.out, Z1.out]
    have nz : (d2 != 0) = true := by simp [z2]
    clear z2
    go_wp2_with fail
    go_quiet (fail)
    go_wp2_with (go_at_call 18; refine (E2.out _).mono ?_; rintro e w' ⟨rfl, rfl⟩)
    go_ret
    exact ⟨ret_int V.out.symm, (by repeat (first | exact Below.refl _ _ | apply below_draws | (apply Below.alloc _ (by simp))))⟩
  have Z2 : Hid (d2 = 0) := z2
  have nz2 : (d2 != 0) = false := by simp [z2]
  clear z2
  go_wp2_with fail
  go_quiet (fail)
  go_wp2_with (go_at_call 18; refine (E2.out _).mono ?_; rintro e w' ⟨rfl, rfl⟩)
  clear ne2 nz2 E2
  have V : Hid (lex3 d0 d1 d2 = 0) := by
    show lex3 d0 d1 d2 = 0
    simp [lex3, Z0.out, Z1.out, Z2.out]
  rw [rounds_succ]
  go_wp2_with fail
  go_ret
  exact ⟨ret_int V.out.symm, (by repeat (first | exact Below.refl _ _ | apply below_draws | (apply Below.alloc _ (by simp))))⟩

end Go.Proofs.Qxb6617793a
