/-
  Seat b6616331a: the walk of FnMajorityOfJoinedMembers.
-/
import Derived.Test.Qxb6616331aWalks
import Derived.Test.Qxb6616331aLaws
namespace Go.Proofs.Qxb6616331a
open Go.ChangeShapes Go.WideShapes Go.ChangeAt Go.RowKit
set_option linter.unusedVariables false

theorem ret_bool {a b : Bool} (h : a = b) : Ending.returned (.bool a) = .returned (.bool b) := by rw [h]

theorem Try.info9 : (Try.prog.info? 9).map (fun i => (i.zero, i.size, i.bytes)) = some (some (.string ByteArray.empty), 1, 16) := by kernel_rfl
theorem Try.size9 : (Try.prog.info? 9).map (·.size) = some 1 := by kernel_rfl

/-- What 'open_strings' gives, as RowS. -/
theorem RowS.of_cells {w : World} {x : Addr} {len cap : Nat} {ss : List ByteArray} (hl : len ≤ cap) (hm : cap ≤ maxLen) (hz : ss.length = cap)
    (hcell : ∀ i, i < ss.length → w.cell? (x.add i) = some (.string (ss.getD i ByteArray.empty))) (hws : ∀ s ∈ ss, s.size ≤ maxLen) : RowS w (some x) len := by
  refine ⟨Nat.le_trans hl hm, ?_⟩
  by_cases h0 : len = 0
  · exact .inl h0
  · right
    obtain ⟨b, off, spot⟩ := x
    have hspot : spot = none := by simpa [Addr.add] using World.cell?_spot (hcell 0 (by omega))
    subst hspot
    refine ⟨b, off, rfl, fun i hi => ⟨ss.getD i ByteArray.empty, ?_, ?_⟩⟩
    · rw [← Addr.add_lit]; exact hcell i (by omega)
    · refine hws _ ?_
      have hi' : i < ss.length := by omega
      have e1 : ss.getD i ByteArray.empty = ss[i] := by simp [List.getD, hi']
      rw [e1]
      exact List.getElem_mem hi'

/-- The cells that a read slice of strings has, as one list. -/
theorem RowS.src {w : World} {a : Option Addr} {n : Nat} (h : RowS w a n) : ∃ cs : List Value, cs.length = n ∧ (∀ v ∈ cs, v.oneCell' = true) ∧
    ∀ w', Below w.heap.size w w' → 0 < n → ∃ ad, a = some ad ∧ ∀ j v, cs[j]? = some v → w'.cell? (ad.add j) = some v := by
  obtain ⟨_, h⟩ := h
  rcases h with rfl | ⟨b, off, rfl, hc⟩
  · exact ⟨[], rfl, by simp, fun _ _ h => absurd h (Nat.lt_irrefl _)⟩
  · refine ⟨(List.range n).map fun i => (w.cell? ⟨b, off + i, none⟩).getD undef, by simp, ?_, ?_⟩
    · intro v hv
      obtain ⟨i, hi, rfl⟩ := List.mem_map.1 hv
      obtain ⟨s, hs, _⟩ := hc i (List.mem_range.1 hi)
      rw [hs]
      rfl
    · intro w' hb _
      refine ⟨⟨b, off, none⟩, rfl, fun j v hj => ?_⟩
      have hjn : j < n := by
        have := (List.getElem?_eq_some_iff.1 hj).1
        simpa using this
      obtain ⟨s, hs, _⟩ := hc j hjn
      rw [Addr.add_lit, hb.cell (p := ⟨b, off + j, none⟩) (World.block_lt_of_cell? w _ hs), hs]
      simpa [hjn, hs] using hj

set_option maxRecDepth 100000 in
set_option maxHeartbeats 1000000 in
theorem joined_ss (x : Addr) (x' : Addr) (n c m d : Nat) (w : World) (h : RowS w (some x) n) (h' : RowS w (some x') m) :
    Calls Try.prog 3 #[.slice (some x) n c, .slice (some x') m d] w fun e w' => e = .returned (.bool true) ∧ Below w.heap.size w w' := by
  obtain ⟨i0, hi, hz0, hz1, hz2⟩ := info_parts Try.info9
  have hne := fun (w : World) (r : Option Addr) (x y x' y' : Nat) => run_neq_slice_nil_any (P := Try.prog) w 22 9 r x y x' y' Try.underlying22
  obtain ⟨cs, hcs, hcs1, hsrc⟩ := h.src
  obtain ⟨ds, hds, hds1, hsrc'⟩ := h'.src
  go_enter Try.func3, Try.ntmps3
  go_wp2_with fail
  refine (bytes2_any _ _ _ _ _ _ _ h h').mono ?_
  rintro e w' ⟨⟨r, rfl, hr⟩, hw⟩
  have hw' := hw.symm
  subst hw'
  clear hw
  cases r
  · go_wp2_with fail
    go_ret
    exact ⟨rfl, Below.refl _ _⟩
  obtain ⟨hn, hm⟩ := hr rfl
  clear hr
  go_wp2_with fail
  refine (strs_any _ _ _ _ _ _ (by omega) (by omega) (by omega) (by omega) hn h).mono ?_
  rintro e w' ⟨⟨r, rfl⟩, hw⟩
  have hw' := hw.symm
  subst hw'
  clear hw
  by_cases hr1 : 1048576 < r
  · go_wp2_with fail
    go_ret
    exact ⟨rfl, Below.refl _ _⟩
  go_wp2_with fail
  refine (strs_any _ _ _ _ _ _ (by omega) (by omega) (by omega) (by omega) hm h').mono ?_
  rintro e w' ⟨⟨r2, rfl⟩, hw⟩
  have hw' := hw.symm
  subst hw'
  clear hw
  by_cases hr2 : 1048576 < r2
  · go_wp2_with fail
    go_ret
    exact ⟨rfl, Below.refl _ _⟩
  go_wp2_with (first
    | (at_make; refine law_make _ rfl (.tmp 25) (.tmp 25) 22 rfl 9 i0 _ 16 Try.underlying22 hi hz0 hz1 hz2 .i64 .i64 _ _ n rfl rfl rfl rfl (by omega) (by unfold maxLen; omega) ?_; intro w1 xs hr1 hxs hb1)
    | (refine law_copy rfl (.tmp 27) (.tmp 28) 22 rfl 9 Try.underlying22 Try.size9 w.heap.size n _ _ rfl rfl xs hxs hr1 cs hcs (hsrc _ hb1) hcs1 ?_; intro w2 hr2 hb2; have hB2 := hb1.trans hb2; have hz2' := hr2.lt)
    | (at_make; refine law_make _ rfl (.tmp 34) (.tmp 34) 22 rfl 9 i0 _ 16 Try.underlying22 hi hz0 hz1 hz2 .i64 .i64 _ _ m rfl rfl rfl rfl (by omega) (by unfold maxLen; omega) ?_; intro w3 ys hr3 hys hb3; have hB3 := hB2.trans (hb3.mono (by omega)))
    | (refine law_copy rfl (.tmp 36) (.tmp 37) 22 rfl 9 Try.underlying22 Try.size9 w2.heap.size m _ _ rfl rfl ys hys hr3 ds hds (hsrc' _ hB3) hds1 ?_; intro w4 hr4 hb4; have hB4 := hB3.trans (hb4.mono (by omega)); have hR4 := (hr2.below hb3 hz2').below hb4 hz2'; have hz4' := hr4.lt)
    | (at_make; refine law_make0 _ rfl (.const (.int .i64 0)) (.tmp 44) 22 rfl 9 i0 _ 16 Try.underlying22 hi hz0 hz1 hz2 .i64 .i64 _ (n + m) rfl rfl (by omega) (by omega) (by unfold maxLen; omega) ?_; intro w5 hp5 hb5; have hB5 := (show Below w.heap.size w w4 from hB4).trans (hb5.mono (by first | exact Nat.le_refl _ | omega)))
    | (at_builtin; refine law_append _ rfl (.tmp 46) (.tmp 47) 22 rfl 9 i0 Try.underlying22 hi hz1 w4.heap.size 0 (n + m) [] rfl rfl hp5 _ n _ cs rfl hcs (by intro hh; cases hh) (Row.src ((hR4).below hb5 (by omega))) hcs1 (by omega) ?_; intro w6 hp6 hb6; have hB6 := hB5.trans (hb6.mono (by first | exact Nat.le_refl _ | omega)))
    | (at_builtin; refine law_append _ rfl (.tmp 49) (.tmp 50) 22 rfl 9 i0 Try.underlying22 hi hz1 w4.heap.size n (n + m) ([] ++ cs) rfl (by simpa using hcs) hp6 _ m _ ds rfl hds (by intro hh; cases hh) (Row.src (((hr4).below hb5 (by omega)).below hb6 (by omega))) hds1 (by omega) ?_; intro w7 hp7 hb7; have hB7 := hB6.trans (hb7.mono (by first | exact Nat.le_refl _ | omega)))
    | (go_at_call 9; refine (maj_any _ _ _ (by omega) _).mono ?_; rintro e w' ⟨rfl, rfl⟩))
  go_ret
  exact ⟨ret_bool (decide_eq_true (by omega)), hB7⟩

set_option maxRecDepth 100000 in
set_option maxHeartbeats 1000000 in
theorem joined_sn (x : Addr) (n c m d : Nat) (w : World) (h : RowS w (some x) n) (h' : RowS w (none) m) (hnil' : Hid (m = 0 ∧ d = 0)) :
    Calls Try.prog 3 #[.slice (some x) n c, .slice (none) m d] w fun e w' => e = .returned (.bool true) ∧ Below w.heap.size w w' := by
  obtain ⟨i0, hi, hz0, hz1, hz2⟩ := info_parts Try.info9
  have hne := fun (w : World) (r : Option Addr) (x y x' y' : Nat) => run_neq_slice_nil_any (P := Try.prog) w 22 9 r x y x' y' Try.underlying22
  obtain ⟨cs, hcs, hcs1, hsrc⟩ := h.src
  obtain ⟨ds, hds, hds1, hsrc'⟩ := h'.src
  go_enter Try.func3, Try.ntmps3
  go_wp2_with fail
  refine (bytes2_any _ _ _ _ _ _ _ h h').mono ?_
  rintro e w' ⟨⟨r, rfl, hr⟩, hw⟩
  have hw' := hw.symm
  subst hw'
  clear hw
  cases r
  · go_wp2_with fail
    go_ret
    exact ⟨rfl, Below.refl _ _⟩
  obtain ⟨hn, hm⟩ := hr rfl
  clear hr
  go_wp2_with fail
  refine (strs_any _ _ _ _ _ _ (by omega) (by omega) (by omega) (by omega) hn h).mono ?_
  rintro e w' ⟨⟨r, rfl⟩, hw⟩
  have hw' := hw.symm
  subst hw'
  clear hw
  by_cases hr1 : 1048576 < r
  · go_wp2_with fail
    go_ret
    exact ⟨rfl, Below.refl _ _⟩
  go_wp2_with fail
  refine (strs_any _ _ _ _ _ _ (by omega) (by omega) (by omega) (by omega) hm h').mono ?_
  rintro e w' ⟨⟨r2, rfl⟩, hw⟩
  have hw' := hw.symm
  subst hw'
  clear hw
  by_cases hr2 : 1048576 < r2
  · go_wp2_with fail
    go_ret
    exact ⟨rfl, Below.refl _ _⟩
  go_wp2_with (first
    | (at_make; refine law_make _ rfl (.tmp 25) (.tmp 25) 22 rfl 9 i0 _ 16 Try.underlying22 hi hz0 hz1 hz2 .i64 .i64 _ _ n rfl rfl rfl rfl (by omega) (by unfold maxLen; omega) ?_; intro w1 xs hr1 hxs hb1)
    | (refine law_copy rfl (.tmp 27) (.tmp 28) 22 rfl 9 Try.underlying22 Try.size9 w.heap.size n _ _ rfl rfl xs hxs hr1 cs hcs (hsrc _ hb1) hcs1 ?_; intro w2 hr2 hb2; have hB2 := hb1.trans hb2; have hz2' := hr2.lt)
    | (at_make; refine law_make0 _ rfl (.const (.int .i64 0)) (.tmp 44) 22 rfl 9 i0 _ 16 Try.underlying22 hi hz0 hz1 hz2 .i64 .i64 _ (n + m) rfl rfl (by omega) (by omega) (by unfold maxLen; omega) ?_; intro w5 hp5 hb5; have hB5 := (show Below w.heap.size w w2 from hB2).trans (hb5.mono (by first | exact Nat.le_refl _ | omega)))
    | (at_builtin; refine law_append _ rfl (.tmp 46) (.tmp 47) 22 rfl 9 i0 Try.underlying22 hi hz1 w2.heap.size 0 (n + m) [] rfl rfl hp5 _ n _ cs rfl hcs (by intro hh; cases hh) (Row.src ((hr2).below hb5 (by omega))) hcs1 (by omega) ?_; intro w6 hp6 hb6; have hB6 := hB5.trans (hb6.mono (by first | exact Nat.le_refl _ | omega)))
    | (at_builtin; refine law_append _ rfl (.tmp 49) (.tmp 50) 22 rfl 9 i0 Try.underlying22 hi hz1 w2.heap.size n (n + m) ([] ++ cs) rfl (by simpa using hcs) hp6 _ m _ ds rfl hds (fun _ => hnil'.out) (by intro ad hh; cases hh) hds1 (by omega) ?_; intro w7 hp7 hb7; have hB7 := hB6.trans (hb7.mono (by first | exact Nat.le_refl _ | omega)))
    | (go_at_call 9; refine (maj_any _ _ _ (by omega) _).mono ?_; rintro e w' ⟨rfl, rfl⟩))
  go_ret
  exact ⟨ret_bool (decide_eq_true (by omega)), hB7⟩

set_option maxRecDepth 100000 in
set_option maxHeartbeats 1000000 in
theorem joined_ns (x' : Addr) (n c m d : Nat) (w : World) (h : RowS w (none) n) (h' : RowS w (some x') m) (hnil : Hid (n = 0 ∧ c = 0)) :
    Calls Try.prog 3 #[.slice (none) n c, .slice (some x') m d] w fun e w' => e = .returned (.bool true) ∧ Below w.heap.size w w' := by
  obtain ⟨i0, hi, hz0, hz1, hz2⟩ := info_parts Try.info9
  have hne := fun (w : World) (r : Option Addr) (x y x' y' : Nat) => run_neq_slice_nil_any (P := Try.prog) w 22 9 r x y x' y' Try.underlying22
  obtain ⟨cs, hcs, hcs1, hsrc⟩ := h.src
  obtain ⟨ds, hds, hds1, hsrc'⟩ := h'.src
  go_enter Try.func3, Try.ntmps3
  go_wp2_with fail
  refine (bytes2_any _ _ _ _ _ _ _ h h').mono ?_
  rintro e w' ⟨⟨r, rfl, hr⟩, hw⟩
  have hw' := hw.symm
  subst hw'
  clear hw
  cases r
  · go_wp2_with fail
    go_ret
    exact ⟨rfl, Below.refl _ _⟩
  obtain ⟨hn, hm⟩ := hr rfl
  clear hr
  go_wp2_with fail
  refine (strs_any _ _ _ _ _ _ (by omega) (by omega) (by omega) (by omega) hn h).mono ?_
  rintro e w' ⟨⟨r, rfl⟩, hw⟩
  have hw' := hw.symm
  subst hw'
  clear hw
  by_cases hr1 : 1048576 < r
  · go_wp2_with fail
    go_ret
    exact ⟨rfl, Below.refl _ _⟩
  go_wp2_with fail
  refine (strs_any _ _ _ _ _ _ (by omega) (by omega) (by omega) (by omega) hm h').mono ?_
  rintro e w' ⟨⟨r2, rfl⟩, hw⟩
  have hw' := hw.symm
  subst hw'
  clear hw
  by_cases hr2 : 1048576 < r2
  · go_wp2_with fail
    go_ret
    exact ⟨rfl, Below.refl _ _⟩
  go_wp2_with (first
    | (at_make; refine law_make _ rfl (.tmp 34) (.tmp 34) 22 rfl 9 i0 _ 16 Try.underlying22 hi hz0 hz1 hz2 .i64 .i64 _ _ m rfl rfl rfl rfl (by omega) (by unfold maxLen; omega) ?_; intro w3 ys hr3 hys hB3)
    | (refine law_copy rfl (.tmp 36) (.tmp 37) 22 rfl 9 Try.underlying22 Try.size9 w.heap.size m _ _ rfl rfl ys hys hr3 ds hds (hsrc' _ hB3) hds1 ?_; intro w4 hr4 hb4; have hB4 := hB3.trans hb4; have hz4' := hr4.lt)
    | (at_make; refine law_make0 _ rfl (.const (.int .i64 0)) (.tmp 44) 22 rfl 9 i0 _ 16 Try.underlying22 hi hz0 hz1 hz2 .i64 .i64 _ (n + m) rfl rfl (by omega) (by omega) (by unfold maxLen; omega) ?_; intro w5 hp5 hb5; have hB5 := (show Below w.heap.size w w4 from hB4).trans (hb5.mono (by first | exact Nat.le_refl _ | omega)))
    | (at_builtin; refine law_append _ rfl (.tmp 46) (.tmp 47) 22 rfl 9 i0 Try.underlying22 hi hz1 w4.heap.size 0 (n + m) [] rfl rfl hp5 _ n _ cs rfl hcs (fun _ => hnil.out) (by intro ad hh; cases hh) hcs1 (by omega) ?_; intro w6 hp6 hb6; have hB6 := hB5.trans (hb6.mono (by first | exact Nat.le_refl _ | omega)))
    | (at_builtin; refine law_append _ rfl (.tmp 49) (.tmp 50) 22 rfl 9 i0 Try.underlying22 hi hz1 w4.heap.size n (n + m) ([] ++ cs) rfl (by simpa using hcs) hp6 _ m _ ds rfl hds (by intro hh; cases hh) (Row.src (((hr4).below hb5 (by omega)).below hb6 (by omega))) hds1 (by omega) ?_; intro w7 hp7 hb7; have hB7 := hB6.trans (hb7.mono (by first | exact Nat.le_refl _ | omega)))
    | (go_at_call 9; refine (maj_any _ _ _ (by omega) _).mono ?_; rintro e w' ⟨rfl, rfl⟩))
  go_ret
  exact ⟨ret_bool (decide_eq_true (by omega)), hB7⟩

set_option maxRecDepth 100000 in
set_option maxHeartbeats 1000000 in
theorem joined_nn (n c m d : Nat) (w : World) (h : RowS w (none) n) (h' : RowS w (none) m) (hnil : Hid (n = 0 ∧ c = 0)) (hnil' : Hid (m = 0 ∧ d = 0)) :
    Calls Try.prog 3 #[.slice (none) n c, .slice (none) m d] w fun e w' => e = .returned (.bool true) ∧ Below w.heap.size w w' := by
  obtain ⟨i0, hi, hz0, hz1, hz2⟩ := info_parts Try.info9
  have hne := fun (w : World) (r : Option Addr) (x y x' y' : Nat) => run_neq_slice_nil_any (P := Try.prog) w 22 9 r x y x' y' Try.underlying22
  obtain ⟨cs, hcs, hcs1, hsrc⟩ := h.src
  obtain ⟨ds, hds, hds1, hsrc'⟩ := h'.src
  go_enter Try.func3, Try.ntmps3
  go_wp2_with fail
  refine (bytes2_any _ _ _ _ _ _ _ h h').mono ?_
  rintro e w' ⟨⟨r, rfl, hr⟩, hw⟩
  have hw' := hw.symm
  subst hw'
  clear hw
  cases r
  · go_wp2_with fail
    go_ret
    exact ⟨rfl, Below.refl _ _⟩
  obtain ⟨hn, hm⟩ := hr rfl
  clear hr
  go_wp2_with fail
  refine (strs_any _ _ _ _ _ _ (by omega) (by omega) (by omega) (by omega) hn h).mono ?_
  rintro e w' ⟨⟨r, rfl⟩, hw⟩
  have hw' := hw.symm
  subst hw'
  clear hw
  by_cases hr1 : 1048576 < r
  · go_wp2_with fail
    go_ret
    exact ⟨rfl, Below.refl _ _⟩
  go_wp2_with fail
  refine (strs_any _ _ _ _ _ _ (by omega) (by omega) (by omega) (by omega) hm h').mono ?_
  rintro e w' ⟨⟨r2, rfl⟩, hw⟩
  have hw' := hw.symm
  subst hw'
  clear hw
  by_cases hr2 : 1048576 < r2
  · go_wp2_with fail
    go_ret
    exact ⟨rfl, Below.refl _ _⟩
  go_wp2_with (first
    | (at_make; refine law_make0 _ rfl (.const (.int .i64 0)) (.tmp 44) 22 rfl 9 i0 _ 16 Try.underlying22 hi hz0 hz1 hz2 .i64 .i64 _ (n + m) rfl rfl (by omega) (by omega) (by unfold maxLen; omega) ?_; intro w5 hp5 hb5; have hB5 := (show Below w.heap.size w w from (Below.refl _ w)).trans (hb5.mono (by first | exact Nat.le_refl _ | omega)))
    | (at_builtin; refine law_append _ rfl (.tmp 46) (.tmp 47) 22 rfl 9 i0 Try.underlying22 hi hz1 w.heap.size 0 (n + m) [] rfl rfl hp5 _ n _ cs rfl hcs (fun _ => hnil.out) (by intro ad hh; cases hh) hcs1 (by omega) ?_; intro w6 hp6 hb6; have hB6 := hB5.trans (hb6.mono (by first | exact Nat.le_refl _ | omega)))
    | (at_builtin; refine law_append _ rfl (.tmp 49) (.tmp 50) 22 rfl 9 i0 Try.underlying22 hi hz1 w.heap.size n (n + m) ([] ++ cs) rfl (by simpa using hcs) hp6 _ m _ ds rfl hds (fun _ => hnil'.out) (by intro ad hh; cases hh) hds1 (by omega) ?_; intro w7 hp7 hb7; have hB7 := hB6.trans (hb7.mono (by first | exact Nat.le_refl _ | omega)))
    | (go_at_call 9; refine (maj_any _ _ _ (by omega) _).mono ?_; rintro e w' ⟨rfl, rfl⟩))
  go_ret
  exact ⟨ret_bool (decide_eq_true (by omega)), hB7⟩

theorem joined_any (a : Option Addr) (n c : Nat) (a' : Option Addr) (m d : Nat) (w : World) (h : RowS w a n) (h' : RowS w a' m) (hnil : a = none → n = 0 ∧ c = 0) (hnil' : a' = none → m = 0 ∧ d = 0) :
    Calls Try.prog 3 #[.slice a n c, .slice a' m d] w fun e w' => e = .returned (.bool true) ∧ Below w.heap.size w w' := by
  cases a with
  | none =>
    cases a' with
    | none => exact joined_nn n c m d w h h' (hnil rfl) (hnil' rfl)
    | some x' => exact joined_ns x' n c m d w h h' (hnil rfl)
  | some x =>
    cases a' with
    | none => exact joined_sn x n c m d w h h' (hnil' rfl)
    | some x' => exact joined_ss x x' n c m d w h h'

end Go.Proofs.Qxb6616331a
