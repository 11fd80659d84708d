/-
  Seat b6616331a: the walk of FnMajorityOfASetCountsEachAddressOnce.
-/
import Derived.Test.Qxb6616331aAsc
import Derived.Test.Qxb6616331aJoined
namespace Go.Proofs.Qxb6616331a
open Go.ChangeShapes Go.WideShapes Go.ChangeAt Go.RowKit
set_option linter.unusedVariables false

/-- Does the k-th string stand among the first j? -/
def memB (zs : List Str) (k j : Nat) : Bool := (zs.take j).contains (zs[k]?.getD [])

theorem memB_zero (zs : List Str) (k : Nat) : memB zs k 0 = false := by simp [memB]
theorem memB_succ (zs : List Str) (k j : Nat) (hj : j < zs.length) : memB zs k (j + 1) = (memB zs k j || ((strAt zs j).toList == (strAt zs k).toList)) := by
  rw [strAt_toList, strAt_toList, Bool.eq_iff_iff]
  simp only [memB, Bool.or_eq_true, List.contains_iff_mem, beq_iff_eq]
  rw [List.take_succ_eq_append_getElem hj, List.mem_append, List.mem_singleton]
  have : zs[j]?.getD [] = zs[j] := by simp [hj]
  rw [this]
  constructor
  · rintro (h | h)
    · exact .inl h
    · exact .inr h.symm
  · rintro (h | h)
    · exact .inl h
    · exact .inr h.symm
theorem memB_mono (zs : List Str) (k : Nat) {j : Nat} (h : memB zs k j = true) : ∀ {i}, j ≤ i → memB zs k i = true := by
  intro i hij
  simp only [memB, List.contains_iff_mem] at *
  exact List.take_subset_take_left zs hij h
theorem firsts_yes (zs : List Str) (k : Nat) (h : memB zs k k = true) : (firsts zs (k + 1)).length = (firsts zs k).length := by
  rw [firsts, if_pos (show (zs.take k).contains (zs[k]?.getD []) = true from h)]
theorem firsts_no (zs : List Str) (k : Nat) (h : memB zs k k = false) : (firsts zs (k + 1)).length = (firsts zs k).length + 1 := by
  rw [firsts, if_neg (by rw [show (zs.take k).contains (zs[k]?.getD []) = memB zs k k from rfl, h]; decide)]
  simp

theorem bytesLess_of {x y : Str} (h : x < y) : Op.bytesLess x y = true := by
  rw [bytesLess_eq]
  exact decide_eq_true h

set_option maxRecDepth 100000 in
set_option maxHeartbeats 4000000 in
theorem counts_some (x : Addr) (n c : Nat) (w : World) (zs : List Str) (h : RowS w (some x) n) (hz : zs.length = n) (hpos : 0 < n)
    (hsrc : ∀ w', Below w.heap.size w w' → 0 < n → ∃ ad, some x = some ad ∧ ∀ j v, (zs.map encStr)[j]? = some v → w'.cell? (ad.add j) = some v) :
    Calls Try.prog 4 #[.slice (some x) n c] w fun e w' => e = .returned (.bool true) ∧ Below w.heap.size w w' := by
  obtain ⟨i0, hi, hz0, hz1, hz2⟩ := info_parts Try.info9
  have hne := fun (w : World) (r : Option Addr) (x y x' y' : Nat) => run_neq_slice_nil_any (P := Try.prog) w 22 9 r x y x' y' Try.underlying22
  obtain ⟨cs, hcs⟩ : ∃ cs, cs = zs.map encStr := ⟨_, rfl⟩
  rw [← hcs] at hsrc
  have hcl : cs.length = n := by rw [hcs, List.length_map, hz]
  have hcs1 : ∀ v ∈ cs, v.oneCell' = true := by
    rw [hcs]
    intro v hv
    obtain ⟨l, _, rfl⟩ := List.mem_map.1 hv
    rfl
  have HCS : Hid (cs = zs.map encStr) := hcs
  have HZ : Hid (zs.length = n) := hz
  clear hcs hz
  go_enter Try.func4, Try.ntmps4
  go_wp2_with fail
  refine (bytes1_any _ _ _ _ h).mono ?_
  rintro e w' ⟨⟨r, rfl, hr⟩, hw⟩
  have hw' := hw.symm
  subst hw'
  clear hw
  cases r
  · go_wp2_with fail
    go_ret
    exact ⟨rfl, Below.refl _ _⟩
  obtain ⟨hn, _⟩ := hr rfl
  clear hr
  go_wp2_with fail
  refine (strs_any _ _ _ _ _ _ (by omega) (by omega) (by omega) (by omega) hn h).mono ?_
  rintro e w' ⟨⟨r, rfl⟩, hw⟩
  have hw' := hw.symm
  subst hw'
  clear hw
  by_cases hr1 : 1048576 < r
  · go_wp2_with fail
    go_ret
    exact ⟨rfl, Below.refl _ _⟩
  by_cases hn2 : 4096 < n
  · go_wp2_with fail
    go_ret
    exact ⟨rfl, Below.refl _ _⟩
  go_wp2_with (first
    | (at_make; refine law_make _ rfl (.tmp 23) (.tmp 23) 22 rfl 9 i0 _ 16 Try.underlying22 hi hz0 hz1 hz2 .i64 .i64 _ _ n rfl rfl rfl rfl (by omega) (by unfold maxLen; omega) ?_; intro w1 xs hr1 hxs hb1)
    | (refine law_copy rfl (.tmp 25) (.tmp 26) 22 rfl 9 Try.underlying22 Try.size9 w.heap.size n _ _ rfl rfl xs hxs hr1 cs hcl (hsrc _ hb1) hcs1 ?_; intro w2 hr2 hb2; have hB2 := hb1.trans hb2; have hz2' := hr2.lt))
  have hA2 : ∀ (W : World), Row W w.heap.size 9 cs → Cells W w.heap.size zs n := by
    intro W hR j hj
    rw [hR.cell, HCS.out, List.getElem?_map]
    have hj' : j < zs.length := by rw [HZ.out]; exact hj
    simp [strAt, hj']
  refine (zmembers_any w.heap.size 0 n n zs w2 HZ.out hpos (by omega) hz2' (fun j hj => by rw [Nat.zero_add]; exact hA2 w2 hr2 j hj)).mono ?_
  rintro e w3 ⟨g, cp, rfl, hset, hb3⟩
  have cA : Hid (Cells w3 w.heap.size zs n) := hA2 w3 (hr2.below hb3 hz2')
  have cT : Hid (Cells w3 g (setOf zs) (setOf zs).length) := hset
  have hB3 : Below w.heap.size w w3 := hB2.trans (hb3.mono (Nat.le_of_lt hz2'))
  obtain ⟨f1, f2, f3⟩ := setOf_facts zs
  have hF : (setOf zs).length = (firsts zs n).length := by have := set_count zs; rw [HZ.out] at this; exact this
  have HF : Hid ((setOf zs).length = (firsts zs n).length) := hF
  have hmn : (setOf zs).length ≤ n := by have := HZ.out; omega
  have HASC : Hid (∀ j, j + 1 < (setOf zs).length → Op.bytesLess (strAt (setOf zs) j).toList (strAt (setOf zs) (j + 1)).toList = true) := by
    intro j hj
    rw [strAt_toList, strAt_toList]
    have hj0 : j < (setOf zs).length := by omega
    have := List.pairwise_iff_getElem.1 f1 j (j + 1) hj0 hj (by omega)
    simp only [List.getElem?_eq_getElem hj0, List.getElem?_eq_getElem hj, Option.getD_some]
    exact bytesLess_of this
  have HIN : Hid (∀ j, j < (setOf zs).length → ∃ j0, j0 < n ∧ ((strAt zs j0).toList == (strAt (setOf zs) j).toList) = true) := by
    intro j hj
    have hx : (setOf zs)[j] ∈ zs := (f2 _).1 (List.getElem_mem hj)
    obtain ⟨j0, hj0, e0⟩ := List.mem_iff_getElem.1 hx
    refine ⟨j0, by have := HZ.out; omega, ?_⟩
    rw [strAt_toList, strAt_toList, List.getElem?_eq_getElem hj0, List.getElem?_eq_getElem hj]
    simp [e0]
  have HFL : Hid (∀ k, k ≤ n → (firsts zs k).length ≤ k) := fun k hk => (firsts_facts zs k (by rw [HZ.out]; exact hk)).2.2
  clear hset f1 f2 f3 hF hA2 hb3 hB2 hz2' hr1 hr2 hb1 hb2 hxs hcl hcs1 hsrc HCS h
  go_wp2_with fail
  go_loopw [5, 6] (fun d i wr => ∃ k : Nat, k ≤ n ∧ i = .int .i64 (k : Int) ∧ d = .int .i64 ((firsts zs k).length : Int) ∧ ∃ q, wr = w3.drewN q) (fun _ i _ => n - (intOf i).toNat)
  case atStart => exact ⟨0, Nat.zero_le _, rfl, rfl, 0, rfl⟩
  case round =>
    obtain ⟨k, hk, rfl, rfl, q, rfl⟩ := hrel
    have hfl := HFL.out k hk
    by_cases hlt : k < n
    · have i0 : (k : Int) < (n : Int) := by omega
      go_wp2_with fail
      go_loopw [7, 8] (fun seen kk ws => ∃ j : Nat, j ≤ k ∧ kk = .int .i64 (j : Int) ∧ seen = .bool (memB zs k j) ∧ ∃ q, ws = w3.drewN q) (fun _ kk _ => k - (intOf kk).toNat)
      case atStart => exact ⟨0, Nat.zero_le _, rfl, by rw [memB_zero], _, rfl⟩
      case round =>
        obtain ⟨j, hj, rfl, rfl, q', rfl⟩ := hrel
        cases hm : memB zs k j
        · by_cases hjk : j < k
          · have i1 : (j : Int) < (k : Int) := by omega
            have i2 : (j : Int) < (n : Int) := by omega
            have c0 := cA.out j (by omega)
            have c1 := cA.out k hlt
            have hs := memB_succ zs k j (by have := HZ.out; omega)
            rw [hm, Bool.false_or] at hs
            have HS : Hid (memB zs k (j + 1) = ((strAt zs j).toList == (strAt zs k).toList)) := hs
            clear hs
            go_wp2_with fail
            go_quiet (fail)
            cases hb : ((strAt zs j).toList == (strAt zs k).toList)
            · go_wp2_with fail
              go_roundw
              case rel => exact ⟨j + 1, by omega, by go_num, by rw [HS.out, hb], _, rfl⟩
              case measure => simp [intOf]; omega
            · go_wp2_with fail
              go_roundw
              case rel => exact ⟨j + 1, by omega, by go_num, by rw [HS.out, hb], _, rfl⟩
              case measure => simp [intOf]; omega
          · have hjk' : j = k := by omega
            have hmk : memB zs k k = false := by rw [hjk'] at hm; exact hm
            have HN : Hid ((firsts zs (k + 1)).length = (firsts zs k).length + 1) := firsts_no zs k hmk
            have i1 : ¬ (j : Int) < (k : Int) := by omega
            clear hmk hjk'
            go_wp2_with fail
            go_roundw
            case rel => exact ⟨k + 1, by omega, by go_num, by rw [HN.out]; go_num, _, rfl⟩
            case measure => simp [intOf]; omega
        · have hmk : memB zs k k = true := memB_mono zs k hm hj
          have HN : Hid ((firsts zs (k + 1)).length = (firsts zs k).length) := firsts_yes zs k hmk
          clear hmk
          by_cases hjk : (j : Int) < (k : Int)
          · go_wp2_with fail
            go_roundw
            case rel => exact ⟨k + 1, by omega, by go_num, by rw [HN.out], _, rfl⟩
            case measure => simp [intOf]; omega
          · go_wp2_with fail
            go_roundw
            case rel => exact ⟨k + 1, by omega, by go_num, by rw [HN.out], _, rfl⟩
            case measure => simp [intOf]; omega
    · have hkn : k = n := by omega
      have hd : (firsts zs k).length = (setOf zs).length := by rw [hkn]; exact HF.out.symm
      have i0 : ¬ (k : Int) < (n : Int) := by omega
      rw [hd]
      clear hd hfl hkn HFL HF
      have hm1 : (setOf zs).length ≤ 4096 := by omega
      have hme : (((setOf zs).length : Int) != ((setOf zs).length : Int)) = false := by simp
      go_wp2_with fail
      refine (asc_any g cp (setOf zs) (w3.drewN q) (by omega) cT.out HASC.out).mono ?_
      rintro e w4 ⟨rfl, q2, rfl⟩
      go_wp2_with fail
      go_loopw [9] (fun i wr => ∃ j : Nat, j ≤ (setOf zs).length ∧ i = .int .i64 (j : Int) ∧ ∃ q, wr = w3.drewN q) (fun i _ => (setOf zs).length - (intOf i).toNat)
      case atStart => exact ⟨0, Nat.zero_le _, rfl, _, rfl⟩
      case round =>
        obtain ⟨j, hj, rfl, q3, rfl⟩ := hrel
        by_cases hjl : j < (setOf zs).length
        · have i3 : (j : Int) < ((setOf zs).length : Int) := by omega
          have c0 := cT.out j hjl
          obtain ⟨j0, hj0, he0⟩ := HIN.out j hjl
          have HE : Hid (((strAt zs j0).toList == (strAt (setOf zs) j).toList) = true) := he0
          clear he0
          go_wp2_with fail
          refine (has_any w.heap.size n n zs (strAt (setOf zs) j) (w3.drewN q3) (by omega) cA.out j0 hj0 HE.out).mono ?_
          rintro e w' ⟨rfl, rfl⟩
          go_wp2_with fail
          go_roundw
          case rel => exact ⟨j + 1, by omega, by go_num, _, rfl⟩
          case measure => simp [intOf]; omega
        · have i3 : ¬ (j : Int) < ((setOf zs).length : Int) := by omega
          go_wp2_with (go_at_call 9; refine (maj_any _ _ _ (by omega) _).mono ?_; rintro e w' ⟨rfl, hw⟩; have hw' := hw.symm; subst hw'; clear hw)
          go_ret
          exact ⟨ret_bool (decide_eq_true (by omega)), hB3.trans ⟨rfl, rfl, rfl, Nat.le_refl _, fun _ _ => rfl⟩⟩

set_option maxRecDepth 100000 in
set_option maxHeartbeats 2000000 in
theorem counts_empty (x : Addr) (c : Nat) (w : World) :
    Calls Try.prog 4 #[.slice (some x) 0 c] w fun e w' => e = .returned (.bool true) ∧ Below w.heap.size w w' := by
  obtain ⟨i0, hi, hz0, hz1, hz2⟩ := info_parts Try.info9
  have hne := fun (w : World) (r : Option Addr) (x y x' y' : Nat) => run_neq_slice_nil_any (P := Try.prog) w 22 9 r x y x' y' Try.underlying22
  have h : RowS w (some x) 0 := ⟨Nat.zero_le _, .inl rfl⟩
  go_enter Try.func4, Try.ntmps4
  go_wp2_with fail
  refine (bytes1_any _ _ _ _ h).mono ?_
  rintro e w' ⟨⟨r, rfl, hr⟩, hw⟩
  have hw' := hw.symm
  subst hw'
  clear hw hr
  cases r
  · go_wp2_with fail
    go_ret
    exact ⟨rfl, Below.refl _ _⟩
  go_wp2_with fail
  refine (strs_any _ _ _ _ _ _ (by omega) (by omega) (by omega) (by omega) (Nat.zero_le _) h).mono ?_
  rintro e w' ⟨⟨r, rfl⟩, hw⟩
  have hw' := hw.symm
  subst hw'
  clear hw
  by_cases hr1 : 1048576 < r
  · go_wp2_with fail
    go_ret
    exact ⟨rfl, Below.refl _ _⟩
  go_wp2_with (first
    | (at_make; refine law_make _ rfl (.tmp 23) (.tmp 23) 22 rfl 9 i0 _ 16 Try.underlying22 hi hz0 hz1 hz2 .i64 .i64 _ _ 0 rfl rfl rfl rfl (by omega) (by unfold maxLen; omega) ?_; intro w1 xs hr1 hxs hb1)
    | (refine law_copy rfl (.tmp 25) (.tmp 26) 22 rfl 9 Try.underlying22 Try.size9 w.heap.size 0 _ _ rfl rfl xs hxs hr1 [] rfl (fun h => absurd h (Nat.lt_irrefl _)) (by simp) ?_; intro w2 hr2 hb2; have hB2 := hb1.trans hb2)
    | (go_at_call 11; refine (zmembers_nil _ _ _).mono ?_; rintro e w' ⟨rfl, hw⟩; have hw' := hw.symm; subst hw'; clear hw))
  refine wp_loop_rounds 1 ?_
  rw [rounds_succ]
  go_wp2_with (go_at_call 12; refine (asc_nil _).mono ?_; rintro e w' ⟨rfl, hw⟩; have hw' := hw.symm; subst hw'; clear hw)
  refine wp_loop_rounds 1 ?_
  rw [rounds_succ]
  go_wp2_with (go_at_call 9; refine (maj_any _ _ _ (by omega) _).mono ?_; rintro e w' ⟨rfl, hw⟩; have hw' := hw.symm; subst hw'; clear hw)
  go_ret
  exact ⟨ret_bool (by simp), hB2⟩

set_option maxRecDepth 100000 in
set_option maxHeartbeats 2000000 in
theorem counts_nil (w : World) :
    Calls Try.prog 4 #[.slice none 0 0] w fun e w' => e = .returned (.bool true) ∧ Below w.heap.size w w' := by
  have hne := fun (w : World) (r : Option Addr) (x y x' y' : Nat) => run_neq_slice_nil_any (P := Try.prog) w 22 9 r x y x' y' Try.underlying22
  have h : RowS w none 0 := ⟨Nat.zero_le _, .inl rfl⟩
  go_enter Try.func4, Try.ntmps4
  go_wp2_with fail
  refine (bytes1_any _ _ _ _ h).mono ?_
  rintro e w' ⟨⟨r, rfl, hr⟩, hw⟩
  have hw' := hw.symm
  subst hw'
  clear hw hr
  cases r
  · go_wp2_with fail
    go_ret
    exact ⟨rfl, Below.refl _ _⟩
  go_wp2_with fail
  refine (strs_any _ _ _ _ _ _ (by omega) (by omega) (by omega) (by omega) (Nat.zero_le _) h).mono ?_
  rintro e w' ⟨⟨r, rfl⟩, hw⟩
  have hw' := hw.symm
  subst hw'
  clear hw
  by_cases hr1 : 1048576 < r
  · go_wp2_with fail
    go_ret
    exact ⟨rfl, Below.refl _ _⟩
  go_wp2_with (go_at_call 11; refine (zmembers_nil _ _ _).mono ?_; rintro e w' ⟨rfl, hw⟩; have hw' := hw.symm; subst hw'; clear hw)
  refine wp_loop_rounds 1 ?_
  rw [rounds_succ]
  go_wp2_with (go_at_call 12; refine (asc_nil _).mono ?_; rintro e w' ⟨rfl, hw⟩; have hw' := hw.symm; subst hw'; clear hw)
  refine wp_loop_rounds 1 ?_
  rw [rounds_succ]
  go_wp2_with (go_at_call 9; refine (maj_any _ _ _ (by omega) _).mono ?_; rintro e w' ⟨rfl, hw⟩; have hw' := hw.symm; subst hw'; clear hw)
  go_ret
  exact ⟨ret_bool (by simp), Below.refl _ _⟩

end Go.Proofs.Qxb6616331a
