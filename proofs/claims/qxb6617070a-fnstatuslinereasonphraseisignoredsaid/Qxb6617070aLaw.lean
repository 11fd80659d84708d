/-
  Seat b6617070a: the walk of FnStatusLineReasonPhraseIsIgnored.
-/
import Derived.Test.Qxb6617070aHead
import Derived.Test.Qxb6617070aLaws
namespace Go.Proofs.Qxb6617070a
open Go.ChangeShapes Go.WideShapes Go.ChangeAt Go.RowKit
set_option linter.unusedVariables false

theorem Try.info5 : (Try.prog.info? 5).map (fun i => (i.zero, i.size, i.bytes)) = some (some (.int .u8 0), 1, 1) := by kernel_rfl
theorem Try.size5 : (Try.prog.info? 5).map (·.size) = some 1 := by kernel_rfl

/-- What the law is told of its line and its reason. -/
structure Line (w : World) (a : Addr) (n : Nat) (cs : List Value) (z : Nat → Int) (t : Int) (p : Bool) : Prop where
  len : cs.length = n
  one : ∀ v ∈ cs, v.oneCell' = true
  src : ∀ w', Below w.heap.size w w' → 0 < n → ∃ ad, some a = some ad ∧ ∀ j v, cs[j]? = some v → w'.cell? (ad.add j) = some v
  range : ∀ i, i < 12 → 0 ≤ z i ∧ z i ≤ 255
  at' : ∀ i, i < 12 → cs[i]? = some (.int .u8 (z i))
  tail : 12 < n → cs[12]? = some (.int .u8 t)
  kind : (p = true ∧ n = 12) ∨ (p = true ∧ 12 < n ∧ t = 32) ∨ (p = false ∧ 12 < n ∧ t ≠ 32)

structure Reason (w : World) (a : Option Addr) (m d : Nat) (ds : List Value) : Prop where
  len : ds.length = m
  one : ∀ v ∈ ds, v.oneCell' = true
  src : ∀ w', Below w.heap.size w w' → ∀ ad, a = some ad → ∀ j v, ds[j]? = some v → w'.cell? (ad.add j) = some v
  nil : a = none → m = 0 ∧ d = 0

set_option maxRecDepth 100000 in
set_option maxHeartbeats 2000000 in
theorem law_long (a : Addr) (n c : Nat) (a' : Option Addr) (m d : Nat) (w : World) (cs ds : List Value) (z : Nat → Int) (t : Int) (p : Bool) (hn : 12 ≤ n) (hnm : n ≤ 9223372036854775807) (hmm : m ≤ 9223372036854775807)
    (L : Line w a n cs z t p) (R : Reason w a' m d ds) :
    Calls Try.prog 5 #[.slice (some a) n c, .slice a' m d] w fun e w' => e = .returned (.bool true) ∧ Below w.heap.size w w' := by
  obtain ⟨i0, hi, hz0, hz1, hz2⟩ := info_parts Try.info5
  have hne := fun (w : World) (r : Option Addr) (x y x' y' : Nat) => run_neq_slice_nil_any (P := Try.prog) w 22 5 r x y x' y' Try.underlying22
  go_enter Try.func5, Try.ntmps5
  go_wp2_with fail
  refine (bytes_any _ _ _ _ _ _ _ hnm hmm).mono ?_
  rintro e w' ⟨⟨r, rfl, hr⟩, hw⟩
  have hw' := hw.symm
  subst hw'
  clear hw
  cases r
  · go_wp2_with fail
    go_ret
    exact ⟨rfl, Below.refl _ _⟩
  obtain ⟨hn1, hm1⟩ := hr rfl
  clear hr
  by_cases hn2 : n ≤ 65536
  · by_cases hm2 : m ≤ 65536
    · go_wp2_with (first
        | (at_make; refine law_make _ rfl (.tmp 31) (.tmp 31) 22 rfl 5 i0 _ 1 Try.underlying22 hi hz0 hz1 hz2 .i64 .i64 _ _ n rfl rfl rfl rfl (by omega) (by unfold maxLen; omega) ?_; intro w1 xs hr1 hxs hb1)
        | (refine law_copy rfl (.tmp 33) (.tmp 34) 22 rfl 5 Try.underlying22 Try.size5 w.heap.size n _ _ rfl rfl xs hxs hr1 cs L.len (L.src _ hb1) L.one ?_; intro w2 hr2 hb2; have hB2 := hb1.trans hb2; have hz2' := hr2.lt))
      refine (zline_any w.heap.size 0 n n z t p w2 hn hnm (Nat.le_refl _) L.range hz2' (fun i hi => by rw [Nat.zero_add, hr2.cell]; exact L.at' i hi) (fun h => by rw [Nat.zero_add, hr2.cell]; exact L.tail h) L.kind).mono ?_
      rintro e w3 ⟨rfl, hb3⟩
      have hB3 := hB2.trans (hb3.mono (Nat.le_of_lt hz2'))
      have hr3 := hr2.below hb3 hz2'
      have hz3 := hr3.lt
      clear hb1 hb2 hb3 hr1 hr2 hB2 hxs hz2'
      have hx12 : (cs.take 12).length = 12 := by rw [List.length_take, L.len]; omega
      have h1x12 : ∀ v ∈ cs.take 12, v.oneCell' = true := fun v hv => L.one v (List.mem_of_mem_take hv)
      obtain ⟨xs12, hxs12⟩ : ∃ l, l = cs.take 12 := ⟨_, rfl⟩
      rw [← hxs12] at hx12 h1x12
      have HX : Hid (xs12 = cs.take 12) := hxs12
      clear hxs12
      have hsub : ∀ (j : Nat) (u : Value), xs12[j]? = some u → cs[j]? = some u := by
        intro j u hj
        rw [HX.out, List.getElem?_take] at hj
        split at hj
        · exact hj
        · cases hj
      have HS : Hid (∀ (j : Nat) (u : Value), xs12[j]? = some u → cs[j]? = some u) := hsub
      clear hsub
      go_wp2_with (first
        | (at_make; refine law_make0 _ rfl (.const (.int .i64 0)) (.tmp 58) 22 rfl 5 i0 _ 1 Try.underlying22 hi hz0 hz1 hz2 .i64 .i64 _ (13 + m) rfl rfl (by omega) (by omega) (by unfold maxLen; omega) ?_; intro w4 hp4 hb4; have hB4 := hB3.trans (hb4.mono (by omega)); have hr4 := hr3.below hb4 hz3)
        | (at_builtin; refine law_append _ rfl (.tmp 60) (.tmp 62) 22 rfl 5 i0 Try.underlying22 hi hz1 w3.heap.size 0 (13 + m) [] rfl rfl hp4 _ 12 _ xs12 rfl hx12 (by intro hh; cases hh) (fun ad had j u hj => hr4.src ad had j u (HS.out j u hj)) h1x12 (by omega) ?_; intro w5 hp5 hb5; have hB5 := hB4.trans (hb5.mono (by omega)); have hr5 := hr4.below hb5 hz3; have hs5 := hp5.lt; have hq5 := hp5.below (B := w5.heap.size) ((Below.refl _ _).alloc (Nat.le_refl _) (.cells #[.int .u8 32] 5)) hs5; have hn5 := Row.new w5 5 [.int .u8 32])
        | (at_builtin; refine law_append _ rfl (.tmp 64) (.tmp 65) 22 rfl 5 i0 Try.underlying22 hi hz1 w3.heap.size 12 (13 + m) ([] ++ xs12) rfl (by simpa using hx12) hq5 _ 1 _ [.int .u8 32] rfl rfl (by intro hh; cases hh) (Row.src hn5) (by simp [Value.oneCell']) (by omega) ?_; intro w6 hp6 hb6; have hB6 := (hB5.alloc hB5.size _).trans (hb6.mono (by omega)); have hr6 := (hr5.below (B := w5.heap.size) ((Below.refl _ _).alloc (Nat.le_refl _) _) hr5.lt).below hb6 hz3)
        | (at_builtin; refine law_append _ rfl (.tmp 67) (.tmp 68) 22 rfl 5 i0 Try.underlying22 hi hz1 w3.heap.size 13 (13 + m) (([] ++ xs12) ++ [.int .u8 32]) rfl (by simp [hx12]) hp6 _ m _ ds rfl R.len R.nil (R.src _ hB6) R.one (by omega) ?_; intro w7 hp7 hb7; have hB7 := hB6.trans (hb7.mono (by omega)); have hr7 := hr6.below hb7 hz3))
      have hj : ∀ i, i < 12 → w7.cell? ⟨w3.heap.size, 0 + i, none⟩ = some (.int .u8 (z i)) := by
        intro i hi
        rw [Nat.zero_add]
        refine hp7.cells i _ ?_
        rw [List.nil_append, List.append_assoc, List.getElem?_append_left (by omega), HX.out, List.getElem?_take, if_pos hi]
        exact L.at' i hi
      have hj12 : w7.cell? ⟨w3.heap.size, 0 + 12, none⟩ = some (.int .u8 32) := by
        refine hp7.cells 12 _ ?_
        rw [List.nil_append, List.append_assoc, List.getElem?_append_right (by omega), hx12]
        rfl
      refine (zline_any w3.heap.size 0 (13 + m) (13 + m) z 32 true w7 (by omega) (by omega) (Nat.le_refl _) L.range hp7.lt hj (fun _ => hj12) (.inr (.inl ⟨rfl, by omega, rfl⟩))).mono ?_
      rintro e w8 ⟨rfl, hb8⟩
      have hB8 := hB7.trans (hb8.mono hB7.size)
      have hr8 := hr7.below hb8 hr7.lt
      clear hj hj12 hr3 hr4 hr5 hr6 hr7 hp4 hp5 hp6 hp7 hq5 hn5 hb4 hb5 hb6 hb7 hb8 hB3 hB4 hB5 hB6 hB7
      have HR8 : Hid (Row w8 w.heap.size 5 cs) := hr8
      go_wp2_with fail
      refine (head_any w.heap.size 0 n z w8 hn L.range (fun i hi => by rw [Nat.zero_add, hr8.cell]; exact L.at' i hi)).mono ?_
      rintro e w9 ⟨rfl, hb9⟩
      have hB9 := hB8.trans (hb9.mono hB8.size)
      have hr9 := hr8.below hb9 hr8.lt
      clear hr8 hb9 hB8
      have hlen := L.len
      rcases L.kind with ⟨rfl, hn12⟩ | ⟨rfl, hn12, ht⟩ | ⟨rfl, hn12, ht⟩
      · have e12 : ((n : Int) == 12) = true := by simp; omega
        clear hn12
        go_wp2_with fail
        go_ret
        exact ⟨ret_bool (by simp), hB9⟩
      · have e12 : ((n : Int) == 12) = false := by simp; omega
        have l12 : (12 : Int) < (n : Int) := by omega
        have c12 : w9.cell? ⟨w.heap.size, 12, none⟩ = some (.int .u8 32) := by rw [hr9.cell, L.tail hn12, ht]
        clear ht
        go_wp2_with fail
        go_ret
        exact ⟨ret_bool (by simp), hB9⟩
      · have e12 : ((n : Int) == 12) = false := by simp; omega
        have l12 : (12 : Int) < (n : Int) := by omega
        have c12 : w9.cell? ⟨w.heap.size, 12, none⟩ = some (.int .u8 t) := by rw [hr9.cell, L.tail hn12]
        have ht' : (t == 32) = false := by simpa using ht
        clear ht
        have s0 : st z false = 0 := st_no (ok_false z)
        have m0 : mi z false = 0 := mi_no (ok_false z)
        have o0 : ok z false = false := ok_false z
        go_wp2_with fail
        go_ret
        exact ⟨ret_bool (by simp), hB9⟩
    · go_wp2_with fail
      go_ret
      exact ⟨rfl, Below.refl _ _⟩
  · go_wp2_with fail
    go_ret
    exact ⟨rfl, Below.refl _ _⟩

set_option maxRecDepth 100000 in
set_option maxHeartbeats 1000000 in
theorem law_short (a : Addr) (n c : Nat) (a' : Option Addr) (m d : Nat) (w : World) (cs : List Value) (hn : n < 12) (hmm : m ≤ 9223372036854775807)
    (hcs : cs.length = n) (hcs1 : ∀ v ∈ cs, v.oneCell' = true) (hsrc : ∀ w', Below w.heap.size w w' → 0 < n → ∃ ad, some a = some ad ∧ ∀ j v, cs[j]? = some v → w'.cell? (ad.add j) = some v) :
    Calls Try.prog 5 #[.slice (some a) n c, .slice a' m d] w fun e w' => e = .returned (.bool true) ∧ Below w.heap.size w w' := by
  obtain ⟨i0, hi, hz0, hz1, hz2⟩ := info_parts Try.info5
  have hne := fun (w : World) (r : Option Addr) (x y x' y' : Nat) => run_neq_slice_nil_any (P := Try.prog) w 22 5 r x y x' y' Try.underlying22
  go_enter Try.func5, Try.ntmps5
  go_wp2_with fail
  refine (bytes_any _ _ _ _ _ _ _ (by omega) hmm).mono ?_
  rintro e w' ⟨⟨r, rfl, hr⟩, hw⟩
  have hw' := hw.symm
  subst hw'
  clear hw
  cases r
  · go_wp2_with fail
    go_ret
    exact ⟨rfl, Below.refl _ _⟩
  obtain ⟨hn1, hm1⟩ := hr rfl
  clear hr
  by_cases hm2 : m ≤ 65536
  · go_wp2_with (first
      | (at_make; refine law_make _ rfl (.tmp 31) (.tmp 31) 22 rfl 5 i0 _ 1 Try.underlying22 hi hz0 hz1 hz2 .i64 .i64 _ _ n rfl rfl rfl rfl (by omega) (by unfold maxLen; omega) ?_; intro w1 xs hr1 hxs hb1)
      | (refine law_copy rfl (.tmp 33) (.tmp 34) 22 rfl 5 Try.underlying22 Try.size5 w.heap.size n _ _ rfl rfl xs hxs hr1 cs hcs (hsrc _ hb1) hcs1 ?_; intro w2 hr2 hb2; have hB2 := hb1.trans hb2)
      | (go_at_call 15; refine (zline_short _ _ _ _ hn).mono ?_; rintro e w' ⟨rfl, hw⟩; have hw' := hw.symm; subst hw'; clear hw))
    go_ret
    exact ⟨rfl, hB2⟩
  · go_wp2_with fail
    go_ret
    exact ⟨rfl, Below.refl _ _⟩

set_option maxRecDepth 100000 in
set_option maxHeartbeats 1000000 in
theorem law_nil (a' : Option Addr) (m d : Nat) (w : World) (hmm : m ≤ 9223372036854775807) :
    Calls Try.prog 5 #[.slice none 0 0, .slice a' m d] w fun e w' => e = .returned (.bool true) ∧ Below w.heap.size w w' := by
  obtain ⟨i0, hi, hz0, hz1, hz2⟩ := info_parts Try.info5
  have hne := fun (w : World) (r : Option Addr) (x y x' y' : Nat) => run_neq_slice_nil_any (P := Try.prog) w 22 5 r x y x' y' Try.underlying22
  go_enter Try.func5, Try.ntmps5
  go_wp2_with fail
  refine (bytes_any _ _ _ _ _ _ _ (by omega) hmm).mono ?_
  rintro e w' ⟨⟨r, rfl, hr⟩, hw⟩
  have hw' := hw.symm
  subst hw'
  clear hw
  cases r
  · go_wp2_with fail
    go_ret
    exact ⟨rfl, Below.refl _ _⟩
  obtain ⟨hn1, hm1⟩ := hr rfl
  clear hr
  by_cases hm2 : m ≤ 65536
  · go_wp2_with (go_at_call 15; refine (zline_short _ _ _ _ (by omega)).mono ?_; rintro e w' ⟨rfl, hw⟩; have hw' := hw.symm; subst hw'; clear hw)
    go_ret
    exact ⟨rfl, Below.refl _ _⟩
  · go_wp2_with fail
    go_ret
    exact ⟨rfl, Below.refl _ _⟩

end Go.Proofs.Qxb6617070a
