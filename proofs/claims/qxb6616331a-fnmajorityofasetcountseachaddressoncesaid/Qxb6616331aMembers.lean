/-
  Seat b6616331a: setOf, newMembers, ZZnewMembers: the set of the addresses, in memory of the call's own.
-/
import Derived.Test.Qxb6616331aIter
import Derived.Test.Qxb6616331aSet
namespace Go.Proofs.Qxb6616331a
open Go.RowKit Go.Shelf Go.Sort
set_option linter.unusedVariables false

/-- What comes back: a slice whose cells hold the set of zs. -/
def IsSet (w : World) (zs : List Str) (e : Ending) (w' : World) : Prop :=
  ∃ g cp, e = .returned (.slice (some ⟨g, 0, none⟩) (setOf zs).length cp) ∧ (∀ j, j < (setOf zs).length → w'.cell? ⟨g, j, none⟩ = some (encStr ((setOf zs)[j]?.getD []))) ∧ Below w.heap.size w w'

set_option maxRecDepth 100000 in
set_option maxHeartbeats 1000000 in
theorem set_any (b off n cap : Nat) (zs : List Str) (w : World) (hn : zs.length = n) (hpos : 0 < n) (hlen : n ≤ 1048576) (hb : b < w.heap.size) (hI : ∀ j, j < n → w.cell? ⟨b, off + j, none⟩ = some (encStr (zs[j]?.getD []))) :
    Calls Try.prog 28 #[.slice (some ⟨b, off, none⟩) n cap] w fun e w' => IsSet w zs e w' := by
  have hne : ((n : Int) == 0) = false := by simp; omega
  have HI : Hid (∀ j, j < n → w.cell? ⟨b, off + j, none⟩ = some (encStr (zs[j]?.getD []))) := hI
  have HN : Hid (zs.length = n) := hn
  clear hI hn
  go_enter Try.func28, Try.ntmps28
  go_wp2_with (go_at_call 31; refine ((callsIn_wide (n := 0)).1 (values_in Fence.wide 0 trivial rfl _ _ _ _)).mono ?_; rintro e w' ⟨rfl, rfl⟩)
  have hB0 : Below w.heap.size w (w.alloc (.cells #[.slice (some ⟨b, off, none⟩) n cap] 22)) := (Below.refl _ w).alloc (Nat.le_refl _) _
  have E := (callsIn_wide (n := 5)).1 (sorted_in 5 (Nat.le_refl _) w.heap.size b off cap zs (by have := HN.out; omega) (by have := HN.out; omega) (w.alloc (.cells #[.slice (some ⟨b, off, none⟩) n cap] 22)) (by simp)
    (by rw [HN.out]; exact World.cell?_alloc_at _ _ _ _ rfl) (by simp; omega) (fun j hj => (hB0.cell (p := ⟨b, off + j, none⟩) hb).trans (HI.out j (by have := HN.out; omega))))
  refine E.mono ?_
  clear E
  rintro e w1 ⟨g, cp, rfl, hcp, hg, hg1, hH, hb1⟩
  have hB1 : Below w.heap.size w w1 := hB0.trans (hb1.mono (by simp))
  have hgw : w.heap.size ≤ g := by simp at hg; omega
  have hl : (zs.mergeSort fun x y => decide (x ≤ y)).length = zs.length := List.length_mergeSort zs
  have EC := Try.slices_Compact_string g 0 cp (zs.mergeSort fun x y => decide (x ≤ y)) w1 hH (by rw [hl, HN.out]; omega) (by rw [hl]; exact hcp)
  have hcl : (setOf zs).length ≤ zs.length := (setOf_facts zs).2.2
  have EC' : Calls Try.prog 29 #[.slice (some ⟨g, 0, none⟩) zs.length cp] w1 fun e w' => IsSet w zs e w' := by
    rw [hl] at EC
    refine EC.mono ?_
    rintro e w2 ⟨rfl, q, rfl⟩
    have hsz : (Lib.compact (zs.mergeSort fun x y => decide (x ≤ y)) ++ List.replicate (zs.length - (Lib.compact (zs.mergeSort fun x y => decide (x ≤ y))).length) []).toArray.size = (zs.mergeSort fun x y => decide (x ≤ y)).toArray.size := by
      have : (Lib.compact (zs.mergeSort fun x y => decide (x ≤ y))).length ≤ zs.length := hcl
      simp only [List.size_toArray, List.length_append, List.length_replicate, hl]
      omega
    refine ⟨g, cp, rfl, ?_, ?_⟩
    · intro j hj
      have hh := holds_putRow encStr (Sort.ahead w1 q) g 0 _ _ (holds_ahead encStr w1 q g 0 _ hH) hsz
      have hj2 : j < (Lib.compact (zs.mergeSort fun x y => decide (x ≤ y)) ++ List.replicate (zs.length - (Lib.compact (zs.mergeSort fun x y => decide (x ≤ y))).length) []).toArray.size := by
        have : j < (Lib.compact (zs.mergeSort fun x y => decide (x ≤ y))).length := hj
        simp only [List.size_toArray, List.length_append]
        omega
      have h1 := (hh j hj2).1
      rw [Nat.zero_add] at h1
      refine h1.trans ?_
      have hj3 : j < (Lib.compact (zs.mergeSort fun x y => decide (x ≤ y))).length := hj
      have e2 : (Lib.compact (zs.mergeSort fun x y => decide (x ≤ y)) ++ List.replicate (zs.length - (Lib.compact (zs.mergeSort fun x y => decide (x ≤ y))).length) []).toArray[j]! = (setOf zs)[j]?.getD [] := by
        rw [getElem!_pos _ j hj2]
        simp only [List.getElem_toArray]
        rw [List.getElem_append_left hj3]
        show _ = (Lib.compact (zs.mergeSort fun x y => decide (x ≤ y)))[j]?.getD []
        simp [hj3]
      rw [e2]
    · have := grownBy_sorted (w := w1) (g := g) (n := q) (os := #[]) (Lib.compact (zs.mergeSort fun x y => decide (x ≤ y)) ++ List.replicate (zs.length - (Lib.compact (zs.mergeSort fun x y => decide (x ≤ y))).length) []).toArray
      rw [grow_empty] at this
      exact hB1.grown this hB1.size (fun j hj => by cases hj; exact hgw)
  clear EC hH hl hcl
  go_wp2_with fail
  refine EC'.mono ?_
  rintro e w2 ⟨g2, cp2, rfl, hc2, hb2⟩
  have HC : Hid (∀ j, j < (setOf zs).length → w2.cell? ⟨g2, j, none⟩ = some (encStr ((setOf zs)[j]?.getD []))) := hc2
  clear hc2
  go_wp2_with fail
  go_ret
  exact ⟨g2, cp2, rfl, HC.out, hb2⟩

set_option maxRecDepth 100000 in
set_option maxHeartbeats 400000 in
theorem set_nil (a : Option Addr) (cap : Nat) (w : World) :
    Calls Try.prog 28 #[.slice a 0 cap] w fun e w' => e = .returned (.slice none 0 0) ∧ w' = w := by
  go_enter Try.func28, Try.ntmps28
  go_wp2
  go_ret
  exact ⟨rfl, rfl⟩

theorem members_any (b off n cap : Nat) (zs : List Str) (w : World) (hn : zs.length = n) (hpos : 0 < n) (hlen : n ≤ 1048576) (hb : b < w.heap.size) (hI : ∀ j, j < n → w.cell? ⟨b, off + j, none⟩ = some (encStr (zs[j]?.getD []))) :
    Calls Try.prog 23 #[.slice (some ⟨b, off, none⟩) n cap] w fun e w' => IsSet w zs e w' := by
  have E : Hid (Calls Try.prog 28 #[.slice (some ⟨b, off, none⟩) n cap] w fun e w' => IsSet w zs e w') := set_any b off n cap zs w hn hpos hlen hb hI
  clear hI hn
  go_enter Try.func23, Try.ntmps23
  go_wp2_with fail
  refine E.out.mono ?_
  rintro e w2 ⟨g2, cp2, rfl, hc2, hb2⟩
  have HC : Hid (∀ j, j < (setOf zs).length → w2.cell? ⟨g2, j, none⟩ = some (encStr ((setOf zs)[j]?.getD []))) := hc2
  clear hc2
  go_wp2_with fail
  go_ret
  exact ⟨g2, cp2, rfl, HC.out, hb2⟩

theorem members_nil (a : Option Addr) (cap : Nat) (w : World) :
    Calls Try.prog 23 #[.slice a 0 cap] w fun e w' => e = .returned (.slice none 0 0) ∧ w' = w := by
  go_enter Try.func23, Try.ntmps23
  go_wp2_with (go_at_call 28; refine (set_nil _ _ _).mono ?_; rintro e w' ⟨rfl, hw⟩; have hw' := hw.symm; subst hw'; clear hw)
  go_ret
  exact ⟨rfl, rfl⟩

theorem zmembers_any (b off n cap : Nat) (zs : List Str) (w : World) (hn : zs.length = n) (hpos : 0 < n) (hlen : n ≤ 1048576) (hb : b < w.heap.size) (hI : ∀ j, j < n → w.cell? ⟨b, off + j, none⟩ = some (encStr (zs[j]?.getD []))) :
    Calls Try.prog 11 #[.slice (some ⟨b, off, none⟩) n cap] w fun e w' => IsSet w zs e w' := by
  have E : Hid (Calls Try.prog 23 #[.slice (some ⟨b, off, none⟩) n cap] w fun e w' => IsSet w zs e w') := members_any b off n cap zs w hn hpos hlen hb hI
  clear hI hn
  go_enter Try.func11, Try.ntmps11
  go_wp2_with fail
  refine E.out.mono ?_
  rintro e w2 ⟨g2, cp2, rfl, hc2, hb2⟩
  have HC : Hid (∀ j, j < (setOf zs).length → w2.cell? ⟨g2, j, none⟩ = some (encStr ((setOf zs)[j]?.getD []))) := hc2
  clear hc2
  go_wp2_with fail
  go_ret
  exact ⟨g2, cp2, rfl, HC.out, hb2⟩

theorem zmembers_nil (a : Option Addr) (cap : Nat) (w : World) :
    Calls Try.prog 11 #[.slice a 0 cap] w fun e w' => e = .returned (.slice none 0 0) ∧ w' = w := by
  go_enter Try.func11, Try.ntmps11
  go_wp2_with (go_at_call 23; refine (members_nil _ _ _).mono ?_; rintro e w' ⟨rfl, hw⟩; have hw' := hw.symm; subst hw'; clear hw)
  go_ret
  exact ⟨rfl, rfl⟩

end Go.Proofs.Qxb6616331a
