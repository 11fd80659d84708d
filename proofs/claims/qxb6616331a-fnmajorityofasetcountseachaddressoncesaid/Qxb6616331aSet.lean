/-
  Seat b6616331a: the plain mathematics: a sorted list without its repeats: ascending, of the same members, as long as there are distinct elements.
-/
import Derived.Lib.SlicesCompact
import Derived.Lib.RowBridge
import Derived.Sort.Walk0
namespace Go.Proofs.Qxb6616331a
open Go.Lib

abbrev Str := List UInt8

theorem str_le_trans {a b c : Str} (h1 : a ≤ b) (h2 : b ≤ c) : a ≤ c := List.le_trans h1 h2
theorem str_lt_of {a b : Str} (h1 : a ≤ b) (h2 : a ≠ b) : a < b := by
  by_cases h : a < b
  · exact h
  · exact absurd (List.le_antisymm h1 (List.not_lt.1 h)) h2
theorem str_lt_irrefl (a : Str) : ¬ a < a := List.lt_irrefl a

/-- The k-th element of what was put in order, without its repeats. -/
theorem compactUpTo_facts (d : Array Str) (hd : ∀ i j, i < j → j < d.size → d[i]! ≤ d[j]!) : ∀ m, m ≤ d.size →
    (compactUpTo d m).Pairwise (· < ·) ∧ (∀ x, x ∈ compactUpTo d m ↔ ∃ j, j < m ∧ d[j]! = x) ∧ (∀ x ∈ compactUpTo d m, ∀ j, j + 1 = m → x ≤ d[j]!)
  | 0, _ => by simp [compactUpTo]
  | m + 1, hm => by
    obtain ⟨h1, h2, h3⟩ := compactUpTo_facts d hd m (by omega)
    rw [compactUpTo_succ]
    by_cases hk : keeps d m = true
    · rw [if_pos hk]
      refine ⟨?_, ?_, ?_⟩
      · rw [List.pairwise_append]
        refine ⟨h1, List.pairwise_singleton _ _, ?_⟩
        intro x hx y hy
        rw [List.mem_singleton] at hy
        subst hy
        obtain ⟨j, hj, rfl⟩ := (h2 x).1 hx
        have hm0 : m ≠ 0 := by omega
        simp only [keeps, decide_eq_true_eq] at hk
        have hne : d[m]! ≠ d[m - 1]! := hk.resolve_left hm0
        have hle : d[j]! ≤ d[m - 1]! := h3 _ hx (m - 1) (by omega)
        have hlt : d[m - 1]! < d[m]! := str_lt_of (hd (m - 1) m (by omega) (by omega)) (fun e => hne e.symm)
        refine str_lt_of (str_le_trans hle (List.le_of_lt hlt)) ?_
        intro e
        rw [e] at hle
        exact absurd hlt (List.not_lt.2 hle)
      · intro x
        rw [List.mem_append, List.mem_singleton, h2 x]
        constructor
        · rintro (⟨j, hj, rfl⟩ | rfl)
          · exact ⟨j, by omega, rfl⟩
          · exact ⟨m, by omega, rfl⟩
        · rintro ⟨j, hj, rfl⟩
          by_cases e : j = m
          · subst e; exact .inr rfl
          · exact .inl ⟨j, by omega, rfl⟩
      · intro x hx j hj
        have hjm : j = m := by omega
        subst hjm
        rw [List.mem_append, List.mem_singleton] at hx
        rcases hx with hx | rfl
        · obtain ⟨i, hi, rfl⟩ := (h2 x).1 hx
          exact hd i j hi (by omega)
        · exact List.le_refl _
    · rw [if_neg hk, List.append_nil]
      have hk' : m ≠ 0 ∧ d[m]! = d[m - 1]! := by
        simp only [keeps, decide_eq_true_eq, not_or] at hk
        exact ⟨hk.1, Classical.not_not.1 hk.2⟩
      refine ⟨h1, ?_, ?_⟩
      · intro x
        rw [h2 x]
        constructor
        · rintro ⟨j, hj, rfl⟩
          exact ⟨j, by omega, rfl⟩
        · rintro ⟨j, hj, rfl⟩
          by_cases e : j = m
          · subst e; exact ⟨j - 1, by omega, hk'.2.symm⟩
          · exact ⟨j, by omega, rfl⟩
      · intro x hx j hj
        have hjm : j = m := by omega
        subst hjm
        obtain ⟨i, hi, rfl⟩ := (h2 x).1 hx
        exact hd i j hi (by omega)

/-- The set of zs. -/
def setOf (zs : List Str) : List Str := compact (zs.mergeSort fun x y => decide (x ≤ y))

theorem sorted_facts (zs : List Str) : ((zs.mergeSort fun x y => decide (x ≤ y)).Pairwise fun x y => x ≤ y) ∧ (zs.mergeSort fun x y => decide (x ≤ y)).Perm zs := by
  refine ⟨?_, List.mergeSort_perm zs _⟩
  have h := List.pairwise_mergeSort (le := fun x y : Str => decide (x ≤ y)) (fun a b c h1 h2 => by simp only [decide_eq_true_eq] at *; exact str_le_trans h1 h2) (fun a b => by
    simp only [Bool.or_eq_true, decide_eq_true_eq]
    exact List.le_total a b) zs
  rw [List.pairwise_iff_getElem] at h ⊢
  intro i j hi hj hij
  simpa using h i j hi hj hij

theorem setOf_facts (zs : List Str) : (setOf zs).Pairwise (· < ·) ∧ (∀ x, x ∈ setOf zs ↔ x ∈ zs) ∧ (setOf zs).length ≤ zs.length := by
  obtain ⟨hs, hp⟩ := sorted_facts zs
  generalize hS : (zs.mergeSort fun x y => decide (x ≤ y)) = S at hs hp
  have hd : ∀ i j, i < j → j < S.toArray.size → S.toArray[i]! ≤ S.toArray[j]! := by
    intro i j hij hj
    have hj' : j < S.length := by simpa using hj
    have hi' : i < S.length := by omega
    have := List.pairwise_iff_getElem.1 hs i j hi' hj' hij
    simpa [hi', hj'] using this
  obtain ⟨h1, h2, _⟩ := compactUpTo_facts S.toArray hd S.length (by simp)
  have e : setOf zs = compactUpTo S.toArray S.length := by rw [setOf, hS]; rfl
  rw [e]
  refine ⟨h1, ?_, ?_⟩
  · intro x
    rw [h2 x, ← hp.mem_iff, List.mem_iff_getElem]
    constructor
    · rintro ⟨j, hj, rfl⟩
      exact ⟨j, hj, by simp [hj]⟩
    · rintro ⟨j, hj, rfl⟩
      exact ⟨j, hj, by simp [hj]⟩
  · have := compact_length_le S
    rw [← hp.length_eq]
    exact this

/-- The elements that stand for the first time, among the first k. -/
def firsts (zs : List Str) : Nat → List Str
  | 0 => []
  | k + 1 => if (zs.take k).contains (zs[k]?.getD []) then firsts zs k else firsts zs k ++ [zs[k]?.getD []]

theorem firsts_facts (zs : List Str) : ∀ k, k ≤ zs.length → (firsts zs k).Nodup ∧ (∀ x, x ∈ firsts zs k ↔ x ∈ zs.take k) ∧ (firsts zs k).length ≤ k
  | 0, _ => by simp [firsts]
  | k + 1, hk => by
    obtain ⟨h1, h2, h3⟩ := firsts_facts zs k (by omega)
    have hk' : k < zs.length := by omega
    have et : zs.take (k + 1) = zs.take k ++ [zs[k]?.getD []] := by
      rw [List.take_succ_eq_append_getElem hk']
      simp [hk']
    rw [firsts]
    by_cases hc : (zs.take k).contains (zs[k]?.getD []) = true
    · rw [if_pos hc]
      have hm : zs[k]?.getD [] ∈ zs.take k := List.contains_iff_mem.1 hc
      refine ⟨h1, ?_, by omega⟩
      intro x
      rw [et, List.mem_append, List.mem_singleton, h2 x]
      constructor
      · exact .inl
      · rintro (h | rfl)
        · exact h
        · exact hm
    · rw [if_neg hc]
      have hm : ¬ zs[k]?.getD [] ∈ zs.take k := fun h => hc (List.contains_iff_mem.2 h)
      refine ⟨?_, ?_, by simp; omega⟩
      · rw [List.nodup_append]
        refine ⟨h1, by simp, ?_⟩
        intro a ha b hb
        rw [List.mem_singleton] at hb
        subst hb
        intro e
        subst e
        exact hm ((h2 _).1 ha)
      · intro x
        rw [et, List.mem_append, List.mem_singleton, List.mem_append, List.mem_singleton, h2 x]

theorem nodup_length_le {α : Type} [DecidableEq α] : ∀ (l₁ l₂ : List α), l₁.Nodup → (∀ x ∈ l₁, x ∈ l₂) → l₁.length ≤ l₂.length
  | [], _, _, _ => Nat.zero_le _
  | a :: l, l₂, hn, hs => by
    rw [List.nodup_cons] at hn
    have ha : a ∈ l₂ := hs a (by simp)
    have := nodup_length_le l (l₂.erase a) hn.2 (fun x hx => by
      have hxa : x ≠ a := by intro e; subst e; exact hn.1 hx
      exact (List.mem_erase_of_ne hxa).2 (hs x (by simp [hx])))
    rw [List.length_erase_of_mem ha] at this
    have hpos : 0 < l₂.length := List.length_pos_of_mem ha
    simp only [List.length_cons]
    omega

theorem set_count (zs : List Str) : (setOf zs).length = (firsts zs zs.length).length := by
  obtain ⟨h1, h2, _⟩ := setOf_facts zs
  obtain ⟨g1, g2, _⟩ := firsts_facts zs zs.length (Nat.le_refl _)
  rw [List.take_length] at g2
  have hn : (setOf zs).Nodup := by
    rw [List.pairwise_iff_getElem] at h1
    refine List.pairwise_iff_getElem.2 (fun i j hi hj hij e => ?_)
    have := h1 i j hi hj hij
    rw [e] at this
    exact str_lt_irrefl _ this
  exact Nat.le_antisymm (nodup_length_le _ _ hn (fun x hx => (g2 x).2 ((h2 x).1 hx))) (nodup_length_le _ _ g1 (fun x hx => (h2 x).2 ((g2 x).1 hx)))

end Go.Proofs.Qxb6616331a
