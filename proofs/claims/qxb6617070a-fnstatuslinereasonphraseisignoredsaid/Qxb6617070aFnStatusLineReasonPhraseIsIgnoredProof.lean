/-
  Seat b6617070a: Rows.FnStatusLineReasonPhraseIsIgnoredSaid: the row over the walk (after the shell given with the seat).
-/
import Derived.Test.Qxb6617070aRows
import Derived.Test.Qxb6617070aLaw
import Derived.WalkKit
import Derived.ProofKit
import Derived.OpenShut
import Derived.ShutString
import Derived.ChangeOld
import Derived.Below
namespace Go.Proofs.Qxb6617070a.fnStatusLineReasonPhraseIsIgnored
open Go.ChangeShapes Go.WideShapes Go.ChangeAt Go.RowKit
open Go.ChangeMaps (open_string shut_string)
set_option linter.unusedVariables false

theorem own : ownKnob Try.prog.godebug = none := by kernel_rfl
theorem laidOut : laidOutB Try.prog = true := by kernel_rfl

/-- WHAT THE WALK IS TOLD OF A SLICE OF INTEGERS THAT CAME IN: it is nil; or it leads to a row of 'cap' cells, the numbers 'zs' (the first 'len' are its elements, the rest its spare room), each fitting its kind. -/
def IsRow (k : IntKind) (w : World) (a : Option Addr) (len cap : Nat) (zs : List Int) : Prop :=
  (a = none ∧ len = 0 ∧ cap = 0 ∧ zs = []) ∨
  ∃ x, a = some x ∧ len ≤ cap ∧ cap ≤ maxLen ∧ zs.length = cap ∧ (∀ i, i < zs.length → w.cell? (x.add i) = some (.int k (zs.getD i 0))) ∧ ∀ n ∈ zs, (Lit.int k n).wf = true

/-- The cells of a read slice of bytes, still there in a later world. -/
theorem row_src {w w' : World} {x : Addr} {len cap : Nat} {zs : List Int} (hl : len ≤ cap) (hz : zs.length = cap) (hcell : ∀ i, i < zs.length → w.cell? (x.add i) = some (.int .u8 (zs.getD i 0))) (hb : Below w.heap.size w w') :
    ∀ j v, ((zs.take len).map (Value.int .u8))[j]? = some v → w'.cell? (x.add j) = some v := by
  intro j v hj
  have hjl : j < len ∧ j < zs.length := by
    have := (List.getElem?_eq_some_iff.1 hj).1
    simp at this
    omega
  have hc := hcell j hjl.2
  rw [hb.cell (World.block_lt_of_cell? w _ hc), hc]
  rw [← hj]
  simp [hjl.1, hjl.2]

/-! ### STEP 1: THE WALK: the Go text returns true, AND WRITES NOTHING THAT WAS THERE: 'Below w.heap.size w w'' (Derived/Below.lean: '.refl', '.alloc', '.drew', '.setCell' at a new block, '.trans'). Open each 'IsRow' by 'rcases' AHEAD of 'go_enter'; part every test ahead of the walk. -/
theorem walk (a0 : Option Addr) (len0 cap0 : Nat) (z0 : List Int) (a1 : Option Addr) (len1 cap1 : Nat) (z1 : List Int) (w : World) (w0 : IsRow .u8 w a0 len0 cap0 z0) (w1 : IsRow .u8 w a1 len1 cap1 z1) :
    Calls Try.prog 5 #[.slice a0 len0 cap0, .slice a1 len1 cap1] w fun e w' => e = .returned (.bool true) ∧ Below w.heap.size w w' := by
  have hm0 : len1 ≤ 9223372036854775807 := by
    rcases w1 with ⟨_, rfl, _, _⟩ | ⟨x, _, hl, hm, _⟩
    · omega
    · unfold maxLen at hm; omega
  rcases w0 with ⟨rfl, rfl, rfl, rfl⟩ | ⟨x, rfl, hl, hm, hz, hcell, hwf⟩
  · exact law_nil a1 len1 cap1 w hm0
  · unfold maxLen at hm
    have src0 : ∀ w', Below w.heap.size w w' → 0 < len0 → ∃ ad, some x = some ad ∧ ∀ j v, ((z0.take len0).map (Value.int .u8))[j]? = some v → w'.cell? (ad.add j) = some v := by
      intro w' hb h0
      exact ⟨x, rfl, row_src hl hz hcell hb⟩
    have len0' : ((z0.take len0).map (Value.int .u8)).length = len0 := by simp; omega
    by_cases hn : 12 ≤ len0
    · have R : Reason w a1 len1 cap1 ((z1.take len1).map (Value.int .u8)) := by
        rcases w1 with ⟨rfl, rfl, rfl, rfl⟩ | ⟨y, rfl, hl1, hm1, hz1, hcell1, hwf1⟩
        · exact ⟨rfl, by simp, (fun _ _ ad had => by cases had), fun _ => ⟨rfl, rfl⟩⟩
        · refine ⟨by simp; omega, ints_oneCell _ _, fun w' hb ad had => ?_, fun h => by cases h⟩
          obtain rfl := Option.some.inj had
          exact row_src hl1 hz1 hcell1 hb
      obtain ⟨p, hp⟩ : ∃ p : Bool, (p = true ∧ len0 = 12) ∨ (p = true ∧ 12 < len0 ∧ z0.getD 12 0 = 32) ∨ (p = false ∧ 12 < len0 ∧ z0.getD 12 0 ≠ 32) := by
        by_cases h12 : len0 = 12
        · exact ⟨true, .inl ⟨rfl, h12⟩⟩
        · by_cases ht : z0.getD 12 0 = 32
          · exact ⟨true, .inr (.inl ⟨rfl, by omega, ht⟩)⟩
          · exact ⟨false, .inr (.inr ⟨rfl, by omega, ht⟩)⟩
      have hat : ∀ i, i < len0 → ((z0.take len0).map (Value.int .u8))[i]? = some (.int .u8 (z0.getD i 0)) := by
        intro i hi
        have hi' : i < z0.length := by omega
        simp [hi, hi']
      have L : Line w x len0 ((z0.take len0).map (Value.int .u8)) (fun i => z0.getD i 0) (z0.getD 12 0) p := by
        refine ⟨len0', ints_oneCell _ _, src0, fun i hi => ?_, fun i hi => hat i (by omega), fun h => hat 12 h, hp⟩
        have hi' : i < z0.length := by omega
        have e : z0.getD i 0 = z0[i] := by simp [List.getD, hi']
        show 0 ≤ z0.getD i 0 ∧ z0.getD i 0 ≤ 255
        rw [e]
        exact bounds_u8 (hwf _ (List.getElem_mem hi'))
      exact law_long x len0 cap0 a1 len1 cap1 w _ _ _ _ p hn (by omega) hm0 L R
    · exact law_short x len0 cap0 a1 len1 cap1 w _ (by omega) hm0 len0' (ints_oneCell _ _) src0

/-! ### THE ROW's STEP: WRITTEN OUT: LEAVE IT -/
set_option maxRecDepth 100000 in
theorem lifted (os : Os) (started : os.Started) (H : Type) (enc : TypeId × Value → H) :
    ReturnsInHanded {} Try.checked os 5 .any (Rows.fnStatusLineReasonPhraseIsIgnoredSpec.pre6 enc Try.prog Try.f5 Rows.fnStatusLineReasonPhraseIsIgnoredRow.domain false) (Rows.fnStatusLineReasonPhraseIsIgnoredSpec.post enc Try.prog Try.f5 false true false false) := by
  refine returnsInHanded_of_change (C := Try.checked) own started (by kernel_rfl) Try.func5
    (ChangeSpec.witness6 (enc := enc) (C := Try.checked) false ⟨#[], #[.slice none 0 0, .slice none 0 0], []⟩ 8 (by kernel_rfl) (by kernel_rfl) (by kernel_rfl) (by kernel_rfl)) ?_
  intro W base args ds gs before hval0 hW hcnd _
  have hval : ∀ (j : Nat) t v, Try.f5.params[j]? = some t → args[j]? = some v → Value.okWide Try.prog W .any base t v := hval0
  have hW' := hW
  obtain ⟨p, q, hA0, hV, rfl, hfz, hnd⟩ := hW
  have hA : DataW.TrodAll enc Try.prog W 0 (fun _ => true) true Try.f5.params.toList args.toList ds p := hA0
  rw [Try.params5] at hA hval
  obtain ⟨v0, vs0, d0, ds0, p0, q0, hargs, rfl, rfl, h0, r0⟩ := trodAll_cons hA
  obtain ⟨v1, vs1, d1, ds1, p1, q1, rfl, rfl, rfl, h1, r1⟩ := trodAll_cons r0
  obtain ⟨rfl, rfl, rfl⟩ := trodAll_nil r1
  obtain rfl : args = #[v0, v1] := by cases args; simp_all
  obtain ⟨rfl, rfl⟩ := trodVars_none hV
  obtain ⟨a0, len0, cap0, rfl⟩ := okWide_slice Try.underlying22 (hval 0 22 v0 rfl rfl)
  have k0 := h0
  have lt0 : ∀ x ∈ p0, x.block < W.heap.size := by obtain ⟨m, hm⟩ := k0; exact DataW.trod_lt m _ _ _ hm
  obtain ⟨z0, w0⟩ : ∃ zs, IsRow .u8 W a0 len0 cap0 zs := by
    obtain ⟨fuel, hf⟩ := h0
    rcases open_ints Try.underlying22 Try.underlying5 (by kernel_rfl) hf with ⟨hcs, _⟩ | ⟨x, l, c, zs, hcs, _, hl, hm, hz, _, hcell, hwz⟩
    · simp [Value.cells] at hcs
      obtain ⟨rfl, rfl, rfl⟩ := hcs
      exact ⟨[], .inl ⟨rfl, rfl, rfl, rfl⟩⟩
    · simp [Value.cells] at hcs
      obtain ⟨rfl, rfl, rfl⟩ := hcs
      exact ⟨zs, .inr ⟨_, rfl, hl, hm, by simpa using hz, hcell, hwz⟩⟩
  obtain ⟨a1, len1, cap1, rfl⟩ := okWide_slice Try.underlying22 (hval 1 22 v1 rfl rfl)
  have k1 := h1
  have lt1 : ∀ x ∈ p1, x.block < W.heap.size := by obtain ⟨m, hm⟩ := k1; exact DataW.trod_lt m _ _ _ hm
  obtain ⟨z1, w1⟩ : ∃ zs, IsRow .u8 W a1 len1 cap1 zs := by
    obtain ⟨fuel, hf⟩ := h1
    rcases open_ints Try.underlying22 Try.underlying5 (by kernel_rfl) hf with ⟨hcs, _⟩ | ⟨x, l, c, zs, hcs, _, hl, hm, hz, _, hcell, hwz⟩
    · simp [Value.cells] at hcs
      obtain ⟨rfl, rfl, rfl⟩ := hcs
      exact ⟨[], .inl ⟨rfl, rfl, rfl, rfl⟩⟩
    · simp [Value.cells] at hcs
      obtain ⟨rfl, rfl, rfl⟩ := hcs
      exact ⟨zs, .inr ⟨_, rfl, hl, hm, by simpa using hz, hcell, hwz⟩⟩
  clear hA0 hval0
  refine (walk a0 len0 cap0 z0 a1 len1 cap1 z1 W w0 w1).mono fun e W' ⟨he, bel⟩ => ?_
  subst he
  exact ⟨_, rfl, _, _, _, [], _, [], hW', trodAll_mk1 (shut_bool Try.underlying4 _), (trodAll_cons_mk (Below.trod laidOut (by kernel_rfl) (of_decide_eq_true (by kernel_rfl)) k0 bel lt0) (trodAll_cons_mk (Below.trod laidOut (by kernel_rfl) (of_decide_eq_true (by kernel_rfl)) k1 bel lt1) trodAll_mk0)), rfl, bel.frame _, fun h => by cases h⟩

theorem over : Rows.fnStatusLineReasonPhraseIsIgnoredRow.holds Try.pinned (OpenSpec.ofChange Rows.fnStatusLineReasonPhraseIsIgnoredSpec) :=
  OpenClaim.holds_of_wide 5 Try.f5 rfl rfl rfl rfl rfl rfl rfl ⟨rfl, rfl, rfl, rfl, rfl⟩ rfl rfl rfl rfl rfl (by kernel_rfl) Try.func5 (by kernel_rfl)
    (of_decide_eq_true (by kernel_rfl)) (by unfold Func.isWrapper; first | (rw [if_pos (by decide +kernel)]; kernel_rfl) | (rw [if_neg (by decide +kernel)]; exact ⟨rfl, rfl⟩))
    (fun os started H enc _ => lifted os started H enc)

/-- ████ THE STATEMENT ████ -/
theorem proved : Rows.FnStatusLineReasonPhraseIsIgnoredSaid := over
#print axioms proved
end Go.Proofs.Qxb6617070a.fnStatusLineReasonPhraseIsIgnored
