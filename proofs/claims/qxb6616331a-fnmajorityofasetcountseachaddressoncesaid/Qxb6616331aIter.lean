/-
  Seat b6616331a: slices.Values, slices.AppendSeq, slices.Collect, slices.Sorted at []string, over this program (after the worked texts on a range over a function, turned to strings).
-/
import Derived.RangeFuncBox
import Derived.RangeFuncWrites
import Derived.RangeFuncLeaves
import Derived.Shelf.Abstract
import Derived.WalkKit
import Derived.OwnWalkIn
import Derived.TacticsInMore
import Derived.LoopNIn
import Derived.LoopIn
import Derived.Maps.AppendAt
import Derived.Sort.OwnSorted
import Derived.Test.Qxb6616331aShelf
namespace Go.Proofs.Qxb6616331a
open Go.RowKit Go.Shelf Go.Sort
set_option linter.unusedVariables false

attribute [local go_sem] Oper.semAt_some

/-- What has come when k rounds are over. -/
def upto (f : Nat → List UInt8) (k : Nat) : List (List UInt8) := (List.range k).map f
theorem upto_succ (f : Nat → List UInt8) (k : Nat) : upto f (k + 1) = upto f k ++ [f k] := by simp [upto, List.range_succ]
theorem upto_length (f : Nat → List UInt8) (k : Nat) : (upto f k).length = k := by simp [upto]
theorem upto_all (zs : List (List UInt8)) : upto (fun j => zs[j]?.getD []) zs.length = zs := by
  apply List.ext_getElem
  · simp [upto]
  · intro i h1 h2
    simp [upto, h2]
theorem upto_take (zs : List (List UInt8)) {k : Nat} (hk : k ≤ zs.length) : upto (fun j => zs[j]?.getD []) k = zs.take k := by
  apply List.ext_getElem
  · simp [upto, hk]
  · intro i h1 h2
    have : i < zs.length := by simp [upto] at h1; omega
    simp [upto, this]

set_option maxRecDepth 100000 in
set_option maxHeartbeats 2000000 in
/-- slices.Values's closure, for every loop body that keeps what lay below n₀. -/
theorem values1_in (F : Fence) (n : Nat) (h34 : F.fn 34) (hro : F.round = none) (hn : 1 ≤ n) (l Bs n₀ b off len cap : Nat) (zs : List (List UInt8)) (hreach : len ≤ 1048576) (hb : b < n₀) (J Jx : List (List UInt8) → World → Prop)
    (hY : ∀ pre x W, J pre W → pre.length < len → YieldAt F (n - 1) Try.prog l #[encStr x] W fun e W' =>
      (e = .returned (.bool true) ∧ J (pre ++ [x]) W' ∧ Below n₀ W W') ∨ (e = .returned (.bool false) ∧ Jx (pre ++ [x]) W'))
    (W : World) (hBs : W.cell? ⟨Bs, 0, none⟩ = some (.slice (some ⟨b, off, none⟩) len cap)) (hc : ∀ j, j < len → W.cell? ⟨b, off + j, none⟩ = some (encStr (zs[j]?.getD []))) (h0 : J [] W) :
    CallsIn F n Try.prog 34 #[.func (.yield l) #[] #[], .pointer (some ⟨Bs, 0, none⟩)] W fun e W' => (∃ v, e = .returned v) ∧
      ((∃ ys, ys = upto (fun j => zs[j]?.getD []) len ∧ J ys W') ∨ (∃ pre, (∃ k, k ≤ len ∧ pre = upto (fun j => zs[j]?.getD []) k) ∧ Jx pre W')) := by
  refine callsIn_of_wp Try.func34 rfl h34 ?_ hro
  simp only [Try.ntmps34, List.size_toArray, List.length_cons, List.length_nil, Nat.reduceAdd, Nat.reduceSub, Array.replicate_succ, Array.replicate_zero, List.push_toArray, List.append_toArray, List.nil_append, List.cons_append]
  gi_wp2
  gi_loopw [7] (fun i wr => ∃ k : Nat, k ≤ len ∧ i = .int .i64 k ∧ J (upto (fun j => zs[j]?.getD []) k) wr ∧ Below n₀ W wr)
    (fun i _ => len - (intOf i).toNat)
  case atStart => exact ⟨0, Nat.zero_le _, rfl, h0, Below.refl _ _⟩
  case round =>
    obtain ⟨k, hk, rfl, hJs, hnx⟩ := hrel
    have hcx : k < len → wr.cell? ⟨b, off + k, none⟩ = some (encStr (zs[k]?.getD [])) := fun h => (hnx.cell (p := ⟨b, off + k, none⟩) hb).trans (hc k h)
    by_cases hlt : k < len
    · obtain ⟨fn, tmps, assign, body, hy, hR⟩ := hY _ (zs[k]?.getD []) wr hJs (by rw [upto_length]; exact hlt)
      have hcx' := hcx hlt
      clear hcx
      gi_wp2
      refine hR.mono ?_
      rintro e W3 (⟨rfl, hJ3, hk3⟩ | ⟨rfl, hJx3⟩)
      · gi_wp2
        go_roundw
        case rel => exact ⟨k + 1, by omega, by simp, by rw [upto_succ]; exact hJ3, hnx.trans hk3⟩
        case measure => simp [intOf]; omega
      · gi_wp2
        refine bodyPost_ret (results_none rfl _ _ _) rfl ?_
        exact ⟨⟨_, rfl⟩, .inr ⟨_, ⟨k + 1, by omega, (upto_succ _ _).symm⟩, hJx3⟩⟩
    · obtain rfl : k = len := by omega
      gi_wp2
      go_end0
      exact ⟨⟨_, rfl⟩, .inl ⟨_, rfl, hJs⟩⟩

set_option maxHeartbeats 1000000 in
/-- slices.Values(s): the slice value is boxed; the function value captures the box. -/
theorem values_in (F : Fence) (n : Nat) (h31 : F.fn 31) (hro : F.round = none) (a : Option Addr) (len cap : Nat) (w : World) :
    CallsIn F n Try.prog 31 #[.slice a len cap] w fun e w' => e = .returned (.func (.func 34) #[] #[.pointer (some ⟨w.heap.size, 0, none⟩)]) ∧ w' = w.alloc (.cells #[.slice a len cap] 22) := by
  refine callsIn_of_wp Try.func31 rfl h31 ?_ hro
  simp only [Try.ntmps31, List.size_toArray, List.length_cons, List.length_nil, Nat.reduceAdd, Nat.reduceSub, Array.replicate_succ, Array.replicate_zero, List.push_toArray, List.append_toArray, List.nil_append, List.cons_append]
  gi_wp2
  go_ret
  exact ⟨rfl, rfl⟩

/-- slices.Values(s) hands back a value that gives all of zs, in order. -/
theorem values_stops (F : Fence) (n : Nat) (h34 : F.fn 34) (hro : F.round = none) (hn : 1 ≤ n) (Bs n₀ b off cap : Nat) (zs : List (List UInt8)) (hreach : zs.length ≤ 1048576) (w : World) (hBs : Bs < w.heap.size) (hn₀ : n₀ ≤ w.heap.size)
    (hc : w.cell? ⟨Bs, 0, none⟩ = some (.slice (some ⟨b, off, none⟩) zs.length cap)) (hb : b < n₀) (hI : ∀ j, j < zs.length → w.cell? ⟨b, off + j, none⟩ = some (encStr (zs[j]?.getD []))) :
    SeqStopsK F n Try.prog 34 #[.pointer (some ⟨Bs, 0, none⟩)] (fun x : List UInt8 => #[encStr x]) (Below n₀) (fun ys => ys = zs) (fun pre => pre <+: zs) zs.length w := fun l J Jx W hW _ _ hY h0 => by
  have hc' := (hW.cell (p := ⟨Bs, 0, none⟩) hBs).trans hc
  have hcs : ∀ j, j < zs.length → W.cell? ⟨b, off + j, none⟩ = some (encStr (zs[j]?.getD [])) := fun j hj => ((hW.mono hn₀).cell (p := ⟨b, off + j, none⟩) hb).trans (hI j hj)
  refine (values1_in F n h34 hro hn l Bs n₀ b off zs.length cap zs hreach hb J Jx hY W hc' hcs h0).mono ?_
  rintro e W' ⟨he, ⟨ys, rfl, hj⟩ | ⟨pre, ⟨k, hk, rfl⟩, hj⟩⟩
  · exact ⟨he, .inl ⟨_, upto_all zs, hj⟩⟩
  · exact ⟨he, .inr ⟨_, by rw [upto_take zs hk]; exact List.take_prefix _ _, hj⟩⟩

theorem infoS : (Try.prog.info? 9).map (fun i => (i.zero, i.size, i.bytes)) = some (some (.string ByteArray.empty), 1, 16) := by kernel_rfl

set_option maxRecDepth 100000 in
set_option maxHeartbeats 2000000 in
/-- slices.AppendSeq(nil, seq), seq what slices.Values handed back: a slice of the call's own that holds zs. -/
theorem appendSeq_in (F : Fence) (n : Nat) (h35 : F.fn 35) (h34 : F.fn 34) (hro : F.round = none) (hn : 3 ≤ n) (Bs b off cap : Nat) (zs : List (List UInt8)) (hreach : zs.length ≤ 1048576) (w : World) (hBs : Bs < w.heap.size)
    (hc : w.cell? ⟨Bs, 0, none⟩ = some (.slice (some ⟨b, off, none⟩) zs.length cap)) (hb : b < w.heap.size) (hI : ∀ j, j < zs.length → w.cell? ⟨b, off + j, none⟩ = some (encStr (zs[j]?.getD []))) :
    CallsIn F n Try.prog 35 #[.slice none 0 0, .func (.func 34) #[] #[.pointer (some ⟨Bs, 0, none⟩)]] w fun e W' => ∃ v, e = .returned v ∧ W'.ownsRow w.heap.size 9 1 v zs.length (zs.map encStr) ∧ (v = .slice none 0 0 ↔ zs = []) ∧ Below w.heap.size w W' := by
  have h1 : 1 ≤ n := by omega
  obtain ⟨i0, hi, hz0, hz1, hz2⟩ := info_parts infoS
  refine callsIn_of_wp_marks Try.func35 rfl h35 ?_ hro
  simp only [Try.ntmps35, List.size_toArray, List.length_cons, List.length_nil, Nat.reduceAdd, Nat.reduceSub, Array.replicate_succ, Array.replicate_zero, List.push_toArray, List.append_toArray, List.nil_append, List.cons_append]
  gi_wp2_with fail
  have bO := Boxed.new w 22 (.slice none 0 0)
  have hB0 : Below w.heap.size w (w.alloc (.cells #[.slice none 0 0] 22)) := (Below.refl _ w).alloc (Nat.le_refl _) _
  refine wpIn_rangeFunc_ownG hro h1 (gf := 34) (lb := #[.pointer (some ⟨Bs, 0, none⟩)]) rfl h34 (enters_of Try.func34 (by kernel_rfl) rfl)
    (values_stops F (n - 1) h34 hro (by omega) Bs w.heap.size b off cap zs hreach (w.alloc (.cells #[.slice none 0 0] 22)) (by simp; omega) (by simp) ((hB0.cell (p := ⟨Bs, 0, none⟩) hBs).trans hc) hb (fun j hj => (hB0.cell (p := ⟨b, off + j, none⟩) hb).trans (hI j hj))) belowK_t (belowK_b (by simp)) (Below.refl _ _) (fun _ => rfl)
    (fun pre W => (∃ v, Boxed W w.heap.size 22 v ∧ W.ownsRow w.heap.size 9 1 v pre.length (pre.map encStr) ∧ (v = .slice none 0 0 ↔ pre = [])) ∧ Below w.heap.size w W)
    (fun _ _ _ => False)
    (OwnFrom.and (Own.from (holdsRow_own w.heap.size w.heap.size 22 9 1 (fun pre => pre.length) (fun pre : List (List UInt8) => pre.map encStr) (fun pre v => v = .slice none 0 0 ↔ pre = [])) _) (ownFrom_below (Nat.le_refl _) (by simp)))
    (fun _ _ _ _ _ hs _ _ => hs)
    ⟨⟨_, bO, World.ownsRow_nil _ _ _ _, by simp⟩, hB0⟩
    (fun x => { tmps := #[.slice none 0 0, .func (.func 34) #[] #[.pointer (some ⟨Bs, 0, none⟩)], .pointer (some ⟨w.heap.size, 0, none⟩), undef, .slice none 0 0, encStr x, .func (.func 34) #[] #[.pointer (some ⟨Bs, 0, none⟩)], encStr x, undef, undef, undef, undef, undef], defers := [] }) ?assign ?body ?done ?stop
  case assign =>
    intro l x W K hK
    gi_wp2
    exact hK
  case body =>
    rintro l pre x W ⟨⟨v, hv, hrow, hnil⟩, hB⟩ hlt
    have hc := hv.cell
    gi_wp2_with (gi_at_builtin; refine wpListIn_append_own _ rfl _ _ 22 rfl w.heap.size 9 i0 (.string ByteArray.empty) 1 16 Try.underlying22 hi hz0 hz1 hz2 rfl (by decide) _ _ _ rfl (hrow.alloc _) ⟨W.heap.size, 0, none⟩ 1 1 [encStr x] rfl rfl (cell_one_new _ _ _) (by simp [Value.oneCell', encStr]) (by unfold maxLen; omega) (by omega) (by have := hB.size; simp; omega) ?_; intro v' w1 hown' hgrow _; obtain ⟨g', cap', rfl⟩ := ownsRow_succ hown'; obtain ⟨hv1, hv2, hr2, hk2, hb2⟩ := hv.appended (by decide) hrow hB.size (Nat.le_refl _) hown' hgrow; have hc1 := hv1.cell; have hf1 := hv1.frozen)
    exact ⟨hk2.from _, hb2, ⟨_, hv2, by simpa using hr2, by simp⟩, hB.trans hb2⟩
  case done =>
    rintro D ys W hD rfl ⟨⟨v, hv, hrow, hnil⟩, hB⟩ hK
    have hc := hv.cell
    gi_wp2
    refine ⟨by simp, .inl ⟨_, _, rfl, run_takeDeferred hK, ?_⟩⟩
    exact ⟨_, results_tmp rfl _ _ _, v, rfl, ownsRow_putObj hrow _ hK rfl, hnil, hB.trans (belowK_b (w := w) (Nat.le_refl _) W D _ _ (by simp at hD; omega) hK rfl rfl)⟩
  case stop =>
    rintro D c pre W _ _ h _
    exact h.elim

set_option maxRecDepth 100000 in
set_option maxHeartbeats 1000000 in
/-- slices.Collect(seq). -/
theorem collect_in (n : Nat) (hn : 4 ≤ n) (Bs b off cap : Nat) (zs : List (List UInt8)) (hreach : zs.length ≤ 1048576) (w : World) (hBs : Bs < w.heap.size)
    (hc : w.cell? ⟨Bs, 0, none⟩ = some (.slice (some ⟨b, off, none⟩) zs.length cap)) (hb : b < w.heap.size) (hI : ∀ j, j < zs.length → w.cell? ⟨b, off + j, none⟩ = some (encStr (zs[j]?.getD []))) :
    CallsIn Fence.wide n Try.prog 32 #[.func (.func 34) #[] #[.pointer (some ⟨Bs, 0, none⟩)]] w fun e W' => ∃ v, e = .returned v ∧ W'.ownsRow w.heap.size 9 1 v zs.length (zs.map encStr) ∧ (v = .slice none 0 0 ↔ zs = []) ∧ Below w.heap.size w W' := by
  have hf35 : Fence.wide.fn 35 := trivial
  have h1 : 1 ≤ n := by omega
  have E := appendSeq_in Fence.wide (n - 1) trivial trivial rfl (by omega) Bs b off cap zs hreach w hBs hc hb hI
  refine callsIn_of_wp Try.func32 rfl trivial ?_ rfl
  simp only [Try.ntmps32, List.size_toArray, List.length_cons, List.length_nil, Nat.reduceAdd, Nat.reduceSub, Array.replicate_succ, Array.replicate_zero, List.push_toArray, List.append_toArray, List.nil_append, List.cons_append]
  clear hc hI
  gi_wp2_with (gi_at_call 35; refine E.mono ?_; rintro e w1 ⟨v, rfl, hrow, hnil, hb1⟩)
  go_ret
  exact ⟨v, rfl, hrow, hnil, hb1⟩

set_option maxRecDepth 100000 in
set_option maxHeartbeats 1000000 in
/-- slices.Sorted(slices.Values(s)): a slice of the call's own that holds zs, sorted. -/
theorem sorted_in (n : Nat) (hn : 5 ≤ n) (Bs b off cap : Nat) (zs : List (List UInt8)) (hz : 0 < zs.length) (hreach : zs.length ≤ 1048576) (w : World) (hBs : Bs < w.heap.size)
    (hc : w.cell? ⟨Bs, 0, none⟩ = some (.slice (some ⟨b, off, none⟩) zs.length cap)) (hb : b < w.heap.size) (hI : ∀ j, j < zs.length → w.cell? ⟨b, off + j, none⟩ = some (encStr (zs[j]?.getD []))) :
    CallsIn Fence.wide n Try.prog 30 #[.func (.func 34) #[] #[.pointer (some ⟨Bs, 0, none⟩)]] w fun e W' => ∃ g cp, e = .returned (.slice (some ⟨g, 0, none⟩) zs.length cp) ∧ zs.length ≤ cp ∧ w.heap.size ≤ g ∧ g < W'.heap.size ∧
      Holds encStr W' g 0 (zs.mergeSort fun x y => decide (x ≤ y)).toArray ∧ Below w.heap.size w W' := by
  have hf32 : Fence.wide.fn 32 := trivial
  have hf33 : Fence.wide.fn 33 := trivial
  have h1 : 1 ≤ n := by omega
  have E := collect_in (n - 1) (by omega) Bs b off cap zs hreach w hBs hc hb hI
  refine callsIn_of_wp Try.func30 rfl trivial ?_ rfl
  simp only [Try.ntmps30, List.size_toArray, List.length_cons, List.length_nil, Nat.reduceAdd, Nat.reduceSub, Array.replicate_succ, Array.replicate_zero, List.push_toArray, List.append_toArray, List.nil_append, List.cons_append]
  clear hc hI
  gi_wp2_with (gi_at_call 32; refine E.mono ?_; rintro e w1 ⟨v, rfl, hrow, hnil, hb1⟩)
  clear E
  have hrow2 := hrow.2
  rcases hrow2 with ⟨rfl, hz0⟩ | ⟨gb, cp, cur, rfl, hbase, hgb, r1, r2, r3, r4⟩
  · omega
  · have hH : Holds encStr w1 gb 0 zs.toArray := holds_of_block hgb (by simpa using r4)
    have hgl : gb < w1.heap.size := (Array.getElem?_eq_some_iff.1 hgb).1
    have cS := callsIn_wide (n := n - 1) |>.2 (Try.slices_Sort_string gb 0 cp zs w1 hH hgl (by omega))
    gi_wp2_with (gi_at_call 33; refine cS.mono ?_; rintro e w' ⟨rfl, nn, os, rfl⟩)
    go_ret
    have hl : (zs.mergeSort fun x y => decide (x ≤ y)).length = zs.length := List.length_mergeSort zs
    have hs := ownsRow_sorted (n := nn) (os := os) hl hbase hgb r1 r2 r3
    refine ⟨gb, cp, rfl, r1, hbase, ?_, ?_, hb1.grown (grownBy_sorted _) hb1.size (fun j hj => by cases hj; exact hbase)⟩
    · exact (World.ownsRow.lt hs gb rfl).2
    · rcases hs.2 with ⟨h0, _⟩ | ⟨g', cp', cur', hv', _, hgb', _, _, _, r4'⟩
      · cases h0
      · have hgg : gb = g' := by simp only [Value.slice.injEq, Option.some.injEq, Addr.mk.injEq] at hv'; exact hv'.1.1
        subst hgg
        exact holds_of_block hgb' (by rw [hl]; simpa using r4')

end Go.Proofs.Qxb6616331a
