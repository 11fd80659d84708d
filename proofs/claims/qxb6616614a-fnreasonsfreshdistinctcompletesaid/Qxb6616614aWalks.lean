/-
  Seat b6616614a: the walk of FnReasonsFreshDistinctComplete.
-/
import Derived.Test.Qxb6616614aProg
import Derived.WalkKit
import Derived.ProofKit
import Derived.WalkSpells
import Derived.Deep.QuietTactic
import Derived.BigQuiet
namespace Go.Proofs.Qxb6616614a
open Go.ChangeShapes Go.WideShapes Go.ChangeAt Go.RowKit
set_option linter.unusedVariables false

/-- The six reasons. -/
def r0 : ByteArray := ⟨#[108, 105, 109, 105, 116, 95, 101, 120, 99, 101, 101, 100, 101, 100]⟩
def r1 : ByteArray := ⟨#[107, 105, 110, 100, 95, 110, 111, 116, 95, 97, 108, 108, 111, 119, 101, 100]⟩
def r2 : ByteArray := ⟨#[99, 117, 115, 116, 111, 109, 101, 114, 95, 98, 108, 111, 99, 107, 101, 100]⟩
def r3 : ByteArray := ⟨#[99, 117, 115, 116, 111, 109, 101, 114, 95, 117, 110, 100, 101, 114, 95, 114, 101, 118, 105, 101, 119]⟩
def r4 : ByteArray := ⟨#[117, 110, 107, 110, 111, 119, 110, 95, 99, 117, 115, 116, 111, 109, 101, 114]⟩
def r5 : ByteArray := ⟨#[117, 110, 107, 110, 111, 119, 110, 95, 114, 101, 99, 101, 105, 118, 101, 114]⟩

theorem reasons_any (w : World) :
    Calls Try.prog 8 #[] w fun e w' => e = .returned (.slice (some ⟨w.heap.size, 0, none⟩) 6 6) ∧ w' = w.alloc (.cells #[.string r0, .string r1, .string r2, .string r3, .string r4, .string r5] 23) := by
  go_enter Try.func8, Try.ntmps8
  go_wp2
  go_ret
  exact ⟨rfl, rfl⟩

theorem bytes_any (a0 : Int) (a1 : ByteArray) (hs : a1.size ≤ 1048576) (w : World) :
    Calls Try.prog 7 #[.int .i64 a0, .string a1] w fun e w' => e = .returned (.bool true) ∧ w' = w := by
  go_enter Try.func7, Try.ntmps7
  go_wp2
  go_ret
  exact ⟨rfl, rfl⟩

def rs (j : Nat) : ByteArray := [r0, r1, r2, r3, r4, r5].getD j ByteArray.empty
/-- Block b's first six cells hold the six reasons. -/
def Six (w : World) (b : Nat) : Prop := ∀ j, j < 6 → w.cell? ⟨b, j, none⟩ = some (.string (rs j))
theorem Six.new (w : World) (t : TypeId) : Six (w.alloc (.cells #[.string r0, .string r1, .string r2, .string r3, .string r4, .string r5] t)) w.heap.size := by
  intro j hj
  rw [World.cell?_alloc_at _ _ _ _ rfl]
  match j, hj with
  | 0, _ => rfl
  | 1, _ => rfl
  | 2, _ => rfl
  | 3, _ => rfl
  | 4, _ => rfl
  | 5, _ => rfl
theorem Six.at {w : World} {t : TypeId} {b : Nat} (h : w.heap.size = b) : Six (w.alloc (.cells #[.string r0, .string r1, .string r2, .string r3, .string r4, .string r5] t)) b := by
  subst h
  exact Six.new w t
theorem Six.below {B b : Nat} {w w' : World} (h : Six w b) (hb : Below B w w') (hB : b < B) : Six w' b := fun j hj => (hb.cell (p := ⟨b, j, none⟩) hB).trans (h j hj)
/-- How many of the first m reasons are the k-th. -/
def cnt (k m : Nat) : Nat := ((List.range m).filter fun j => (rs j).toList == (rs k).toList).length
theorem cnt_one : ∀ k, k < 6 → cnt k 6 = 1 := by decide +kernel
theorem cnt_le (k m : Nat) : cnt k m ≤ m := by
  have := List.length_filter_le (fun j => (rs j).toList == (rs k).toList) (List.range m)
  simpa [cnt] using this
theorem cnt_yes {k m : Nat} (h : ((rs m).toList == (rs k).toList) = true) : cnt k (m + 1) = cnt k m + 1 := by
  unfold cnt
  rw [List.range_succ, List.filter_append]
  simp only [List.filter_cons, h, if_true, List.filter_nil, List.length_append, List.length_singleton]
theorem cnt_no {k m : Nat} (h : ((rs m).toList == (rs k).toList) = false) : cnt k (m + 1) = cnt k m := by
  unfold cnt
  rw [List.range_succ, List.filter_append]
  simp [h]
theorem below_draws {B : Nat} {a w : World} (h : Below B a w) (n : Nat) : Below B a (w.drewN n) := h.trans ⟨rfl, rfl, rfl, Nat.le_refl _, fun _ _ => rfl⟩
theorem ret_bool {a b : Bool} (h : a = b) : Ending.returned (.bool a) = .returned (.bool b) := by rw [h]

set_option maxRecDepth 100000 in
set_option maxHeartbeats 1000000 in
theorem walk (a0 : Int) (a1 : ByteArray) (w0 : (Lit.int .i64 a0).wf = true) (w1 : a1.size ≤ maxLen) (w : World) :
    Calls Try.prog 3 #[.int .i64 a0, .string a1] w fun e w' => e = .returned (.bool true) ∧ Below w.heap.size w w' := by
  unfold maxLen at w1
  by_cases hs : a1.size ≤ 1048576
  · go_enter Try.func3, Try.ntmps3
    go_wp2_with (first
      | (go_at_call 7; refine (bytes_any _ _ hs _).mono ?_; rintro e w' ⟨rfl, hw⟩; have hw' := hw.symm; subst hw'; clear hw)
      | (go_at_call 8; refine (reasons_any _).mono ?_; rintro e w' ⟨rfl, rfl⟩))
    refine wp_loop_rounds 7 ?_
    iterate 7 (rw [rounds_succ]; go_wp2_with fail)
    all_goals
      refine (reasons_any _).mono ?_
      rintro e w' ⟨rfl, hw⟩
      have h0 : Six w' w.heap.size := by
        rw [hw]
        exact (Six.new w 24).below (((Below.refl _ _).alloc (Nat.le_refl _) _).alloc (by simp) _ |>.alloc (by simp) _) (by simp)
      have h2 : Six w' (w.heap.size + 1 + 1) := by
        rw [hw]
        refine Six.below (B := w.heap.size + 1 + 1 + 1) ?_ (Below.alloc (Below.refl _ _) (by simp) _) (by omega)
        exact Six.at (by simp)
      have h3 : Six w' (w.heap.size + 1 + 1 + 1) := by
        rw [hw]
        exact Six.at (by simp)
      have hb : Below w.heap.size w w' := by
        rw [hw]
        exact ((((Below.refl _ _).alloc (Nat.le_refl _) _).alloc (by simp) _).alloc (by simp; omega) _).alloc (by simp; omega) _
      clear hw
      go_wp2_with fail
      go_loopw [10] (fun i wr => ∃ k : Nat, k ≤ 6 ∧ i = .int .i64 k ∧ Six wr w.heap.size ∧ Six wr (w.heap.size + 1 + 1) ∧ Six wr (w.heap.size + 1 + 1 + 1) ∧ Below w.heap.size w wr) (fun i _ => 6 - (intOf i).toNat)
      case atStart => exact ⟨0, by omega, rfl, h0, h2, h3, hb⟩
      case round =>
        clear h0 h2 h3 hb
        obtain ⟨k, hk, rfl, h0, h2, h3, hb⟩ := hrel
        by_cases hlt : k < 6
        · have c2 := h2 k hlt
          have c3 := h3 k hlt
          have hi : (k : Int) < 6 := by omega
          go_wp2_with fail
          go_quiet (fail)
          go_wp2_with fail
          go_loopw [11, 12] (fun n m ws => ∃ j : Nat, j ≤ 6 ∧ m = .int .i64 j ∧ n = .int .i64 (cnt k j) ∧ Six ws w.heap.size ∧ Six ws (w.heap.size + 1 + 1) ∧ Six ws (w.heap.size + 1 + 1 + 1) ∧ Below w.heap.size w ws) (fun _ m _ => 6 - (intOf m).toNat)
          case atStart => exact ⟨0, by omega, rfl, rfl, h0, h2, h3, below_draws hb nq⟩
          case round =>
            clear h0 h2 h3 hb c2 c3
            obtain ⟨j, hj, rfl, rfl, h0, h2, h3, hb⟩ := hrel
            have hcl := cnt_le k j
            by_cases hjl : j < 6
            · have c0 := h0 k hlt
              have c3 := h3 j hjl
              have hi3 : (j : Int) < 6 := by omega
              go_wp2_with fail
              go_quiet (fail)
              go_wp2_with fail
              · have he : ((rs j).toList == (rs k).toList) = true := by assumption
                have hc := cnt_yes he
                go_roundw
                case rel => exact ⟨j + 1, by omega, by go_num, by rw [hc]; go_num, h0, h2, h3, below_draws hb _⟩
                case measure => simp [intOf]; omega
              · have he : ((rs j).toList == (rs k).toList) = false := by assumption
                have hc := cnt_no he
                go_roundw
                case rel => exact ⟨j + 1, by omega, by go_num, by rw [hc], h0, h2, h3, below_draws hb _⟩
                case measure => simp [intOf]; omega
            · have h6 : j = 6 := by omega
              have hc1 : cnt k j = 1 := by rw [h6]; exact cnt_one k hlt
              clear h6
              go_wp2_with fail
              go_roundw
              case rel => exact ⟨k + 1, by omega, by go_num, h0, h2, h3, hb⟩
              case measure => simp [intOf]; omega
        · go_wp2_with fail
          go_ret
          exact ⟨rfl, hb⟩
  · go_enter Try.func3, Try.ntmps3
    go_wp2
    go_ret
    exact ⟨rfl, Below.refl _ _⟩
end Go.Proofs.Qxb6616614a
