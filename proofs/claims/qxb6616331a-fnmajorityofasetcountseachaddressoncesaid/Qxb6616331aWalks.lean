/-
  Seat b6616331a: contracts of the small callees: zzBytes (7, 10), zzStrsBytes (8), ZZmajority (9).
-/
import Derived.Test.Qxb6616331aProg
import Derived.WalkKit
import Derived.ProofKit
import Derived.Below
import Derived.WalkSpells
namespace Go.Proofs.Qxb6616331a
open Go.ChangeShapes Go.WideShapes Go.ChangeAt Go.RowKit
set_option linter.unusedVariables false

/-- A slice of strings, read: short, and where it has an element its cells hold strings. -/
def RowS (w : World) (a : Option Addr) (len : Nat) : Prop :=
  len ≤ maxLen ∧ (len = 0 ∨ ∃ b off, a = some ⟨b, off, none⟩ ∧ ∀ i, i < len → ∃ s : ByteArray, w.cell? ⟨b, off + i, none⟩ = some (.string s) ∧ s.size ≤ maxLen)

theorem maj_any (a : Option Addr) (n c : Nat) (hn : n ≤ 4611686018427387904) (w : World) :
    Calls Try.prog 9 #[.slice a n c] w fun e w' => e = .returned (.int .i64 ((n : Int) / 2 + 1)) ∧ w' = w := by
  go_enter Try.func9, Try.ntmps9
  go_wp2
  go_ret
  exact ⟨rfl, rfl⟩

set_option maxHeartbeats 400000 in
theorem strs_any (t : Int) (a : Option Addr) (n c : Nat) (lim : Int) (w : World) (ht0 : 0 ≤ t) (ht : t ≤ 1048576) (hl0 : 0 ≤ lim) (hl : lim ≤ 1048576) (hn : n ≤ 1048576) (h : RowS w a n) :
    Calls Try.prog 8 #[.int .i64 t, .slice a n c, .int .i64 lim] w fun e w' => (∃ r, e = .returned (.int .i64 r)) ∧ w' = w := by
  obtain ⟨_, h⟩ := h
  rcases h with rfl | ⟨b, off, rfl, hc⟩
  · go_enter Try.func8, Try.ntmps8
    go_wp2
    · go_ret
      exact ⟨⟨_, rfl⟩, rfl⟩
    · refine wp_loop_rounds 1 ?_
      rw [rounds_succ]
      go_wp2
      go_ret
      exact ⟨⟨_, rfl⟩, rfl⟩
  · go_enter Try.func8, Try.ntmps8
    go_wp2
    · go_ret
      exact ⟨⟨_, rfl⟩, rfl⟩
    · go_loop [0, 7] (fun t i => ∃ (k : Nat) (z : Int), k ≤ n ∧ i = .int .i64 k ∧ t = .int .i64 z) (fun _ i => n - (intOf i).toNat)
      case atStart => exact ⟨0, _, Nat.zero_le _, rfl, rfl⟩
      case round =>
        obtain ⟨k, z, hk, rfl, rfl⟩ := hrel
        by_cases hlt : k < n
        · obtain ⟨s, hs, hsz⟩ := hc k hlt
          unfold maxLen at hsz
          go_wp2
          · go_round
            case rel => exact ⟨k + 1, _, by omega, by go_num, rfl⟩
            case measure => simp [intOf]; omega
          · go_ret
            exact ⟨⟨_, rfl⟩, rfl⟩
        · go_wp2
          go_ret
          exact ⟨⟨_, rfl⟩, rfl⟩

/-- A bool comes back; where it is yes, the two lengths are short. (A plain word, so that the walk leaves it alone.) -/
def Says (n m : Nat) (e : Ending) : Prop := ∃ r, e = .returned (.bool r) ∧ (r = true → n ≤ 1048576 ∧ m ≤ 1048576)
theorem Says.no {n m : Nat} : Says n m (.returned (.bool false)) := ⟨false, rfl, fun h => by cases h⟩
theorem Says.yes {n m : Nat} (h : n ≤ 1048576) (h' : m ≤ 1048576) : Says n m (.returned (.bool true)) := ⟨true, rfl, fun _ => ⟨h, h'⟩⟩

set_option maxHeartbeats 1000000 in
/-- zzBytes_FnMajorityOfASetCountsEachAddressOnce: whatever it says; where it says yes the slice is short. -/
theorem bytes1_any (a : Option Addr) (n c : Nat) (w : World) (h : RowS w a n) :
    Calls Try.prog 10 #[.slice a n c] w fun e w' => Says n n e ∧ w' = w := by
  obtain ⟨hm, h⟩ := h
  unfold maxLen at hm
  by_cases hN : n ≤ 1048576
  · rcases h with rfl | ⟨b, off, rfl, hc⟩
    · go_enter Try.func10, Try.ntmps10
      go_wp2
      refine wp_loop_rounds 1 ?_
      rw [rounds_succ]
      go_wp2
      go_ret
      exact ⟨Says.yes (by omega) (by omega), rfl⟩
    · go_enter Try.func10, Try.ntmps10
      go_wp2
      go_loop [3, 4] (fun t i => ∃ (k : Nat) (z : Int), k ≤ n ∧ i = .int .i64 k ∧ t = .int .i64 z ∧ 0 ≤ z ∧ z ≤ 1048576) (fun _ i => n - (intOf i).toNat)
      case atStart => exact ⟨0, _, Nat.zero_le _, rfl, rfl, by omega, by omega⟩
      case round =>
        obtain ⟨k, z, hk, rfl, rfl, hz0, hz1⟩ := hrel
        by_cases hlt : k < n
        · obtain ⟨s, hs, hsz⟩ := hc k hlt
          unfold maxLen at hsz
          by_cases h1 : s.size ≤ 1048576
          · by_cases h2 : z + s.size ≤ 1048576
            · go_wp2
              go_round
              case rel => exact ⟨k + 1, _, by omega, by go_num, rfl, by omega, by omega⟩
              case measure => simp [intOf]; omega
            · go_wp2
              go_ret
              exact ⟨Says.no, rfl⟩
          · go_wp2
            go_ret
            exact ⟨Says.no, rfl⟩
        · go_wp2
          go_ret
          exact ⟨Says.yes hN hN, rfl⟩
  · go_enter Try.func10, Try.ntmps10
    go_wp2
    go_ret
    exact ⟨Says.no, rfl⟩

set_option maxHeartbeats 4000000 in
/-- zzBytes_FnMajorityOfJoinedMembers: whatever it says; where it says yes both slices are short. -/
theorem bytes2_any (a : Option Addr) (n c : Nat) (a' : Option Addr) (m d : Nat) (w : World) (h : RowS w a n) (h' : RowS w a' m) :
    Calls Try.prog 7 #[.slice a n c, .slice a' m d] w fun e w' => Says n m e ∧ w' = w := by
  obtain ⟨hm, h⟩ := h
  obtain ⟨hm', h'⟩ := h'
  unfold maxLen at hm hm'
  by_cases hN : n ≤ 1048576
  · have hA : ∃ b off, (n = 0 ∨ a = some ⟨b, off, none⟩) ∧ ∀ i, i < n → ∃ s : ByteArray, w.cell? ⟨b, off + i, none⟩ = some (.string s) ∧ s.size ≤ maxLen := by
      rcases h with rfl | ⟨b, off, rfl, hc⟩
      · exact ⟨0, 0, .inl rfl, fun i hi => absurd hi (Nat.not_lt_zero _)⟩
      · exact ⟨b, off, .inr rfl, hc⟩
    have hB : ∃ b off, (m = 0 ∨ a' = some ⟨b, off, none⟩) ∧ ∀ i, i < m → ∃ s : ByteArray, w.cell? ⟨b, off + i, none⟩ = some (.string s) ∧ s.size ≤ maxLen := by
      rcases h' with rfl | ⟨b, off, rfl, hc⟩
      · exact ⟨0, 0, .inl rfl, fun i hi => absurd hi (Nat.not_lt_zero _)⟩
      · exact ⟨b, off, .inr rfl, hc⟩
    clear h h'
    obtain ⟨b, off, ha, hc⟩ := hA
    obtain ⟨b', off', ha', hc'⟩ := hB
    obtain ⟨N, hNn⟩ : ∃ N, N = n := ⟨_, rfl⟩
    obtain ⟨M, hMm⟩ : ∃ M, M = m := ⟨_, rfl⟩
    have HN : Hid (N = n) := hNn
    have HM : Hid (M = m) := hMm
    clear hNn hMm
    by_cases hM : m ≤ 1048576
    · rcases ha with rfl | rfl <;> rcases ha' with rfl | rfl
      all_goals
        go_enter Try.func7, Try.ntmps7
        go_wp2
        go_loop [5, 6] (fun t i => ∃ (k : Nat) (z : Int), k ≤ N ∧ i = .int .i64 k ∧ t = .int .i64 z ∧ 0 ≤ z ∧ z ≤ 1048576) (fun _ i => N - (intOf i).toNat)
        case atStart => exact ⟨0, _, Nat.zero_le _, rfl, rfl, by omega, by omega⟩
        case round =>
          obtain ⟨k, z, hk, rfl, rfl, hz0, hz1⟩ := hrel
          have hk' := hk
          rw [HN.out] at hk'
          by_cases hlt : k < N
          · have hlt' := hlt
            rw [HN.out] at hlt'
            first
            | exact absurd hlt' (Nat.not_lt_zero _)
            | (obtain ⟨s, hs, hsz⟩ := hc k hlt'
               unfold maxLen at hsz
               by_cases h1 : s.size ≤ 1048576
               · by_cases h2 : z + s.size ≤ 1048576
                 · go_wp2
                   go_round
                   case rel => exact ⟨k + 1, _, by omega, by go_num, rfl, by omega, by omega⟩
                   case measure => simp [intOf]; omega
                 · go_wp2
                   go_ret
                   exact ⟨Says.no, rfl⟩
               · go_wp2
                 go_ret
                 exact ⟨Says.no, rfl⟩)
          · have hlt' := hlt
            rw [HN.out] at hlt'
            by_cases hzm : z + (M : Int) ≤ 1048576
            · have hzm' := hzm
              rw [HM.out] at hzm'
              go_wp2
              go_loop [5, 7] (fun t i => ∃ (k : Nat) (z : Int), k ≤ M ∧ i = .int .i64 k ∧ t = .int .i64 z ∧ 0 ≤ z ∧ z ≤ 1048576) (fun _ i => M - (intOf i).toNat)
              case atStart => exact ⟨0, _, Nat.zero_le _, rfl, rfl, by omega, by omega⟩
              case round =>
                obtain ⟨j, y, hj, rfl, rfl, hy0, hy1⟩ := hrel
                have hj' := hj
                rw [HM.out] at hj'
                by_cases hltj : j < M
                · have hltj' := hltj
                  rw [HM.out] at hltj'
                  first
                  | exact absurd hltj' (Nat.not_lt_zero _)
                  | (obtain ⟨s, hs, hsz⟩ := hc' j hltj'
                     unfold maxLen at hsz
                     by_cases h1 : s.size ≤ 1048576
                     · by_cases h2 : y + s.size ≤ 1048576
                       · go_wp2
                         go_round
                         case rel => exact ⟨j + 1, _, by omega, by go_num, rfl, by omega, by omega⟩
                         case measure => simp [intOf]; omega
                       · go_wp2
                         go_ret
                         exact ⟨Says.no, rfl⟩
                     · go_wp2
                       go_ret
                       exact ⟨Says.no, rfl⟩)
                · have hltj' := hltj
                  rw [HM.out] at hltj'
                  go_wp2
                  go_ret
                  exact ⟨Says.yes (by omega) (by omega), rfl⟩
            · have hzm' := hzm
              rw [HM.out] at hzm'
              first
              | (exfalso; omega)
              | (go_wp2
                 go_ret
                 exact ⟨Says.no, rfl⟩)
    · rcases ha with rfl | rfl
      all_goals
        go_enter Try.func7, Try.ntmps7
        go_wp2
        go_loop [5, 6] (fun t i => ∃ (k : Nat) (z : Int), k ≤ N ∧ i = .int .i64 k ∧ t = .int .i64 z ∧ 0 ≤ z ∧ z ≤ 1048576) (fun _ i => N - (intOf i).toNat)
        case atStart => exact ⟨0, _, Nat.zero_le _, rfl, rfl, by omega, by omega⟩
        case round =>
          obtain ⟨k, z, hk, rfl, rfl, hz0, hz1⟩ := hrel
          have hk' := hk
          rw [HN.out] at hk'
          by_cases hlt : k < N
          · have hlt' := hlt
            rw [HN.out] at hlt'
            first
            | exact absurd hlt' (Nat.not_lt_zero _)
            | (obtain ⟨s, hs, hsz⟩ := hc k hlt'
               unfold maxLen at hsz
               by_cases h1 : s.size ≤ 1048576
               · by_cases h2 : z + s.size ≤ 1048576
                 · go_wp2
                   go_round
                   case rel => exact ⟨k + 1, _, by omega, by go_num, rfl, by omega, by omega⟩
                   case measure => simp [intOf]; omega
                 · go_wp2
                   go_ret
                   exact ⟨Says.no, rfl⟩
               · go_wp2
                 go_ret
                 exact ⟨Says.no, rfl⟩)
          · have hlt' := hlt
            rw [HN.out] at hlt'
            go_wp2
            go_ret
            exact ⟨Says.no, rfl⟩
  · go_enter Try.func7, Try.ntmps7
    go_wp2
    go_ret
    exact ⟨Says.no, rfl⟩

end Go.Proofs.Qxb6616331a
