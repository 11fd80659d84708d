/-
  Seat b6617793a: the walk of increment, at a number in the documented form: the result outranks it.
-/
import Derived.Test.Qxb6617793aCmp
import Derived.Laws.IdiomStrings
namespace Go.Proofs.Qxb6617793a
open Go.ChangeShapes Go.WideShapes Go.ChangeAt Go.RowKit
set_option linter.unusedVariables false

/-- 'string(b)', b's cells known, as a law for the walk. -/
theorem law_string {P : Program} {w : World} {ops : Array Oper} {rest : List Oper} {o : Oper} {a : Act} {Q : Exit → Act → World → Prop} (hg : o.guard = none) (x : Operand) (src dst e : TypeId) (hop : o.op = Op.convert src dst x)
    (hs : P.underlying src = some (.slice e)) (he : P.underlying e = some (.int .u8)) (hd : P.underlying dst = some .string) (ad : Addr) (n cap : Nat) (l : List UInt8) (hx : a.eval x = .slice (some ad) n cap) (hn : l.length = n)
    (hc : ∀ j (hj : j < l.length), w.cell? (ad.add j) = some (.int .u8 (l[j].toNat : Int)))
    (h : wpList P ops Q rest (a.put o.dst (.string ⟨l.toArray⟩)) w) : wpList P ops Q (o :: rest) a w := by
  subst hn
  refine wpList_plain hg fun K hK => ?_
  have hrun := run_convert_bytes_back (P := P) w src dst e ad cap l hs he hd hc
  unfold Oper.wp
  simp [execOp, hop, hx, hrun, Result.andThen]
  exact hK _ _ h

/-- The digits' row: below m as they were; from m on nines that have become noughts. -/
structure Dig (w wr : World) (n : ByteArray) (m : Nat) : Prop where
  low : ∀ j (h : j < n.size), j < m → wr.cell? ⟨w.heap.size, j, none⟩ = some (.int .u8 (n[j].toNat : Int))
  high : ∀ j, j < n.size → m ≤ j → wr.cell? ⟨w.heap.size, j, none⟩ = some (.int .u8 48)
  free : ∀ j, j < n.size → wr.frozen? ⟨w.heap.size, j, none⟩ = false
  below : Below w.heap.size w wr

theorem Dig.start (w : World) (n : ByteArray) (cap : Nat) : Dig w ((w.alloc (.cells (bytesRow n cap) 5 ((bytesRow n cap).size, (bytesRow n cap).size + 1))).drew) n n.size := by
  have hsz : n.size ≤ (bytesRow n cap).size := by simp [bytesRow]
  refine ⟨fun j h _ => ?_, fun j h h' => absurd h (by omega), fun j h => ?_, ((Below.refl _ _).alloc (Nat.le_refl _) _).drew⟩
  · have := World.cell?_alloc_mark w (bytesRow n cap) 5 ((bytesRow n cap).size, (bytesRow n cap).size + 1) j
    refine Eq.trans this ?_
    have hj : j < n.data.size := h
    simp only [bytesRow, Array.getElem?_append, Array.size_map, Array.getElem?_map]
    rw [if_pos hj, Array.getElem?_eq_getElem hj]
    rfl
  · have hb : (w.alloc (.cells (bytesRow n cap) 5 ((bytesRow n cap).size, (bytesRow n cap).size + 1))).heap[w.heap.size]? = some (.cells (bytesRow n cap) 5 ((bytesRow n cap).size, (bytesRow n cap).size + 1)) := by
      show (w.heap.push _)[w.heap.size]? = _
      simp
    show (w.alloc (.cells (bytesRow n cap) 5 ((bytesRow n cap).size, (bytesRow n cap).size + 1))).frozen? ⟨w.heap.size, j, none⟩ = false
    simp only [World.frozen?, hb]
    simp
    omega

theorem Dig.step {w wr : World} {n : ByteArray} {q : Nat} (hq : q < n.size) (D : Dig w wr n (q + 1)) : Dig w (wr.setCell ⟨w.heap.size, q, none⟩ (.int .u8 48)) n q := by
  have ne : ∀ j, j ≠ q → (⟨w.heap.size, q, none⟩ : Addr) ≠ ⟨w.heap.size, j, none⟩ := by
    intro j hj h
    injection h with _ h2 _
    exact hj h2.symm
  refine ⟨fun j h hj => ?_, fun j h hj => ?_, fun j h => ?_, D.below.setCell (p := ⟨w.heap.size, q, none⟩) (Nat.le_refl _) _⟩
  · rw [World.cell?_setCell_other _ _ _ _ (ne j (by omega))]
    exact D.low j h (by omega)
  · by_cases e : j = q
    · subst e
      exact World.cell?_setCell_same _ _ _ (D.low j h (by omega))
    · rw [World.cell?_setCell_other _ _ _ _ (ne j e)]
      exact D.high j h (by omega)
  · rw [World.frozen?_setCell]
    exact D.free j h

/-- What comes back outranks n, and is at most one digit longer. -/
def Bumped (n : ByteArray) (e : Ending) : Prop := ∃ r : ByteArray, e = .returned (.string r) ∧ dcmp n.data.toList r.data.toList = -1 ∧ r.size ≤ n.size + 1

/-- The digits behind a carry that stopped at q. -/
def bumpList (n : ByteArray) (q : Nat) (y : UInt8) : List UInt8 := n.data.toList.take q ++ (y :: List.replicate (n.size - q - 1) 48)

theorem bumpList_length (n : ByteArray) (q : Nat) (y : UInt8) (hq : q < n.size) : (bumpList n q y).length = n.size := by
  have := size_list n
  simp only [bumpList, List.length_append, List.length_take, List.length_cons, List.length_replicate, this]
  omega

theorem bumped_same {n : ByteArray} {q : Nat} (hq : q < n.size) (y : UInt8) (h : n[q] < y) : Bumped n (.returned (.string ⟨(bumpList n q y).toArray⟩)) := by
  have hl := bumpList_length n q y hq
  have hs := size_list n
  refine ⟨_, rfl, ?_, ?_⟩
  · show dcmp n.data.toList (bumpList n q y).toArray.toList = -1
    rw [List.toList_toArray, dcmp_same (by rw [hl, hs])]
    refine compareBytes_lt _ _ q ?_ n[q] y (at_list n q hq) ?_ h
    · rw [bumpList, List.take_append_of_le_length (by rw [List.length_take]; omega), List.take_take, Nat.min_self]
    · rw [bumpList, List.getElem?_append_right (by rw [List.length_take]; omega), List.length_take, hs, Nat.min_eq_left (by omega), Nat.sub_self]
      rfl
  · show (bumpList n q y).toArray.size ≤ n.size + 1
    rw [List.size_toArray, hl]
    omega

theorem bumped_long (n r : ByteArray) (hr : r.size = n.size + 1) : Bumped n (.returned (.string r)) :=
  ⟨r, rfl, dcmp_short (by rw [size_list, size_list]; omega), by omega⟩

/-- The row's cells, once the carry has stopped at q. -/
theorem Dig.done {w wr : World} {n : ByteArray} {q : Nat} (hq : q < n.size) (D : Dig w wr n (q + 1)) (y : UInt8) (v : Int) (hv : v = (y.toNat : Int)) (l : List UInt8) (hl : l = bumpList n q y) :
    ∀ j (hj : j < l.length), (wr.setCell ⟨w.heap.size, q, none⟩ (.int .u8 v)).cell? ((⟨w.heap.size, 0, none⟩ : Addr).add j) = some (.int .u8 (l[j].toNat : Int)) := by
  subst hl hv
  intro j hj
  have hs := size_list n
  have hj' : j < n.size := by rw [bumpList_length n q y hq] at hj; exact hj
  rw [Addr.add_lit, Nat.zero_add]
  by_cases e : j = q
  · subst e
    rw [World.cell?_setCell_same _ _ _ (D.low j hj' (by omega))]
    have : (bumpList n j y)[j] = y := by
      simp only [bumpList]
      rw [List.getElem_append_right (by rw [List.length_take]; omega)]
      simp [List.length_take, hs, Nat.min_eq_left (Nat.le_of_lt hj')]
    rw [this]
  · have ne : (⟨w.heap.size, q, none⟩ : Addr) ≠ ⟨w.heap.size, j, none⟩ := by
      intro h
      injection h with _ h2 _
      exact e h2.symm
    rw [World.cell?_setCell_other _ _ _ _ ne]
    by_cases hlt : j < q
    · rw [D.low j hj' (by omega)]
      have : (bumpList n q y)[j] = n[j] := by
        simp only [bumpList]
        rw [List.getElem_append_left (by rw [List.length_take, hs]; omega), List.getElem_take]
        rfl
      rw [this]
    · rw [D.high j hj' (by omega)]
      have : (bumpList n q y)[j] = 48 := by
        have h1 : (bumpList n q y)[j]? = some 48 := by
          rw [bumpList, List.getElem?_append_right (by rw [List.length_take, hs]; omega), List.length_take, hs, Nat.min_eq_left (by omega)]
          obtain ⟨d, hd⟩ : ∃ d, j - q = d + 1 := ⟨j - q - 1, by omega⟩
          rw [hd, List.getElem?_cons_succ, List.getElem?_replicate, if_pos (by omega)]
        have h2 := List.getElem?_eq_getElem hj
        rw [h1] at h2
        exact (Option.some.inj h2).symm
      rw [this]
      rfl

set_option maxRecDepth 100000 in
set_option maxHeartbeats 2000000 in
theorem inc_any (n : ByteArray) (w : World) (hn : n.size ≤ 131072) (C : Canon n) :
    Calls Try.prog 19 #[.string n] w fun e w' => Bumped n e ∧ Below w.heap.size w w' := by
  have hbs := fun (w : World) (s : ByteArray) => run_bytes_of_string (P := Try.prog) w 9 32 5 s Try.underlying9 Try.underlying32 Try.underlying5
  have HD : Hid (∀ i (h : i < n.size), 48 ≤ (n[i].toNat : Int) ∧ (n[i].toNat : Int) ≤ 57) := C.digits
  have hpos := C.pos
  clear C
  go_enter Try.func19, Try.ntmps19
  go_wp2_with fail
  clear hbs
  go_loopw [4] (fun i wr => (i = .int .i64 (-1) ∧ Dig w wr n 0) ∨ ∃ q : Nat, q < n.size ∧ i = .int .i64 (q : Int) ∧ Dig w wr n (q + 1)) (fun i _ => (intOf i + 1).toNat)
  case atStart => exact .inr ⟨n.size - 1, by omega, by go_num, by rw [Nat.sub_add_cancel hpos]; exact Dig.start w n _⟩
  case round =>
    rcases hrel with ⟨rfl, D⟩ | ⟨q, hq, rfl, D⟩
    · obtain ⟨l, hl⟩ : ∃ l : List UInt8, l = List.replicate n.size 48 := ⟨_, rfl⟩
      have hll : l.length = n.size := by rw [hl, List.length_replicate]
      have hcl : ∀ j (hj : j < l.length), wr.cell? ((⟨w.heap.size, 0, none⟩ : Addr).add j) = some (.int .u8 (l[j].toNat : Int)) := by
        intro j hj
        rw [Addr.add_lit, Nat.zero_add, D.high j (by omega) (Nat.zero_le _)]
        have : l[j] = 48 := by simp [hl]
        rw [this]
        rfl
      have HL : Hid (l.length = n.size) := hll
      have HC : Hid (∀ j (hj : j < l.length), wr.cell? ((⟨w.heap.size, 0, none⟩ : Addr).add j) = some (.int .u8 (l[j].toNat : Int))) := hcl
      clear hl hll hcl
      have hadd := fun (w : World) => run_string_add_sum (P := Try.prog) (w := w) ⟨#[49]⟩ ⟨l.toArray⟩ (by
        show 1 + l.toArray.size ≤ 9223372036854775807
        rw [List.size_toArray, HL.out]
        omega)
      go_wp2_with (refine law_string rfl (.tmp 30) 32 9 5 rfl Try.underlying32 Try.underlying5 Try.underlying9 ⟨w.heap.size, 0, none⟩ n.size _ l rfl HL.out HC.out ?_)
      go_ret
      refine ⟨bumped_long n _ ?_, D.below⟩
      rw [ByteArray.size_append]
      show 1 + l.toArray.size = n.size + 1
      rw [List.size_toArray, HL.out]
      exact Nat.add_comm _ _
    · have c := D.low q hq (Nat.lt_succ_self q)
      have f := D.free q hq
      have hq0 : (0 : Int) ≤ (q : Int) := by omega
      obtain ⟨h48, h57⟩ := HD.out q hq
      by_cases h9 : (n[q].toNat : Int) = 57
      · have b9 : ((n[q].toNat : Int) != 57) = false := by simp [h9]
        clear h9 h48 h57
        have D' := D.step hq
        go_wp2_with fail
        go_roundw
        case rel =>
          rcases q with _ | p
          · exact .inl ⟨rfl, D'⟩
          · exact .inr ⟨p, by omega, by go_num, D'⟩
        case measure => simp [intOf]
      · have b9 : ((n[q].toNat : Int) != 57) = true := by simpa using h9
        have h56 : (n[q].toNat : Int) ≤ 56 := by omega
        clear h9
        obtain ⟨y, hy⟩ : ∃ y : UInt8, (n[q].toNat : Int) + 1 = (y.toNat : Int) := ⟨UInt8.ofNat (n[q].toNat + 1), by rw [UInt8.toNat_ofNat', Nat.mod_eq_of_lt (by omega)]; omega⟩
        have hyl : n[q] < y := by rw [UInt8.lt_iff_toNat_lt]; omega
        obtain ⟨l, hl⟩ : ∃ l : List UInt8, l = bumpList n q y := ⟨_, rfl⟩
        have HL : Hid (l.length = n.size) := by show l.length = n.size; rw [hl]; exact bumpList_length n q y hq
        have HC : Hid (∀ j (hj : j < l.length), (wr.setCell ⟨w.heap.size, q, none⟩ (.int .u8 ((n[q].toNat : Int) + 1))).cell? ((⟨w.heap.size, 0, none⟩ : Addr).add j) = some (.int .u8 (l[j].toNat : Int))) := D.done hq y _ hy l hl
        have HB : Hid (Bumped n (.returned (.string ⟨l.toArray⟩))) := by show Bumped n (.returned (.string ⟨l.toArray⟩)); rw [hl]; exact bumped_same hq y hyl
        clear hy hyl hl
        go_wp2_with (refine law_string rfl (.tmp 25) 32 9 5 rfl Try.underlying32 Try.underlying5 Try.underlying9 ⟨w.heap.size, 0, none⟩ n.size _ l rfl HL.out HC.out ?_)
        go_ret
        exact ⟨HB.out, D.below.setCell (p := ⟨w.heap.size, q, none⟩) (Nat.le_refl _) _⟩

theorem zinc_any (n : ByteArray) (w : World) (hn : n.size ≤ 131072) (C : Canon n) :
    Calls Try.prog 13 #[.string n] w fun e w' => Bumped n e ∧ Below w.heap.size w w' := by
  go_enter Try.func13, Try.ntmps13
  go_wp2_with fail
  refine (inc_any n w hn C).mono ?_
  rintro e w1 ⟨⟨r, rfl, h1, h2⟩, hb⟩
  have H1 : Hid (dcmp n.data.toList r.data.toList = -1) := h1
  clear h1
  go_wp2_with fail
  go_ret
  exact ⟨⟨r, rfl, H1.out, h2⟩, hb⟩

end Go.Proofs.Qxb6617793a
