/-
  Laws for the walk, over any program: 'zzc := make([]T, len(a)); copy(zzc, a)' as two steps, the row told as a list.
-/
import Derived.WalkKit
import Derived.Laws.CopyOwn
import Derived.Laws.AppendOwnNone
namespace Go.Proofs.Qxb6616331a
open Go.RowKit
set_option linter.unusedVariables false

/-- Block g holds just the cells xs, none frozen. -/
def Row (w : World) (g : Nat) (e : TypeId) (xs : List Value) : Prop := w.heap[g]? = some (.cells xs.toArray e (0, 0))

theorem Row.lt {w : World} {g : Nat} {e : TypeId} {xs : List Value} (h : Row w g e xs) : g < w.heap.size := (Array.getElem?_eq_some_iff.1 h).1

theorem Row.cell {w : World} {g : Nat} {e : TypeId} {xs : List Value} (h : Row w g e xs) (i : Nat) : w.cell? ⟨g, i, none⟩ = xs[i]? := by
  unfold Row at h
  simp [World.cell?, h]

theorem Row.below {B : Nat} {w w' : World} {g : Nat} {e : TypeId} {xs : List Value} (h : Row w g e xs) (hb : Below B w w') (hg : g < B) : Row w' g e xs := by
  unfold Row at *
  rw [hb.block g hg, h]

theorem Row.src {w : World} {g : Nat} {e : TypeId} {xs : List Value} (h : Row w g e xs) : ∀ ad, some (⟨g, 0, none⟩ : Addr) = some ad → ∀ j u, xs[j]? = some u → w.cell? (ad.add j) = some u := by
  intro ad had j u hj
  obtain rfl := Option.some.inj had
  rw [Addr.add_lit, Nat.zero_add, h.cell, hj]

theorem law_make {P : Program} (w : World) {ops : Array Oper} {rest : List Oper} {o : Oper} {a : Act} {Q : Exit → Act → World → Prop}
    (hg : o.guard = none) (l c : Operand) (t : TypeId) (hop : o.op = Op.makeSlice t l c)
    (e : TypeId) (i : TypeInfo) (z : Value) (bytes : Nat) (h1 : P.underlying t = some (.slice e)) (h2 : P.info? e = some i) (h3 : i.zero = some z) (h4 : i.size = 1) (h5 : i.bytes = bytes)
    (kl kc : IntKind) (L C : Int) (n : Nat) (hl : a.eval l = .int kl L) (hc : a.eval c = .int kc C) (hL : L = (n : Int)) (hC : C = (n : Int)) (b2 : bytes * n ≤ 281474976710656) (b3 : n ≤ maxLen)
    (hK : ∀ w' xs, Row w' w.heap.size e xs → xs.length = n → Below w.heap.size w w' → wpList P ops Q rest (a.put o.dst (.slice (some ⟨w.heap.size, 0, none⟩) n n)) w') :
    wpList P ops Q (o :: rest) a w := by
  refine wpList_make_full w hg l c t hop w.heap.size e i z 1 h1 h2 h3 h4 kl kc L C n hl hc hL hC (by rw [h5]; exact b2) b3 (Nat.le_refl _) ?_
  intro w' hown hgrow
  obtain ⟨hlen, hv⟩ := hown
  rcases hv with ⟨hv, _⟩ | ⟨g, cap, cur, hv, _, hb, _, _, hsz, htake⟩
  · cases hv
  · simp only [Value.slice.injEq, Option.some.injEq, Addr.mk.injEq] at hv
    obtain ⟨⟨rfl, _, _⟩, _, rfl⟩ := hv
    have hcur : cur.toList = (madeCells z.cells (n * 1)).toList := by
      rw [← htake, List.take_of_length_le (by simp [hsz])]
    refine hK w' cur.toList ?_ ?_ ⟨hgrow.os, hgrow.tape, hgrow.output, hgrow.size, fun k hk => hgrow.block k hk (by simp)⟩
    · simpa [Row] using hb
    · simpa using hsz

theorem law_copy {P : Program} {w : World} {ops : Array Oper} {rest : List Oper} {o : Oper} {a : Act} {Q : Exit → Act → World → Prop} (hgd : o.guard = none) (d s : Operand) (dT : TypeId)
    (ho : o.op = .call { callee := .builtin .copy, args := #[d, s], argTypes := #[dT, dT] }) (elem : TypeId) (hu : P.underlying dT = some (.slice elem)) (hsz : (P.info? elem).map (·.size) = some 1)
    (g n : Nat) (sp : Option Addr) (sCap : Nat) (hd : a.eval d = .slice (some ⟨g, 0, none⟩) n n) (hs : a.eval s = .slice sp n sCap)
    (xs : List Value) (hx : xs.length = n) (hg : Row w g elem xs) (cs : List Value) (hn : cs.length = n)
    (hsrc : 0 < n → ∃ ad, sp = some ad ∧ ∀ j v, cs[j]? = some v → w.cell? (ad.add j) = some v) (h1 : ∀ v ∈ cs, v.oneCell' = true)
    (h : ∀ w', Row w' g elem cs → Below g w w' → wpList P ops Q rest (a.put o.dst (goInt n)) w') :
    wpList P ops Q (o :: rest) a w := by
  refine wpList_copy_splice hgd d s dT dT ho elem hu hsz (some ⟨g, 0, none⟩) sp n n n sCap hd hs g 0 xs elem hg cs (by rw [hn]; exact (Nat.min_self n).symm) (fun h0 => ⟨rfl, hsrc (by omega)⟩) (by omega) h1 g w (Below.refl _ _) (Nat.le_refl _) ?_
  intro w' hw' hb
  have e1 : splice xs 0 cs = cs := by
    simp only [splice, List.take_zero, List.nil_append]
    rw [List.drop_of_length_le (by omega), List.append_nil]
  have hr := hw'.out
  rw [e1] at hr
  rw [hn]
  exact h w' hr hb

/-- Block g begins with the cells xs, and has room for cap cells in all. -/
def Part (w : World) (g : Nat) (e : TypeId) (cap : Nat) (xs : List Value) : Prop := w.ownsRow g e 1 (.slice (some ⟨g, 0, none⟩) xs.length cap) xs.length xs

theorem Part.lt {w : World} {g : Nat} {e : TypeId} {cap : Nat} {xs : List Value} (h : Part w g e cap xs) : g < w.heap.size := (World.ownsRow.lt h g rfl).2

theorem Part.cells {w : World} {g : Nat} {e : TypeId} {cap : Nat} {xs : List Value} (h : Part w g e cap xs) : ∀ j u, xs[j]? = some u → w.cell? ⟨g, j, none⟩ = some u := by
  intro j u hj
  have := World.ownsRow.cells h (g := g) rfl j u hj
  rw [Addr.add_lit, Nat.zero_add] at this
  exact this

theorem Part.below {B : Nat} {w w' : World} {g : Nat} {e : TypeId} {cap : Nat} {xs : List Value} (h : Part w g e cap xs) (hb : Below B w w') (hg : g < B) : Part w' g e cap xs := by
  obtain ⟨h1, h2⟩ := h
  refine ⟨h1, ?_⟩
  rcases h2 with h2 | ⟨g', cp, cur, hv, r⟩
  · exact .inl h2
  · have hgg : g = g' := by simp only [Value.slice.injEq, Option.some.injEq, Addr.mk.injEq] at hv; exact hv.1.1
    subst hgg
    exact .inr ⟨g, cp, cur, hv, r.1, by rw [hb.block g hg]; exact r.2.1, r.2.2⟩

theorem law_make0 {P : Program} (w : World) {ops : Array Oper} {rest : List Oper} {o : Oper} {a : Act} {Q : Exit → Act → World → Prop}
    (hg : o.guard = none) (l c : Operand) (t : TypeId) (hop : o.op = Op.makeSlice t l c)
    (e : TypeId) (i : TypeInfo) (z : Value) (bytes : Nat) (h1 : P.underlying t = some (.slice e)) (h2 : P.info? e = some i) (h3 : i.zero = some z) (h4 : i.size = 1) (h5 : i.bytes = bytes)
    (kl kc : IntKind) (C : Int) (n : Nat) (hl : a.eval l = .int kl 0) (hc : a.eval c = .int kc C) (hC : C = (n : Int)) (b2 : bytes * n ≤ 281474976710656) (b3 : n ≤ maxLen)
    (hK : ∀ w', Part w' w.heap.size e n [] → Below w.heap.size w w' → wpList P ops Q rest (a.put o.dst (.slice (some ⟨w.heap.size, 0, none⟩) 0 n)) w') :
    wpList P ops Q (o :: rest) a w := by
  refine wpList_make_own w hg l c t hop w.heap.size e i z 1 h1 h2 h3 h4 kl kc C n hl hc hC (by rw [h5]; exact b2) b3 (Nat.le_refl _) ?_
  intro w' hown hgrow
  exact hK w' hown ⟨hgrow.os, hgrow.tape, hgrow.output, hgrow.size, fun k hk => hgrow.block k hk (by simp)⟩

theorem law_append {P : Program} (w : World) {ops : Array Oper} {rest : List Oper} {o : Oper} {a : Act} {Q : Exit → Act → World → Prop}
    (hg : o.guard = none) (s x : Operand) (t : TypeId) (hop : o.op = Op.call { callee := Callee.builtin Builtin.append, args := #[s, x], argTypes := #[t, t] })
    (e : TypeId) (i : TypeInfo) (h1 : P.underlying t = some (.slice e)) (h2 : P.info? e = some i) (h4 : i.size = 1)
    (g k cap : Nat) (xs : List Value) (hs : a.eval s = .slice (some ⟨g, 0, none⟩) k cap) (hk : xs.length = k) (hown : Part w g e cap xs) (ao : Option Addr) (m c : Nat) (news : List Value) (hx : a.eval x = .slice ao m c) (hn : news.length = m)
    (hnone : ao = none → m = 0 ∧ c = 0) (hc : ∀ ad, ao = some ad → ∀ j u, news[j]? = some u → w.cell? (ad.add j) = some u) (h1c : ∀ u ∈ news, u.oneCell' = true) (b1 : k + m ≤ cap)
    (hK : ∀ w', Part w' g e cap (xs ++ news) → Below g w w' → wpList P ops Q rest (a.put o.dst (.slice (some ⟨g, 0, none⟩) (k + m) cap)) w') :
    wpList P ops Q (o :: rest) a w := by
  subst hk
  have hlt := hown.lt
  refine wpList_append_fits_any w hg s x t hop g e i 1 h1 h2 h4 g xs.length cap xs hs hown ao m c news hx (by omega) hnone hc h1c b1 ?_
  intro w' hown' hgrow
  refine hK w' ?_ ⟨hgrow.os, hgrow.tape, hgrow.output, hgrow.size, fun k hk => hgrow.block k (by omega) (by simp; omega)⟩
  unfold Part
  rw [List.length_append, hn]
  exact hown'

#print axioms law_make
#print axioms law_copy
end Go.Proofs.Qxb6616331a
