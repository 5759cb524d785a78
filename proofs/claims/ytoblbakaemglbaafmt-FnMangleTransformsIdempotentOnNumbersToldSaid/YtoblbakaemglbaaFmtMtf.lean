/- FnMangleTransformsIdempotentOnNumbers: variables that a drawn region makes out of tokens. -/
import Derived.Test.YtoblbakaemglbaaFmtMt6
import Derived.Deep.DeepCutAuto
set_option linter.unusedVariables false
set_option linter.unusedSimpArgs false
namespace Go.Proofs.YtoblbakaemglbaaFmt
open Go.RowKit
/-- m new variables, each a copy of a token; the region's operations: 3m values, m allocations, m stores -/
structure IV (wc : World) (m : Nat) (V : Nat → Value) (tk : Nat → Tq) (L : Nat → Bool) (vs : Nat → Value) (W : World) : Prop where
  bel : Below wc.heap.size wc W
  val : ∀ i, i < 3 * m → L i = true → vs i = V i
  new : ∀ k, k < m → L (3 * m + k) = true → ∃ b, vs (3 * m + k) = .pointer (some ⟨b, 0, none⟩) ∧ wc.heap.size ≤ b ∧ b < W.heap.size ∧ Room W b 7 ∧ (L (4 * m + k) = true → Seg W b 0 (tk k).L)
  dis : ∀ k k', k < m → k' < m → k ≠ k' → L (3 * m + k) = true → L (3 * m + k') = true → vs (3 * m + k) ≠ vs (3 * m + k')
  dn : ∀ k, k < m → L (4 * m + k) = true → L (3 * m + k) = true
theorem IV.v {wc W W' : World} {m i : Nat} {V : Nat → Value} {tk : Nat → Tq} {L : Nat → Bool} {vs : Nat → Value} (h : IV wc m V tk L vs W) (hi : i < 3 * m) (hb : Below W.heap.size W W') : IV wc m V tk (fun j => j == i || L j) (QTail.upd vs i (V i)) W' := by
  have hz := hb.size
  refine ⟨h.bel.trans (hb.mono h.bel.size), fun j hj hl => ?_, fun k hk hl => ?_, fun k k' hk hk' hne h1 h2 => ?_, fun k hk q => ?_⟩
  · by_cases e : j = i
    · subst e; rw [QTail.upd_same]
    · have e' : (j == i) = false := by simpa using e
      rw [e', Bool.false_or] at hl
      rw [QTail.upd_other _ _ _ _ e]
      exact h.val j hj hl
  · have e' : (3 * m + k == i) = false := by simp; omega
    have e4 : (4 * m + k == i) = false := by simp; omega
    simp only [e', Bool.false_or] at hl
    obtain ⟨b, h1, h2, h3, h4, h5⟩ := h.new k hk hl
    exact ⟨b, by rw [QTail.upd_other _ _ _ _ (by omega)]; exact h1, h2, by omega, h4.after hb, fun q => by
      simp only [e4, Bool.false_or] at q
      exact (h5 q).after hb⟩
  · have e1 : (3 * m + k == i) = false := by simp; omega
    have e2 : (3 * m + k' == i) = false := by simp; omega
    simp only [e1, e2, Bool.false_or] at h1 h2
    rw [QTail.upd_other _ _ _ _ (by omega), QTail.upd_other _ _ _ _ (by omega)]
    exact h.dis k k' hk hk' hne h1 h2
  · have e4 : (4 * m + k == i) = false := by simp; omega
    simp only [e4, Bool.false_or] at q
    simp [h.dn k hk q]
theorem IV.n {wc W : World} {m k : Nat} {V : Nat → Value} {tk : Nat → Tq} {L : Nat → Bool} {vs : Nat → Value} {cs : Array Value} {t : TypeId} (h : IV wc m V tk L vs W) (hk : k < m) (hcs : cs.size = 7) (h4 : L (4 * m + k) = false) : IV wc m V tk (fun j => j == 3 * m + k || L j) (QTail.upd vs (3 * m + k) (.pointer (some ⟨W.heap.size, 0, none⟩))) (W.alloc (.cells cs t)) := by
  have hb : Below W.heap.size W (W.alloc (.cells cs t)) := ba _ _
  have hz := hb.size
  have hz2 : W.heap.size < (W.alloc (.cells cs t)).heap.size := by simp
  refine ⟨h.bel.trans (hb.mono h.bel.size), fun j hj hl => ?_, fun k' hk' hl => ?_, fun k1 k2 hk1 hk2 hne h1 h2 => ?_, fun k' hk' q => ?_⟩
  · have e' : (j == 3 * m + k) = false := by simp; omega
    simp only [e', Bool.false_or] at hl
    rw [QTail.upd_other _ _ _ _ (by omega)]
    exact h.val j hj hl
  · by_cases e : k' = k
    · subst e
      refine ⟨W.heap.size, by rw [QTail.upd_same], h.bel.size, hz2, by have := Room.newN W cs hcs t; exact this, fun q => ?_⟩
      have e4 : (4 * m + k' == 3 * m + k') = false := by simp; omega
      simp only [e4, Bool.false_or] at q
      rw [h4] at q; cases q
    · have e' : (3 * m + k' == 3 * m + k) = false := by simp; omega
      have e4 : (4 * m + k' == 3 * m + k) = false := by simp; omega
      simp only [e', Bool.false_or] at hl
      obtain ⟨b, h1, h2, h3, h5, h6⟩ := h.new k' hk' hl
      exact ⟨b, by rw [QTail.upd_other _ _ _ _ (by omega)]; exact h1, h2, by omega, h5.after hb, fun q => by
        simp only [e4, Bool.false_or] at q
        exact (h6 q).after hb⟩
  · by_cases a1 : k1 = k
    · subst a1
      have e2 : (3 * m + k2 == 3 * m + k1) = false := by simp; omega
      simp only [e2, Bool.false_or] at h2
      obtain ⟨b, h3, -, h5, -⟩ := h.new k2 hk2 h2
      rw [QTail.upd_same, QTail.upd_other _ _ _ _ (by omega), h3]
      intro q; injection q with q; injection q with q; injection q with q; omega
    · by_cases a2 : k2 = k
      · subst a2
        have e2 : (3 * m + k1 == 3 * m + k2) = false := by simp; omega
        simp only [e2, Bool.false_or] at h1
        obtain ⟨b, h3, -, h5, -⟩ := h.new k1 hk1 h1
        rw [QTail.upd_same, QTail.upd_other _ _ _ _ (by omega), h3]
        intro q; injection q with q; injection q with q; injection q with q; omega
      · have e1 : (3 * m + k1 == 3 * m + k) = false := by simp; omega
        have e2 : (3 * m + k2 == 3 * m + k) = false := by simp; omega
        simp only [e1, e2, Bool.false_or] at h1 h2
        rw [QTail.upd_other _ _ _ _ (by omega), QTail.upd_other _ _ _ _ (by omega)]
        exact h.dis k1 k2 hk1 hk2 hne h1 h2
  · have e4 : (4 * m + k' == 3 * m + k) = false := by simp; omega
    simp only [e4, Bool.false_or] at q
    simp [h.dn k' hk' q]
theorem IV.p {wc W : World} {m k b : Nat} {V : Nat → Value} {tk : Nat → Tq} {L : Nat → Bool} {vs : Nat → Value} {v : Value} (h : IV wc m V tk L vs W) (hk : k < m) (hl : L (3 * m + k) = true) (hv : vs (3 * m + k) = .pointer (some ⟨b, 0, none⟩)) : IV wc m V tk (fun j => j == 4 * m + k || L j) (QTail.upd vs (4 * m + k) v) (W.setCells b 0 (tk k).L) := by
  obtain ⟨b', g1, g2, g3, g4, -⟩ := h.new k hk hl
  rw [hv] at g1
  injection g1 with g1; injection g1 with g1; injection g1 with g1
  subst g1
  refine ⟨Below.setCellsB h.bel g2 _ _, fun j hj hl' => ?_, fun k' hk' hl' => ?_, fun k1 k2 hk1 hk2 hne h1 h2 => ?_, fun k' hk' q => ?_⟩
  · have e' : (j == 4 * m + k) = false := by simp; omega
    simp only [e', Bool.false_or] at hl'
    rw [QTail.upd_other _ _ _ _ (by omega)]
    exact h.val j hj hl'
  · have e' : (3 * m + k' == 4 * m + k) = false := by simp; omega
    simp only [e', Bool.false_or] at hl'
    obtain ⟨c, h1, h2, h3, h5, h6⟩ := h.new k' hk' hl'
    refine ⟨c, by rw [QTail.upd_other _ _ _ _ (by omega)]; exact h1, h2, by rw [setCells_size]; exact h3, Room.setCells _ _ _ _ h5, fun q => ?_⟩
    by_cases e : k' = k
    · subst e
      rw [hv] at h1
      injection h1 with h1; injection h1 with h1; injection h1 with h1
      subst h1
      exact Seg.put h5 (by show 0 + 7 ≤ 7; omega)
    · have hcb : c ≠ b := by
        intro q2; subst q2
        exact h.dis k' k hk' hk e hl' hl (by rw [h1, hv])
      have e4 : (4 * m + k' == 4 * m + k) = false := by simp; omega
      simp only [e4, Bool.false_or] at q
      intro j v hj
      rw [World.cell?_setCells_out _ _ _ _ _ (fun e _ => absurd e hcb)]
      exact h6 q j v hj
  · have e1 : (3 * m + k1 == 4 * m + k) = false := by simp; omega
    have e2 : (3 * m + k2 == 4 * m + k) = false := by simp; omega
    simp only [e1, e2, Bool.false_or] at h1 h2
    rw [QTail.upd_other _ _ _ _ (by omega), QTail.upd_other _ _ _ _ (by omega)]
    exact h.dis k1 k2 hk1 hk2 hne h1 h2
  · by_cases e : k' = k
    · subst e; simp [hl]
    · have e4 : (4 * m + k' == 4 * m + k) = false := by simp; omega
      simp only [e4, Bool.false_or] at q
      simp [h.dn k' hk' q]
theorem run_append_in (w : World) (ty A q sLen sCap m c : Nat) (a : Addr) (news : List Value) (hl : news.length = m * 7) (hnews : ∀ j u, news[j]? = some u → w.cell? (a.add j) = some u) (h1 : ∀ u ∈ news, u.oneCell' = true) (hroom : sLen + m ≤ sCap)
    (hc : ∀ j, j < news.length → (w.cell? ⟨A, q + sLen * 7 + j, none⟩).isSome = true) (hf : ∀ j, j < news.length → w.frozen? ⟨A, q + sLen * 7 + j, none⟩ = false) :
    (Builtin.append_ #[27, 27] ty #[.slice (some ⟨A, q, none⟩) sLen sCap, .slice (some a) m c]).run Tryf.prog w = .ok (.slice (some ⟨A, q, none⟩) (sLen + m) sCap) (w.setCells A (q + sLen * 7) news) := by
  cases hi : Tryf.prog.info? 79 with
  | none => exact absurd (i79 ⟨⟨#[]⟩, 0, 0⟩) (by rw [hi]; simp)
  | some i =>
    have hs : i.size = 7 := by have := i79 ⟨⟨#[]⟩, 0, 0⟩; rw [hi] at this; simpa using this
    have hfc := run_firstCells_some (P := Tryf.prog) w i.size m a m c news (by rw [hs]; exact hl) hnews
    rw [hs] at hfc
    have hst := run_storeCells_cells (P := Tryf.prog) A (q + sLen * 7) news 0 w (by simpa using hc) (by simpa using hf) h1
    simp only [Nat.add_zero] at hst
    simp [Builtin.append_, run_underlying Tryf.underlying27, sizeOf, typeInfo, hi, Builtin.lenOf, hroom, hfc, addN, hs, hst]
theorem wpList_append_in {w : World} {ops : Array Oper} {rest : List Oper} {o : Oper} {a : Act} {Q : Exit → Act → World → Prop} (s x : Operand) (A q sLen sCap m c : Nat) (ad : Addr) (news : List Value) (hgd : o.guard = none)
    (ho : o.op = .call { callee := .builtin .append, args := #[s, x], argTypes := #[27, 27] }) (hs : a.eval s = .slice (some ⟨A, q, none⟩) sLen sCap) (hx : a.eval x = .slice (some ad) m c)
    (hl : news.length = m * 7) (hnews : ∀ j u, news[j]? = some u → w.cell? (ad.add j) = some u) (h1 : ∀ u ∈ news, u.oneCell' = true) (hroom : sLen + m ≤ sCap)
    (hc : ∀ j, j < news.length → (w.cell? ⟨A, q + sLen * 7 + j, none⟩).isSome = true) (hf : ∀ j, j < news.length → w.frozen? ⟨A, q + sLen * 7 + j, none⟩ = false)
    (h : ∀ W, W = w.setCells A (q + sLen * 7) news → wpList Tryf.prog ops Q rest (a.put o.dst (.slice (some ⟨A, q, none⟩) (sLen + m) sCap)) W) : wpList Tryf.prog ops Q (o :: rest) a w := by
  refine wpList_plain hgd fun _ hK => ?_
  have hr := run_append_in w o.type A q sLen sCap m c ad news hl hnews h1 hroom hc hf
  unfold Oper.wp execOp
  simp only [ho, resolve, invoke, builtin, Sem.run_bind, Sem.run_pure, Result.andThen_ok, List.map_toArray, List.map_cons, List.map_nil, hs, hx, hr]
  exact hK _ _ (h _ rfl)
theorem setCells_app (b : Nat) (ys : List Value) : ∀ (xs : List Value) (o : Nat) (w : World), w.setCells b o (xs ++ ys) = (w.setCells b o xs).setCells b (o + xs.length) ys
  | [], o, w => by simp [World.setCells]
  | x :: xs, o, w => by
    rw [List.cons_append, World.setCells, World.setCells, setCells_app b ys xs]
    congr 1
    simp; omega
theorem MS.putT {w : World} {T C A N o n i : Nat} {nm : ByteArray} {G : Nat → Tq} (h : MS w T C A N nm G o n) (hi : i < N) (t : Tq) : MS (w.setCells A (i * 7) t.L) T C A N nm (fun j => if j = i then t else G j) o n := by
  refine ⟨fun j v hj => by rw [World.cell?_setCells_out _ _ _ _ _ (fun e _ => absurd e h.ta)]; exact h.tok j v hj, Room.setCells _ _ _ _ h.rt, by rw [World.cell?_setCells_out _ _ _ _ _ (fun e _ => absurd e h.ca)]; exact h.ch, Room.setCells _ _ _ _ h.rc, fun j hj => ?_, Room.setCells _ _ _ _ h.ra, Blk.setCells _ _ _ _ h.blk, h.tc, h.ta, h.ca, h.le⟩
  by_cases e : j = i
  · subst e; rw [if_pos rfl]; exact Seg.put h.ra (by show j * 7 + 7 ≤ _; omega)
  · rw [if_neg e]; exact (h.arr j hj).far (by show j * 7 + 7 ≤ i * 7 ∨ i * 7 + 7 ≤ j * 7; omega)
/-- '*token.Children = append(.., ..)': a is the literal, f1 and f2 are the appends, s is the store -/
structure AP (T C A N : Nat) (nm : ByteArray) (G0 G1 G2 : Nat → Tq) (o n0 n1 a f1 f2 s : Nat) (t : Tq) (V : Nat → Value) (w W0 Wb : World) (L : Nat → Bool) (vs : Nat → Value) (W : World) : Prop where
  O : O3 T C A w W
  P : O3 T C A W0 W
  sz : Wb.heap.size ≤ W.heap.size
  val : ∀ i, i ≠ a → i ≠ s → L i = true → vs i = V i
  new : L a = true → ∃ b, vs a = .slice (some ⟨b, 0, none⟩) 1 1 ∧ Wb.heap.size ≤ b ∧ Seg W b 0 t.L
  ms : MS W T C A N nm (if L f2 = true then G2 else if L f1 = true then G1 else G0) o (if L s = true then n1 else n0)
  ord : (L s = true → L f2 = true) ∧ (L f2 = true → L f1 = true)
section
variable {T C A N : Nat} {nm : ByteArray} {G0 G1 G2 : Nat → Tq} {o n0 n1 a f1 f2 s : Nat} {t : Tq} {V : Nat → Value} {w W0 Wb W W' : World} {L : Nat → Bool} {vs : Nat → Value}
theorem AP.start (hO : O3 T C A w Wb) (hP : O3 T C A W0 Wb) (hm : MS Wb T C A N nm G0 o n0) (vs : Nat → Value) : AP T C A N nm G0 G1 G2 o n0 n1 a f1 f2 s t V w W0 Wb (fun _ => false) vs Wb.drew :=
  ⟨hO.drewN 1, hP.drewN 1, Nat.le_refl _, (fun i _ _ h => by cases h), (fun h => by cases h), (by have := hm.after (Below.refl _ _).drew; simpa using this), (fun h => by cases h), (fun h => by cases h)⟩
theorem AP.q (h : AP T C A N nm G0 G1 G2 o n0 n1 a f1 f2 s t V w W0 Wb L vs W) (i : Nat) (ha : i ≠ a) (hf1 : i ≠ f1) (hf2 : i ≠ f2) (hs : i ≠ s) : AP T C A N nm G0 G1 G2 o n0 n1 a f1 f2 s t V w W0 Wb (fun j => j == i || L j) (QTail.upd vs i (V i)) W := by
  have e1 : (f1 == i) = false := by simp; omega
  have e2 : (f2 == i) = false := by simp; omega
  have e3 : (s == i) = false := by simp; omega
  have e4 : (a == i) = false := by simp; omega
  refine ⟨h.O, h.P, h.sz, fun j h1 h2 hl => ?_, fun q => ?_, ?_, ?_, ?_⟩
  · by_cases e : j = i
    · subst e; rw [QTail.upd_same]
    · have e' : (j == i) = false := by simpa using e
      rw [e', Bool.false_or] at hl
      rw [QTail.upd_other _ _ _ _ e]
      exact h.val j h1 h2 hl
  · simp only [e4, Bool.false_or] at q
    rw [QTail.upd_other _ _ _ _ (by omega)]
    exact h.new q
  · simp only [e1, e2, e3, Bool.false_or]
    exact h.ms
  · simp only [e2, e3, Bool.false_or]
    exact h.ord.1
  · simp only [e1, e2, Bool.false_or]
    exact h.ord.2
theorem AP.n (h : AP T C A N nm G0 G1 G2 o n0 n1 a f1 f2 s t V w W0 Wb L vs W) (hf1 : a ≠ f1) (hf2 : a ≠ f2) (hs : a ≠ s) (ty : TypeId) : AP T C A N nm G0 G1 G2 o n0 n1 a f1 f2 s t V w W0 Wb (fun j => j == a || L j) (QTail.upd vs a (.slice (some ⟨W.heap.size, 0, none⟩) 1 1)) (W.alloc (.cells t.L.toArray ty)) := by
  have e1 : (f1 == a) = false := by simp; omega
  have e2 : (f2 == a) = false := by simp; omega
  have e3 : (s == a) = false := by simp; omega
  have hb : Below W.heap.size W (W.alloc (.cells t.L.toArray ty)) := ba _ _
  refine ⟨h.O.trans (Only.of hb), h.P.trans (Only.of hb), Nat.le_trans h.sz hb.size, fun j h1 h2 hl => ?_, fun q => ⟨W.heap.size, by rw [QTail.upd_same], h.sz, Seg.new _ _ _⟩, ?_, ?_, ?_⟩
  · have e' : (j == a) = false := by simpa using h1
    rw [e', Bool.false_or] at hl
    rw [QTail.upd_other _ _ _ _ h1]
    exact h.val j h1 h2 hl
  · simp only [e1, e2, e3, Bool.false_or]
    exact h.ms.after hb
  · simp only [e2, e3, Bool.false_or]
    exact h.ord.1
  · simp only [e1, e2, Bool.false_or]
    exact h.ord.2
/-- one of the appends, or the store: a step that turns T, C, A alone -/
theorem AP.step (h : AP T C A N nm G0 G1 G2 o n0 n1 a f1 f2 s t V w W0 Wb L vs W) (i : Nat) (v : Value) (ha : i ≠ a) (hv : i ≠ s → v = V i) (hO : O3 T C A W W') (ht : T < Wb.heap.size ∧ C < Wb.heap.size ∧ A < Wb.heap.size)
    (hm : MS W' T C A N nm (if (f2 == i || L f2) = true then G2 else if (f1 == i || L f1) = true then G1 else G0) o (if (s == i || L s) = true then n1 else n0)) (h1 : (s == i || L s) = true → (f2 == i || L f2) = true) (h2 : (f2 == i || L f2) = true → (f1 == i || L f1) = true) : AP T C A N nm G0 G1 G2 o n0 n1 a f1 f2 s t V w W0 Wb (fun j => j == i || L j) (QTail.upd vs i v) W' := by
  have e4 : (a == i) = false := by simp; omega
  refine ⟨h.O.trans hO, h.P.trans hO, Nat.le_trans h.sz hO.size, fun j q1 q2 hl => ?_, fun q => ?_, hm, h1, h2⟩
  · by_cases e : j = i
    · subst e; rw [QTail.upd_same]; exact hv q2
    · have e' : (j == i) = false := by simpa using e
      rw [e', Bool.false_or] at hl
      rw [QTail.upd_other _ _ _ _ e]
      exact h.val j q1 q2 hl
  · simp only [e4, Bool.false_or] at q
    obtain ⟨b, b1, b2, b3⟩ := h.new q
    exact ⟨b, by rw [QTail.upd_other _ _ _ _ (by omega)]; exact b1, b2, b3.only hO (by rintro (q | q | q) <;> omega)⟩
end
end Go.Proofs.YtoblbakaemglbaaFmt
