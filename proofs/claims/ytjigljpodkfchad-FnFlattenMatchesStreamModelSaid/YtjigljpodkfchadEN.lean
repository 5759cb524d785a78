/- A region that draws its order: quiet operations, one that makes a new block, then the others in one forced order; one move may come late. -/
import Derived.Test.YtjigljpodkfchadED
import Derived.Test.YtjigljpodkfchadAn
set_option linter.unusedSimpArgs false
set_option linter.unusedVariables false
namespace Go.Proofs.Ytjigljpodkfchad.QTail
open Go.RowKit
section
variable {P : Program} {C : World → Prop}
theorem any_rel_tail {Q : Exit → Act → World → Prop} {a0 : Act} {w : World} {l : List Oper} (n : Nat) (R : Nat → Value → World → Prop)
    (h2 : (decide (n < l.length) && backB l n && Region.sinkB .any l.toArray n && Region.chainB .any l.toArray n && Region.seqB .any l.toArray (l.length - n) n (allListed n l.length) && dstsB (l.take n)) = true)
    (hR : ∀ i v w w', Below w.heap.size w w' → R i v w → R i v w')
    (hC : C w)
    (hop : ∀ i o, i < n → l[i]? = some o → ∀ vs w, C w → (∀ e ∈ o.after, Region.binds .any e = true → R e.on (vs e.on) w) →
      wpList P l.toArray (fun e a' w' => e = .normal ∧ ∃ v, a' = (putA (l.take n) 0 vs a0).put o.dst v ∧ R i v w' ∧ C w' ∧ Below w.heap.size w w') [o] (putA (l.take n) 0 vs a0) w)
    (hend : ∀ vs w, C w → (∀ i, i < n → R i (vs i) w) → wpList P l.toArray Q (l.drop n) (putA (l.take n) 0 vs a0) w) : wpAny P .any l.toArray Q l.length (Array.replicate l.length false) a0 w := by
  simp only [Bool.and_eq_true, decide_eq_true_eq] at h2
  obtain ⟨⟨⟨⟨⟨hn, hb⟩, hs⟩, hc⟩, hq⟩, hd⟩ := h2
  have inv0 : HeadInv .any l.toArray n (Array.replicate l.length false) :=
    ⟨by simp, fun j oj _ hl => (by rw [getD_replicate_false] at hl; cases hl), fun t _ ht => getD_in (by simpa using ht) (getD_replicate_false _ _)⟩
  have := inv_any (P := P) (C := C) (Q := Q) (a0 := a0) (R := R) hn hb hs hc hq hd hR hop hend n (Array.replicate l.length false)
    (fun j => match (l.take n)[j]? with | some o => (match o.dst with | some d => a0.tmps.getD d undef | none => undef) | none => undef) _ hC (by simp) (fun i hi hi2 => by simp [Array.getD, hi2]) inv0 (by rw [un_false _ _ (by omega)])
    (fun i _ hl => by rw [getD_replicate_false] at hl; cases hl)
  rw [putA_self _ _ _ _ (fun j o d ho hd => by rw [Nat.zero_add]; simp only [ho, hd])] at this
  rw [show n + (l.length - n) = l.length by omega] at this
  exact this
/-- the head's operations: each quiet one yields V k -/
def EachV (P : Program) (l0 hd : List Oper) (V : Nat → Value) (n : Nat) (cs : Array Value) (t : TypeId) (w : World) (a0 : Act) : Nat → List Oper → Prop
  | _, [] => True
  | k, o :: r => (∀ vs W, Below w.heap.size w W → (∀ e ∈ o.after, Region.binds .any e = true → e.on < n → vs e.on = V e.on) →
      wpList P l0.toArray (fun e a' w' => e = .normal ∧ a' = (putA hd 0 vs a0).put o.dst (if k = n then .slice (some ⟨W.heap.size, 0, none⟩) 1 1 else V k) ∧ (if k = n then w' = W.alloc (.cells cs t) else Below W.heap.size W w')) [o] (putA hd 0 vs a0) W) ∧ EachV P l0 hd V n cs t w a0 (k + 1) r
theorem EachV.get {l0 hd : List Oper} {V : Nat → Value} {n : Nat} {cs : Array Value} {t : TypeId} {w : World} {a0 : Act} : ∀ (l : List Oper) (k i : Nat) (o : Oper), EachV P l0 hd V n cs t w a0 k l → l[i]? = some o →
    ∀ vs W, Below w.heap.size w W → (∀ e ∈ o.after, Region.binds .any e = true → e.on < n → vs e.on = V e.on) →
      wpList P l0.toArray (fun e a' w' => e = .normal ∧ a' = (putA hd 0 vs a0).put o.dst (if k + i = n then .slice (some ⟨W.heap.size, 0, none⟩) 1 1 else V (k + i)) ∧ (if k + i = n then w' = W.alloc (.cells cs t) else Below W.heap.size W w')) [o] (putA hd 0 vs a0) W
  | [], _, i, _, _, h => by simp at h
  | o' :: r, k, 0, o, hE, h => by
    simp only [List.getElem?_cons_zero, Option.some.injEq] at h
    subst h
    exact hE.1
  | o' :: r, k, i + 1, o, hE, h => by
    have := EachV.get r (k + 1) i o hE.2 (by simpa using h)
    rw [show k + (i + 1) = k + 1 + i by omega]
    exact this
end
end Go.Proofs.Ytjigljpodkfchad.QTail
namespace Go.Proofs.Ytjigljpodkfchad
open Go.RowKit
open Go.Sort hiding Below
open QTail
/-- what one reads of the block b -/
def NewAt (W : World) (b : Nat) (cs : Array Value) (t : TypeId) : Prop := W.heap[b]? = some (.cells cs t)
theorem drawn_new_tail {P : Program} {id : Nat} {Q : Exit → Act → World → Prop} {a : Act} {w : World} {l : List Oper} (n i : Nat) (V : Nat → Value) (cs : Array Value) (t : TypeId) (hm : P.follows .mixedOrders = true)
    (h0 : (decide (i < n) && QTail.moveB l i && Region.noSelect l.toArray && Region.free .any l.toArray (Array.replicate l.length false) i) = true)
    (h2 : (decide (n + 1 < (QTail.more l (n + 1) i).length) && QTail.backB (QTail.more l (n + 1) i) (n + 1) && Region.sinkB .any (QTail.more l (n + 1) i).toArray (n + 1) && Region.chainB .any (QTail.more l (n + 1) i).toArray (n + 1) && Region.seqB .any (QTail.more l (n + 1) i).toArray ((QTail.more l (n + 1) i).length - (n + 1)) (n + 1) (QTail.allListed (n + 1) (QTail.more l (n + 1) i).length) && QTail.dstsB (l.take (n + 1))) = true)
    (hE : QTail.EachV P l (l.take (n + 1)) V n cs t w a 0 (l.take (n + 1)))
    (hend : ∀ Q' : Act → World → Prop, (∀ a w, Q .normal a w → Q' a w) → ∀ b W, Below w.heap.size w W → w.heap.size ≤ b → b < W.heap.size → NewAt W b cs t →
      wpList P l.toArray (fun e a w => e = .normal ∧ Q' a w) (l.drop (n + 1)) (QTail.putA (l.take (n + 1)) 0 (fun j => if j = n then .slice (some ⟨b, 0, none⟩) 1 1 else V j) a) W) : (Code.region id l.toArray true).wp P Q a w := by
  simp only [Bool.and_eq_true, decide_eq_true_eq] at h0
  obtain ⟨⟨⟨g0, g1⟩, g2⟩, g3⟩ := h0
  refine wp_region_any hm ?_
  have key := hend (Q .normal) (fun _ _ h => h)
  have hlen : n + 1 < l.length := by
    simp only [Bool.and_eq_true, decide_eq_true_eq, QTail.more_len] at h2
    omega
  obtain ⟨f, hf⟩ : ∃ f, l.length = f + 1 := ⟨l.length - 1, by omega⟩
  have key2 : wpAny P .any (QTail.more l (n + 1) i).toArray (fun e a w => e = .normal ∧ Q .normal a w) l.length (Array.replicate l.length false) a { w with drawn := w.drawn + 1 } := by
    have := QTail.any_rel_tail (P := P) (C := fun W => Below w.heap.size w W) (Q := fun e a w => e = .normal ∧ Q .normal a w) (a0 := a) (w := { w with drawn := w.drawn + 1 }) (l := QTail.more l (n + 1) i) (n + 1)
      (fun j v W => if j = n then ∃ b, v = .slice (some ⟨b, 0, none⟩) 1 1 ∧ w.heap.size ≤ b ∧ b < W.heap.size ∧ NewAt W b cs t else v = V j)
      (by rw [QTail.more_take]; exact h2)
      (fun j v W W' hb h => by
        by_cases c : j = n
        · simp only [if_pos c] at *
          obtain ⟨b, e, h1, h3, h4⟩ := h
          exact ⟨b, e, h1, Nat.lt_of_lt_of_le h3 hb.size, by unfold NewAt at *; rw [hb.block b h3]; exact h4⟩
        · simp only [if_neg c] at *; exact h)
      ⟨rfl, rfl, rfl, Nat.le_refl _, fun _ _ => rfl⟩
      (fun j o hj ho vs W hC hd => by
        have ho' : l[j]? = some o := by
          rw [QTail.more_get] at ho
          cases hl : l[j]? with
          | none => rw [hl] at ho; cases ho
          | some o' =>
            rw [hl] at ho
            simp only [Option.map_some, Option.some.injEq, if_neg (show ¬ j = n + 1 by omega)] at ho
            rw [ho]
        have htk : (l.take (n + 1))[j]? = some o := by rw [List.getElem?_take, if_pos hj]; exact ho'
        have := QTail.EachV.get _ 0 j o hE htk vs W hC (fun e he hb hlt => by
          have := hd e he hb
          rw [if_neg (by omega)] at this
          exact this)
        rw [QTail.more_take]
        refine QTail.wpList_more l (n + 1) i _ _ _ _ W (QTail.forall2_refl _) (QTail.wpList_cons_mono (fun e a' w' h => ?_) this)
        obtain ⟨e1, e2, e3⟩ := h
        rw [Nat.zero_add] at e2 e3
        refine ⟨e1, _, e2, ?_, ?_⟩
        · by_cases c : j = n
          · rw [if_pos c] at e3
            simp only [if_pos c]
            subst e3
            exact ⟨_, rfl, hC.size, by simp, by show (W.heap.push _)[W.heap.size]? = _; simp⟩
          · simp only [if_neg c]
        · by_cases c : j = n
          · rw [if_pos c] at e3
            subst e3
            exact ⟨hC.alloc hC.size _, (Below.refl _ _).alloc (Nat.le_refl _) _⟩
          · rw [if_neg c] at e3
            exact ⟨hC.trans (e3.mono hC.size), e3⟩)
      (fun vs W hC hv => by
        have hn := hv n (by omega)
        rw [if_pos rfl] at hn
        obtain ⟨b, e, h1, h3, h4⟩ := hn
        rw [QTail.more_take, QTail.putA_congr _ _ vs (fun j => if j = n then .slice (some ⟨b, 0, none⟩) 1 1 else V j) a (fun j hj1 hj2 => by
          have hjn : j < n + 1 := by
            have : (l.take (n + 1)).length = n + 1 := by rw [List.length_take]; omega
            omega
          have := hv j hjn
          by_cases c : j = n
          · simp only [if_pos c]; rw [c]; exact e
          · rw [if_neg c] at this; simp only [if_neg c]; exact this)]
        exact QTail.wpList_more l (n + 1) i _ _ _ _ W (QTail.forall2_drop _ _ _ (QTail.alkL_more l (n + 1) i)) (key b W hC h1 h3 h4))
    rw [QTail.more_len] at this
    exact this
  rw [hf] at key2
  have := QTail.move_first l (n + 1) i (Q .normal) f a { w with drawn := w.drawn + 1 } g1 (by omega) g2 (by exact g3) (by rw [hf]; exact key2)
  have e : l.toArray.size = f + 1 := by simp [hf]
  rw [e, ← hf]
  have mono : ∀ (fuel : Nat) (listed : Array Bool) (a : Act) (w : World), wpAny P .any l.toArray (fun e a w => e = .normal ∧ Q .normal a w) fuel listed a w → wpAny P .any l.toArray Q fuel listed a w := by
    intro fuel
    induction fuel with
    | zero => intro listed a w h; exact ⟨h.1, h.2.2⟩
    | succ fuel ih =>
      intro listed a w h
      refine ⟨fun h0 => (h.1 h0).2, fun j hj => ?_⟩
      have h1 := h.2 j hj
      unfold wpOp at *
      split at h1
      · exact ih _ _ _ h1
      · split at h1
        · rename_i hw
          rw [if_pos hw]
          rcases h1 with h1 | ⟨-, a, w, h1, -⟩
          · exact Or.inl (QTail.wp_normal (fun e a w h => h.1) (fun a w h => ih _ _ _ h) h1)
          · cases h1
        · rename_i hw
          rw [if_neg hw]
          exact ih _ _ _ h1
  rw [hf]
  rw [hf] at this
  exact mono _ _ _ _ this
/-- one element is appended that lies in a block of its own (drawn_new_tail): the slice's block is the same, or new -/
theorem app1g {P : Program} {W : World} {ops : Array Oper} {rest : List Oper} {o : Oper} {a : Act} {Q : Exit → Act → World → Prop} (s x : Operand) (t e base size bytes : Nat) (zc : Array Value) (cs : Array Value) (b : Nat) (v : Value) (n : Nat) (xs : List Value)
    (ho : o.op = .call { callee := .builtin .append, args := #[s, x], argTypes := #[t, t] }) (hgd : o.guard = none) (hs : a.eval s = v) (hx : a.eval x = .slice (some ⟨b, 0, none⟩) 1 1) (hnew : NewAt W b cs e)
    (ht : P.underlying t = some (.slice e)) (hinfo : (P.info? e).map (fun i => (i.zero.map (·.cells), i.size, i.bytes)) = some (some zc, size, bytes)) (hzc : zc.size = size) (hsz : 0 < size)
    (hown : W.ownsRow base e size v n xs) (hcs : cs.size = size) (h1 : cs.all (·.oneCell') = true) (hn : n ≤ 1048576) (hby : bytes ≤ 100000000) (hbase : base ≤ W.heap.size)
    (h : ∀ v' w', w'.ownsRow base e size v' (n + 1) (xs ++ cs.toList) → Kp (fun b => v.ownBlock = some b) W w' → (∀ k, v'.ownBlock = some k → v.ownBlock = some k ∨ W.heap.size ≤ k) → wpList P ops Q rest (a.put o.dst v') w') : wpList P ops Q (o :: rest) a W := by
  cases hi : P.info? e with
  | none => rw [hi] at hinfo; cases hinfo
  | some i =>
    rw [hi] at hinfo
    simp only [Option.map_some, Option.some.injEq, Prod.mk.injEq] at hinfo
    obtain ⟨g1, g2, g3⟩ := hinfo
    cases hz : i.zero with
    | none => rw [hz] at g1; cases g1
    | some z =>
      rw [hz] at g1
      simp only [Option.map_some, Option.some.injEq] at g1
      have hm : (n + 1) * bytes ≤ 1048577 * 100000000 := Nat.mul_le_mul (by omega) hby
      refine wpList_append_own_n (P := P) W hgd s x t ho base e i z size bytes ht hi hz g2 g3 (by rw [g1]; exact hzc) hsz v n xs hs hown ⟨b, 0, none⟩ 1 1 cs.toList hx (by simp [hcs]) ?_ ?_ (by unfold maxLen; omega) (by omega) hbase ?_
      · intro j u hu
        have hadd : (⟨b, 0, none⟩ : Addr).add j = ⟨b, j, none⟩ := by unfold Addr.add; split <;> simp_all
        rw [hadd]
        obtain ⟨hj, hj'⟩ := List.getElem?_eq_some_iff.1 hu
        simp at hj hj'
        unfold NewAt at hnew
        simp [World.cell?, hnew, hj, hj']
      · intro u hu
        rw [Array.all_eq_true'] at h1
        exact h1 u (by simpa using hu)
      · intro v' w' h2 h3 h4
        exact h v' w' h2 (Kp.grown h3) h4
end Go.Proofs.Ytjigljpodkfchad
