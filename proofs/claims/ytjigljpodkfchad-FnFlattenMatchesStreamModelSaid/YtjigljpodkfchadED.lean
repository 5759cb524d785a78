/- A region that draws its order, in which a move need not wait: it may be thought to come first. -/
import Derived.Test.YtjigljpodkfchadST
import Derived.StillTail
set_option linter.unusedSimpArgs false
set_option linter.unusedVariables false
namespace Go.Proofs.Ytjigljpodkfchad.QTail
open Go.RowKit
section
variable {P : Program}
/-- the operation k also waits for i -/
def more (l : List Oper) (k : Nat) (i : Nat) : List Oper := l.modify k (fun o => { o with after := o.after.push ⟨i, .data⟩ })
theorem more_len (l : List Oper) (k i : Nat) : (more l k i).length = l.length := by simp [more]
theorem more_get (l : List Oper) (k i j : Nat) : (more l k i)[j]? = (l[j]?).map (fun o => if j = k then { o with after := o.after.push ⟨i, .data⟩ } else o) := by
  unfold more
  rw [List.getElem?_modify]
  by_cases h : k = j
  · subst h; simp
  · simp [h, Ne.symm h]
theorem more_take (l : List Oper) (k i : Nat) : (more l k i).take k = l.take k := by
  apply List.ext_getElem?
  intro j
  rw [List.getElem?_take, List.getElem?_take]
  split
  · rename_i hj
    rw [more_get]
    have : ¬ j = k := by omega
    simp [this]
  · rfl
theorem more_yielded (l : List Oper) (k i : Nat) (t : Array Value) : yielded (more l k i).toArray t = yielded l.toArray t := by
  funext j
  unfold yielded
  have : ((more l k i).toArray[j]?).bind (·.dst) = ((l.toArray)[j]?).bind (·.dst) := by
    simp only [List.getElem?_toArray]
    rw [more_get]
    cases l[j]? with
    | none => rfl
    | some o => by_cases h : j = k <;> simp [h]
  rw [this]
/-- o and o' part in their edges alone -/
def Alk (o o' : Oper) : Prop := o.dst = o'.dst ∧ o.op = o'.op ∧ o.type = o'.type ∧ o.pos = o'.pos ∧ o.guard = o'.guard
theorem Alk.wp {o o' : Oper} (h : Alk o o') (a : Act) (w : World) (K : Act → World → Prop) (Q : Exit → Act → World → Prop) : o.wp P a w K Q = o'.wp P a w K Q := by
  obtain ⟨d, p, t, s, f, g⟩ := o
  obtain ⟨d', p', t', s', f', g'⟩ := o'
  obtain ⟨h1, h2, h3, h4, h5⟩ := h
  simp only at h1 h2 h3 h4 h5
  subst h1 h2 h3 h4 h5
  have e : execOp a.eval ⟨d, p, t, s, f, g⟩ = execOp a.eval ⟨d, p, t, s, f', g⟩ := by cases p <;> rfl
  unfold Oper.wp
  rw [e]
  generalize (execOp a.eval _).run P w = r
  cases r with
  | ok n w' => cases n <;> rfl
  | halt x w' => cases x <;> rfl
theorem Alk.asks {o o' : Oper} (h : Alk o o') (a : Act) (w : World) : o.asks P a w = o'.asks P a w := by
  obtain ⟨d, p, t, s, f, g⟩ := o
  obtain ⟨d', p', t', s', f', g'⟩ := o'
  obtain ⟨h1, h2, h3, h4, h5⟩ := h
  simp only at h1 h2 h3 h4 h5
  subst h1 h2 h3 h4 h5
  have e : execOp a.eval ⟨d, p, t, s, f, g⟩ = execOp a.eval ⟨d, p, t, s, f', g⟩ := by cases p <;> rfl
  unfold Oper.asks
  rw [e]
theorem Alk.wanted {o o' : Oper} (h : Alk o o') (y : Nat → Option Bool) : Region.wanted o y = Region.wanted o' y := by
  unfold Region.wanted; rw [h.2.2.2.2]
theorem alk_more (l : List Oper) (k i j : Nat) (o : Oper) (h : (more l k i)[j]? = some o) : ∃ o', l[j]? = some o' ∧ Alk o o' ∧ (o.after = o'.after ∨ (j = k ∧ o.after = o'.after.push ⟨i, .data⟩)) := by
  rw [more_get] at h
  cases ho : l[j]? with
  | none => rw [ho] at h; cases h
  | some o' =>
    rw [ho] at h
    simp only [Option.map_some, Option.some.injEq] at h
    by_cases hj : j = k
    · rw [if_pos hj] at h; subst h; exact ⟨o', rfl, ⟨rfl, rfl, rfl, rfl, rfl⟩, .inr ⟨hj, rfl⟩⟩
    · rw [if_neg hj] at h; subst h; exact ⟨_, rfl, ⟨rfl, rfl, rfl, rfl, rfl⟩, .inl rfl⟩
theorem more_wpOp (l : List Oper) (k i j : Nat) (Q : Exit → Act → World → Prop) (K : Act → World → Prop) (a : Act) (w : World) : wpOp P (more l k i).toArray Q j K a w ↔ wpOp P l.toArray Q j K a w := by
  unfold wpOp
  simp only [List.getElem?_toArray]
  cases ho : (more l k i)[j]? with
  | none =>
    rw [more_get] at ho
    have : l[j]? = none := by simpa using ho
    rw [this]
  | some o =>
    obtain ⟨o', h1, h2, -⟩ := alk_more l k i j o ho
    rw [h1]
    simp only [more_yielded, h2.wanted, h2.wp, h2.asks, h2.1]
theorem more_ready (l : List Oper) (k i : Nat) (listed : Array Bool) (h : listed.getD i false = true) : Region.ready .any (more l k i).toArray listed = Region.ready .any l.toArray listed := by
  unfold Region.ready
  simp only [List.size_toArray, more_len]
  apply List.filter_congr
  intro j _
  congr 1
  simp only [List.getElem?_toArray]
  rw [more_get]
  cases l[j]? with
  | none => rfl
  | some o =>
    by_cases hj : j = k
    · subst hj
      simp only [if_true, Option.map_some, Option.getD_some]
      rw [Array.all_push]
      simp [h]
    · simp [hj]
theorem more_any (l : List Oper) (k i : Nat) (Q : Exit → Act → World → Prop) : ∀ (fuel : Nat) (listed : Array Bool) (a : Act) (w : World), listed.getD i false = true → wpAny P .any (more l k i).toArray Q fuel listed a w → wpAny P .any l.toArray Q fuel listed a w
  | 0, listed, a, w, hi, h => by unfold wpAny at *; rw [more_ready l k i listed hi] at h; exact h
  | fuel + 1, listed, a, w, hi, h => by
    unfold wpAny at *
    rw [more_ready l k i listed hi] at h
    refine ⟨h.1, fun j hj => ?_⟩
    have := (more_wpOp l k i j Q _ a w).1 (h.2 j hj)
    exact wpOp_mono (fun a' w' h' => more_any l k i Q fuel _ a' w' (getD_set_true hi) h') this
/-- the operation i is a move of a slot -/
def moveB (l : List Oper) (i : Nat) : Bool := match l[i]? with
  | some o => (match o.op with | .move _ => true | _ => false) && o.guard.isNone && o.after.isEmpty
  | none => false
theorem move_first (l : List Oper) (k i : Nat) (Q : Act → World → Prop) (fuel : Nat) (a : Act) (w : World) (hmv : moveB l i = true) (hik : i ≠ k) (hs : Region.noSelect l.toArray = true) (hf : Region.free .any l.toArray (Array.replicate l.length false) i = true)
    (h : wpAny P .any (more l k i).toArray (fun e a w => e = .normal ∧ Q a w) (fuel + 1) (Array.replicate l.length false) a w) : wpAny P .any l.toArray (fun e a w => e = .normal ∧ Q a w) (fuel + 1) (Array.replicate l.length false) a w := by
  unfold moveB at hmv
  cases ho : l[i]? with
  | none => rw [ho] at hmv; cases hmv
  | some o =>
    rw [ho] at hmv
    simp only [Bool.and_eq_true] at hmv
    obtain ⟨⟨h1, h2⟩, h3⟩ := hmv
    have hlt : i < l.length := (List.getElem?_eq_some_iff.1 ho).1
    cases hop : o.op with
    | move s =>
      have hy : ∀ (w : World), (execOp a.eval o).run P w = .ok (.value (a.eval s)) w := fun w => by
        obtain ⟨d, p, t, q, f, g⟩ := o
        simp only at hop
        subst hop
        simp [execOp, Sem.run_pure]
      have hwt : ∀ y, Region.wanted o y = true := fun y => by
        unfold Region.wanted
        simp only [Option.isNone_iff_eq_none] at h2
        rw [h2]
      have hr : i ∈ Region.ready .any (more l k i).toArray (Array.replicate l.length false) := by
        rw [mem_ready]
        refine ⟨by simp [Array.getD, hlt], o, by simp [more_get, ho, hik], fun e he => ?_⟩
        have : o.after = #[] := by simpa using h3
        rw [this] at he; simp at he
      have hr' : i ∈ Region.ready .any l.toArray (Array.replicate l.length false) := by
        rw [mem_ready]
        refine ⟨by simp [Array.getD, hlt], o, by simp [ho], fun e he => ?_⟩
        have : o.after = #[] := by simpa using h3
        rw [this] at he; simp at he
      have hK := (more_wpOp l k i i _ _ a w).1 (h.2 i hr)
      unfold wpOp at hK
      simp only [List.getElem?_toArray, ho, hwt, if_true, Oper.wp, hy, Oper.upon] at hK
      have hK' : wpAny P .any (more l k i).toArray (fun e a w => e = .normal ∧ Q a w) fuel ((Array.replicate l.length false).setIfInBounds i true) (a.put o.dst (a.eval s)) w := by
        rcases hK with hK | ⟨-, a', w', hK, -⟩
        · exact hK
        · cases hK
      refine wpAny_first (oi := o) (v := a.eval s) (by simp [ho]) (Region.noSelect_spec hs) (fun c a w h => by cases h.1) fuel _ a w (Region.free_spec (by simp [ho]) hf) hr' (.inl ⟨hwt _, hy⟩) ?_
      exact more_any l k i _ fuel _ _ w (by simp [Array.getD, hlt]) hK'
    | _ => rw [hop] at h1; simp at h1
inductive AlkL : List Oper → List Oper → Prop
  | nil : AlkL [] []
  | cons {o o' : Oper} {m m' : List Oper} (h : Alk o o') (t : AlkL m m') : AlkL (o :: m) (o' :: m')
theorem wpList_more (l : List Oper) (k i : Nat) (Q : Exit → Act → World → Prop) : ∀ (m m' : List Oper) (a : Act) (w : World), AlkL m m' → wpList P l.toArray Q m' a w → wpList P (more l k i).toArray Q m a w := by
  intro m m' a w hf h
  induction hf generalizing a w with
  | nil => unfold wpList at *; exact h
  | @cons o o' m m' h1 h2 ih =>
    unfold wpList
    unfold wpList at h
    simp only [more_yielded, h1.wanted, h1.wp, h1.asks, h1.1]
    by_cases c : Region.wanted o' (yielded l.toArray a.tmps) = true
    · rw [if_pos c] at *
      exact h.imp (fun h => Oper.wp_mono (fun a w h => ih a w h) h) id
    · rw [if_neg c] at *
      exact ih _ w h
theorem alk_refl (o : Oper) : Alk o o := ⟨rfl, rfl, rfl, rfl, rfl⟩
theorem forall2_refl : ∀ m : List Oper, AlkL m m
  | [] => .nil
  | o :: m => .cons (alk_refl o) (forall2_refl m)
theorem forall2_modify (f : Oper → Oper) (hf : ∀ o, Alk (f o) o) : ∀ (m : List Oper) (k : Nat), AlkL (m.modify k f) m
  | [], k => by rw [List.modify_nil]; exact .nil
  | o :: m, 0 => by simp only [List.modify_zero_cons]; exact .cons (hf o) (forall2_refl m)
  | o :: m, k + 1 => by simp only [List.modify_succ_cons]; exact .cons (alk_refl o) (forall2_modify f hf m k)
theorem forall2_drop : ∀ (n : Nat) (m m' : List Oper), AlkL m m' → AlkL (m.drop n) (m'.drop n)
  | 0, m, m', h => by simpa using h
  | n + 1, m, m', h => by
    cases h with
    | nil => exact .nil
    | cons h1 h2 => simpa using forall2_drop n _ _ h2
theorem alkL_more (l : List Oper) (k i : Nat) : AlkL (more l k i) l := forall2_modify (fun o => { o with after := o.after.push ⟨i, .data⟩ }) (fun o => ⟨rfl, rfl, rfl, rfl, rfl⟩) l k
variable {C : World → Prop}
theorem any_quiet_tail {Q : Exit → Act → World → Prop} {a : Act} {w : World} {l : List Oper} (n : Nat)
    (h1 : Region.lexB .any (l.take n).toArray = true)
    (h2 : (decide (n < l.length) && backB l n && Region.sinkB .any l.toArray n && Region.chainB .any l.toArray n && Region.seqB .any l.toArray (l.length - n) n (allListed n l.length)) = true)
    (hC : C w)
    (h : wpQuiet P (l.take n).toArray C (fun a' => ∀ w', C w' → wpList P l.toArray Q (l.drop n) a' w') (l.take n) a) : wpAny P .any l.toArray Q l.length (Array.replicate l.length false) a w := by
  simp only [Bool.and_eq_true, decide_eq_true_eq] at h2
  obtain ⟨⟨⟨⟨hn, hb⟩, hs⟩, hc⟩, hq⟩ := h2
  simp only [Region.lexB, Bool.and_eq_true] at h1
  have hl : (l.take n).length = n := by simp; omega
  have H := wpAnyQ_lex (C := C) (md := .any) h1.1 (l.take n) 0 (Array.replicate (l.take n).toArray.size false) a (by simp) (by simpa using h1.2) h
  rw [hl] at H
  have inv0 : HeadInv .any l.toArray n (Array.replicate l.length false) :=
    ⟨by simp, fun j oj _ hl => (by rw [getD_replicate_false] at hl; cases hl), fun t _ ht => getD_in (by simpa using ht) (getD_replicate_false _ _)⟩
  have := head_any (P := P) (C := C) (Q := Q) hn hb hs hc hq n _ (Array.replicate l.length false) a _ hC
    ⟨by simp; omega, by simp, fun i hi => by simp [Array.getD, show i < l.length by omega]; omega, fun i hi hi2 => by simp [Array.getD, hi2]⟩ inv0 (by rw [un_false _ _ (by omega)]) H
  rw [show n + (l.length - n) = l.length by omega] at this
  exact this
end
end Go.Proofs.Ytjigljpodkfchad.QTail
namespace Go.Proofs.Ytjigljpodkfchad
open Go.RowKit
open Go.Sort hiding Below
/-- a region that draws its order: n quiet operations, then the others in one forced order, but that the move i need not be over when they begin -/
theorem drawn_tail_m {P : Program} {id : Nat} {Q : Exit → Act → World → Prop} {a : Act} {w : World} {l : List Oper} (n i : Nat) (hm : P.follows .mixedOrders = true)
    (h0 : (decide (i < n) && QTail.moveB l i && Region.noSelect l.toArray && Region.free .any l.toArray (Array.replicate l.length false) i) = true)
    (h1 : Region.lexB .any (l.take n).toArray = true)
    (h2 : (decide (n < (QTail.more l n i).length) && QTail.backB (QTail.more l n i) n && Region.sinkB .any (QTail.more l n i).toArray n && Region.chainB .any (QTail.more l n i).toArray n && Region.seqB .any (QTail.more l n i).toArray ((QTail.more l n i).length - n) n (QTail.allListed n (QTail.more l n i).length)) = true)
    (h : ∀ Q' : Act → World → Prop, (∀ a w, Q .normal a w → Q' a w) → wpQuiet P (l.take n).toArray (fun w' => ∃ p : Regrown, w' = grow (redrawn w p.d) p.os) (fun a' => ∀ w', (∃ p : Regrown, w' = grow (redrawn w p.d) p.os) → wpList P l.toArray (fun e a w => e = .normal ∧ Q' a w) (l.drop n) a' w') (l.take n) a) : (Code.region id l.toArray true).wp P Q a w := by
  simp only [Bool.and_eq_true, decide_eq_true_eq] at h0
  obtain ⟨⟨⟨g0, g1⟩, g2⟩, g3⟩ := h0
  refine wp_region_any hm ?_
  have key := h (Q .normal) (fun _ _ h => h)
  have hlen : 0 < l.length := by
    simp only [Bool.and_eq_true, decide_eq_true_eq, QTail.more_len] at h2
    omega
  obtain ⟨f, hf⟩ : ∃ f, l.length = f + 1 := ⟨l.length - 1, by omega⟩
  have key2 : wpAny P .any (QTail.more l n i).toArray (fun e a w => e = .normal ∧ Q .normal a w) l.length (Array.replicate l.length false) a { w with drawn := w.drawn + 1 } := by
    have := QTail.any_quiet_tail (P := P) (C := fun w' => ∃ p : Regrown, w' = grow (redrawn w p.d) p.os) (Q := fun e a w => e = .normal ∧ Q .normal a w) (a := a) (w := { w with drawn := w.drawn + 1 }) (l := QTail.more l n i) n (by rw [QTail.more_take]; exact h1) h2 ⟨⟨w.drawn + 1, #[]⟩, by rw [grow_empty]; rfl⟩ (by
      rw [QTail.more_take]
      revert key
      generalize l.take n = m
      intro key
      exact wpQuiet_mono' m a (fun a' h' w' hw' => QTail.wpList_more l n i _ _ _ a' w' (QTail.forall2_drop n _ _ (QTail.alkL_more l n i)) (h' w' hw')) key)
    rw [QTail.more_len] at this
    exact this
  rw [hf] at key2
  have := QTail.move_first l n i (Q .normal) f a { w with drawn := w.drawn + 1 } g1 (by omega) g2 (by exact g3) (by rw [hf]; exact key2)
  have e : l.toArray.size = f + 1 := by simp [hf]
  rw [e, ← hf]
  have mono : ∀ (fuel : Nat) (listed : Array Bool) (a : Act) (w : World), wpAny P .any l.toArray (fun e a w => e = .normal ∧ Q .normal a w) fuel listed a w → wpAny P .any l.toArray Q fuel listed a w := by
    intro fuel
    induction fuel with
    | zero => intro listed a w h; exact ⟨h.1, h.2.2⟩
    | succ fuel ih =>
      intro listed a w h
      refine ⟨fun h0 => (h.1 h0).2, fun j hj => ?_⟩
      have h1 := h.2 j hj
      unfold wpOp at *
      split at h1
      · exact ih _ _ _ h1
      · split at h1
        · rename_i hw
          rw [if_pos hw]
          rcases h1 with h1 | ⟨-, a, w, h1, -⟩
          · exact Or.inl (QTail.wp_normal (fun e a w h => h.1) (fun a w h => ih _ _ _ h) h1)
          · cases h1
        · rename_i hw
          rw [if_neg hw]
          exact ih _ _ _ h1
  rw [hf]
  rw [hf] at this
  exact mono _ _ _ _ this
end Go.Proofs.Ytjigljpodkfchad
