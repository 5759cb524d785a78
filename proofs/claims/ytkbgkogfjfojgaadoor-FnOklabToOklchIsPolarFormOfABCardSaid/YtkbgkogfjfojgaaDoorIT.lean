/- A law on regions that draw their order of evaluation: each of the first operations establishes a relation of its own on the value that it yields, whatever the order; the last ones come behind all of them in one forced order. -/
import Derived.Test.YtkbgkogfjfojgaaDoorQT
import Derived.Below
namespace Go.Proofs.YtkbgkogfjfojgaaDoor.QTail
open Go.RowKit
set_option linter.unusedSimpArgs false
section
variable {P : Program} {md : Region.Mode} {C : World → Prop}
/-- the places of all the head's operations filled -/
def putA : List Oper → Nat → (Nat → Value) → Act → Act
  | [], _, _, a => a
  | o :: r, k, vs, a => putA r (k + 1) vs (a.put o.dst (vs k))
theorem put_comm (a : Act) {d d' : Tmp} (h : d ≠ d') (v v' : Value) : (a.put (some d) v).put (some d') v' = (a.put (some d') v').put (some d) v := by
  unfold Act.put
  simp only
  rw [Array.setIfInBounds_comm _ _ h]
theorem put_put (a : Act) (d : Tmp) (v v' : Value) : (a.put (some d) v).put (some d) v' = a.put (some d) v' := by
  unfold Act.put
  simp
def dstsB (hs : List Oper) : Bool := hs.all (fun o => o.dst.isSome && o.guard.isNone) && decide ((hs.map (·.dst)).Nodup)
theorem putA_pass : ∀ (hs : List Oper) (k : Nat) (vs : Nat → Value) (a : Act) (d : Tmp) (v : Value), (∀ o ∈ hs, ∃ d', o.dst = some d' ∧ d' ≠ d) → (putA hs k vs a).put (some d) v = putA hs k vs (a.put (some d) v)
  | [], _, _, _, _, _, _ => rfl
  | o :: r, k, vs, a, d, v, h => by
    obtain ⟨d', e, hd⟩ := h o (by simp)
    unfold putA
    rw [putA_pass r (k + 1) vs _ d v (fun o ho => h o (by simp [ho])), e, put_comm _ hd]
theorem putA_congr : ∀ (hs : List Oper) (k : Nat) (vs vs' : Nat → Value) (a : Act), (∀ i, k ≤ i → i < k + hs.length → vs i = vs' i) → putA hs k vs a = putA hs k vs' a
  | [], _, _, _, _, _ => rfl
  | o :: r, k, vs, vs', a, h => by
    unfold putA
    rw [h k (Nat.le_refl _) (by simp), putA_congr r (k + 1) vs vs' _ (fun i h1 h2 => h i (by omega) (by simp; omega))]
def upd (vs : Nat → Value) (i : Nat) (v : Value) : Nat → Value := fun j => if j = i then v else vs j
theorem putA_put : ∀ (hs : List Oper) (k : Nat) (vs : Nat → Value) (a : Act) (j : Nat) (o : Oper) (v : Value), dstsB hs = true → hs[j]? = some o → (putA hs k vs a).put o.dst v = putA hs k (upd vs (k + j) v) a
  | [], _, _, _, j, _, _, _, h => by simp at h
  | o' :: r, k, vs, a, j, o, v, hB, h => by
    have hB' := hB
    simp only [dstsB, List.all_cons, Bool.and_eq_true, decide_eq_true_eq, List.map_cons, List.nodup_cons, List.mem_map, not_exists, not_and] at hB
    obtain ⟨⟨⟨h1, h2⟩, h3⟩, h4, h5⟩ := hB
    have hBr : dstsB r = true := by
      simp only [dstsB, Bool.and_eq_true, decide_eq_true_eq]; exact ⟨h3, h5⟩
    cases j with
    | zero =>
      simp only [List.getElem?_cons_zero, Option.some.injEq] at h
      subst h
      obtain ⟨d, hd⟩ := Option.isSome_iff_exists.1 h1
      unfold putA
      rw [hd, putA_pass r (k + 1) vs _ d v, put_put]
      · rw [show upd vs (k + 0) v k = v by simp [upd]]
        exact putA_congr r (k + 1) vs _ _ (fun i h1 _ => by simp [upd]; omega)
      · intro o ho
        have := List.all_eq_true.1 h3 o ho
        simp only [Bool.and_eq_true] at this
        obtain ⟨d', hd'⟩ := Option.isSome_iff_exists.1 this.1
        refine ⟨d', hd', fun e => ?_⟩
        subst e
        exact h4 o ho (by rw [hd, hd'])
    | succ j =>
      simp only [List.getElem?_cons_succ] at h
      unfold putA
      rw [putA_put r (k + 1) vs _ j o v hBr h, show upd vs (k + (j + 1)) v k = vs k by simp [upd], show k + 1 + j = k + (j + 1) by omega]
theorem putA_self : ∀ (hs : List Oper) (k : Nat) (vs : Nat → Value) (a : Act), (∀ j o d, hs[j]? = some o → o.dst = some d → vs (k + j) = a.tmps.getD d undef) → putA hs k vs a = a
  | [], _, _, _, _ => rfl
  | o :: r, k, vs, a, h => by
    unfold putA
    have e : a.put o.dst (vs k) = a := by
      cases hd : o.dst with
      | none => rfl
      | some d =>
        have := h 0 o d rfl hd
        rw [Nat.add_zero] at this
        unfold Act.put
        simp only
        rw [this]
        have : a.tmps.setIfInBounds d (a.tmps.getD d undef) = a.tmps := by
          apply Array.ext
          · simp
          · intro i h1 h2
            rw [Array.getElem_setIfInBounds]
            split
            · rename_i e; subst e; simp [Array.getD, h2]
            · rfl
        rw [this]
    rw [e]
    exact putA_self r (k + 1) vs a (fun j o d ho hd => by
      have := h (j + 1) o d ho hd
      rw [show k + 1 + j = k + (j + 1) by omega]; exact this)
/-- an operation that yields a value, and no panic -/
theorem wp_normal {o : Oper} {a : Act} {w : World} {K K' : Act → World → Prop} {Q Q' : Exit → Act → World → Prop} (hQ : ∀ e a w, Q' e a w → e = .normal) (h : ∀ a w, K a w → K' a w)
    (hh : o.wp P a w K Q') : o.wp P a w K' Q := by
  have noOut : ¬ LetsOut Q' := fun ⟨a, w, h⟩ => by have := hQ _ _ _ h; cases this
  unfold Oper.wp at *
  generalize (execOp a.eval o).run P w = r at *
  unfold Oper.upon at *
  split at hh
  · exact h _ _ hh
  · exact h _ _ hh
  · exact h _ _ hh
  · refine Calls.mono hh ?_
    intro e w'' he
    cases e with
    | returned v => exact h _ _ he
    | panicked c => have := hQ _ _ _ he; cases this
    | outgrown => exact (noOut he).elim
  · exact Rows.mono hh (fun v w h' => h _ _ h')
  · have := hQ _ _ _ hh; cases this
  · exact hh.elim
/-- .. from the walk of one operation -/
theorem wpOp_of_list {ops : Array Oper} {Q : Exit → Act → World → Prop} {i : Nat} {o : Oper} {a : Act} {w : World} {K : Act → World → Prop} (ho : ops[i]? = some o)
    (h : wpList P ops (fun e a' w' => e = .normal ∧ K a' w') [o] a w) : wpOp P ops Q i K a w := by
  unfold wpOp
  rw [ho]
  simp only
  unfold wpList at h
  split
  · rename_i c
    rw [if_pos c] at h
    rcases h with h | ⟨-, a, w, h, -⟩
    · exact Or.inl (wp_normal (fun e a w h => h.1) (fun a w h => h.2) h)
    · cases h
  · rename_i c
    rw [if_neg c] at h
    exact h.2
theorem inv_any {l : List Oper} {n : Nat} {Q : Exit → Act → World → Prop} {a0 : Act} {R : Nat → Value → World → Prop} (hn : n < l.length) (hb : backB l n = true) (hs : Region.sinkB md l.toArray n = true) (hc : Region.chainB md l.toArray n = true)
    (hq : Region.seqB md l.toArray (l.length - n) n (allListed n l.length) = true) (hd : dstsB (l.take n) = true)
    (hR : ∀ i v w w', Below w.heap.size w w' → R i v w → R i v w')
    (hop : ∀ i o, i < n → l[i]? = some o → ∀ vs w, C w → (∀ e ∈ o.after, Region.binds md e = true → R e.on (vs e.on) w) →
      wpList P l.toArray (fun e a' w' => e = .normal ∧ ∃ v, a' = (putA (l.take n) 0 vs a0).put o.dst v ∧ R i v w' ∧ C w' ∧ Below w.heap.size w w') [o] (putA (l.take n) 0 vs a0) w)
    (hend : ∀ vs w, C w → (∀ i, i < n → R i (vs i) w) → wpList P l.toArray Q (l.drop n) (putA (l.take n) 0 vs a0) w) :
    ∀ (f : Nat) (listed : Array Bool) (vs : Nat → Value) (w : World), C w → listed.size = l.length → (∀ i, n ≤ i → i < l.length → listed.getD i true = false) → HeadInv md l.toArray n listed → un listed n = f →
      (∀ i, i < n → listed.getD i false = true → R i (vs i) w) → wpAny P md l.toArray Q (f + (l.length - n)) listed (putA (l.take n) 0 vs a0) w
  | 0, listed, vs, w, hw, hsz, ht, inv, hu, hv => by
    have e : listed = allListed n l.length := by
      apply Array.ext
      · rw [hsz]; simp [allListed]; omega
      · intro i h1 h2
        have z := un_zero hu i
        by_cases c : i < n
        · have := z c
          simp [Array.getD, h1] at this
          rw [this]; simp [allListed, Array.getElem_append, c]
        · have := ht i (by omega) (by rw [hsz] at h1; exact h1)
          simp [Array.getD, h1] at this
          rw [this]; simp [allListed, Array.getElem_append, c]
    have hdr : (l.drop n).length = l.length - n := by simp
    have := wpAny_of_seq (md := md) (Q' := Q) (l.drop n) n listed (putA (l.take n) 0 vs a0) w (fun j => by simp [List.getElem?_drop]) (by rw [hdr, e]; exact hq)
      (hend vs w hw (fun i hi => hv i hi (by rw [e]; simp [allListed, Array.getD, Array.getElem_append, hi, show i < n + (l.length - n) by omega])))
    rw [hdr] at this
    rw [Nat.zero_add]; exact this
  | f + 1, listed, vs, w, hw, hsz, ht, inv, hu, hv => by
    rw [show f + 1 + (l.length - n) = (f + (l.length - n)) + 1 by omega]
    obtain ⟨i0, hi0, hf0, hmin⟩ := un_pos (listed := listed) (k := n) (by omega)
    have hr0 : i0 ∈ Region.ready md l.toArray listed := by
      rw [mem_ready]
      refine ⟨hf0, l[i0], by simp, fun e he _ => ?_⟩
      have he' := backB_edge hb hi0 (by simp) e he
      have := hmin e.on he'
      have hsz : e.on < listed.size := by omega
      simpa [Array.getD, hsz] using this
    refine ⟨fun h0 => (by rw [h0] at hr0; cases hr0), fun i hi => ?_⟩
    have hin : i < n := by
      rcases Nat.lt_or_ge i n with c | c
      · exact c
      · exact absurd hi (tail_waits hs hc (by simpa using hn) inv (n - i0) i0 rfl hi0 hf0 i c)
    have hil : i < listed.size := by omega
    have hfi := (mem_ready.1 hi).1
    obtain ⟨-, o, ho, hdep⟩ := mem_ready.1 hi
    have ho' : l[i]? = some o := by simpa using ho
    have key := hop i o hin ho' vs w hw (fun e he hbi => hv e.on (Nat.lt_trans (backB_edge hb hin ho' e he) hin) (hdep e he hbi))
    refine wpOp_mono ?_ (wpOp_of_list (Q := Q) ho key)
    rintro a' w' ⟨v, rfl, hRv, hCw, hB⟩
    have htk : (l.take n)[i]? = some o := by rw [List.getElem?_take, if_pos hin]; exact ho'
    rw [putA_put (l.take n) 0 vs a0 i o v hd htk, Nat.zero_add]
    refine inv_any hn hb hs hc hq hd hR hop hend f _ (upd vs i v) w' hCw (by simp [hsz]) (fun j h1 h2 => ?_) (inv.set hi hin) (by have := un_set listed i hil hfi n hin; omega) (fun j hj hl => ?_)
    · rw [gset _ _ _ _ hil, if_neg (by omega)]; exact ht j h1 h2
    · unfold upd
      by_cases c : j = i
      · subst c; rw [if_pos rfl]; exact hRv
      · rw [if_neg c]
        rw [gset _ _ _ _ hil, if_neg (fun h => c h.symm)] at hl
        exact hR _ _ _ _ hB (hv j hj hl)
/-- A REGION THAT DRAWS ITS ORDER: each of its first n operations yields a value in a relation of its own, whatever the order; the others in one forced order behind all of them. -/
theorem wp_region_rel_tail {id : Nat} {Q : Exit → Act → World → Prop} {a0 : Act} {w : World} {l : List Oper} (n : Nat) (R : Nat → Value → World → Prop) (C : World → Prop) (hm : P.follows .mixedOrders = true)
    (h2 : (decide (n < l.length) && backB l n && Region.sinkB .any l.toArray n && Region.chainB .any l.toArray n && Region.seqB .any l.toArray (l.length - n) n (allListed n l.length) && dstsB (l.take n)) = true)
    (hR : ∀ i v w w', Below w.heap.size w w' → R i v w → R i v w')
    (hC : C { w with drawn := w.drawn + 1 })
    (hop : ∀ i o, i < n → l[i]? = some o → ∀ vs w, C w → (∀ e ∈ o.after, Region.binds .any e = true → R e.on (vs e.on) w) →
      wpList P l.toArray (fun e a' w' => e = .normal ∧ ∃ v, a' = (putA (l.take n) 0 vs a0).put o.dst v ∧ R i v w' ∧ C w' ∧ Below w.heap.size w w') [o] (putA (l.take n) 0 vs a0) w)
    (hend : ∀ vs w, C w → (∀ i, i < n → R i (vs i) w) → wpList P l.toArray Q (l.drop n) (putA (l.take n) 0 vs a0) w) : (Code.region id l.toArray true).wp P Q a0 w := by
  simp only [Bool.and_eq_true, decide_eq_true_eq] at h2
  obtain ⟨⟨⟨⟨⟨hn, hb⟩, hs⟩, hc⟩, hq⟩, hd⟩ := h2
  refine wp_region_any hm ?_
  have inv0 : HeadInv .any l.toArray n (Array.replicate l.toArray.size false) :=
    ⟨by simp, fun j oj _ hl => (by rw [getD_replicate_false] at hl; cases hl), fun t _ ht => getD_in (by simpa using ht) (getD_replicate_false _ _)⟩
  have := inv_any (P := P) (C := C) (Q := Q) (a0 := a0) (R := R) hn hb hs hc hq hd hR hop hend n (Array.replicate l.toArray.size false)
    (fun j => match (l.take n)[j]? with | some o => (match o.dst with | some d => a0.tmps.getD d undef | none => undef) | none => undef) _ hC (by simp) (fun i hi hi2 => by simp [Array.getD, hi2]) inv0 (by rw [un_false _ _ (by simp; omega)])
    (fun i _ hl => by rw [getD_replicate_false] at hl; cases hl)
  rw [putA_self _ _ _ _ (fun j o d ho hd => by rw [Nat.zero_add]; simp only [ho, hd])] at this
  rw [show n + (l.length - n) = l.toArray.size by simp; omega] at this
  exact this
end
end Go.Proofs.YtkbgkogfjfojgaaDoor.QTail
