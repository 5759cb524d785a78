/- A law on regions that draw their order of evaluation: each operation makes an assertion of its own on its value and on the world true, and leaves those of the others; whatever the order. -/
import Derived.Test.YtkbgkogfjfojgaaDoorIS
set_option linter.unusedSimpArgs false
set_option linter.unusedVariables false
namespace Go.Proofs.YtkbgkogfjfojgaaDoor.QTail
open Go.RowKit
section
variable {P : Program}
structure UInv (l : List Oper) (A : Nat → Value → World → Prop) (C : World → Prop) (listed : Array Bool) (vs : Nat → Value) (w : World) : Prop where
  sz : listed.size = l.length
  c : C w
  down : ∀ i o, l[i]? = some o → listed.getD i false = true → ∀ e ∈ o.after, Region.binds .any e = true → listed.getD e.on false = true
  val : ∀ i, listed.getD i false = true → A i (vs i) w
theorem st_any {l : List Oper} {A : Nat → Value → World → Prop} {C : World → Prop} {a0 : Act} {Q : Exit → Act → World → Prop} (hl : okB l = true)
    (hop : ∀ i o, l[i]? = some o → ∀ vs w, C w → (∀ e ∈ o.after, Region.binds .any e = true → A e.on (vs e.on) w) →
      wpList P l.toArray (fun e a' w' => e = .normal ∧ ∃ v, a' = (putA l 0 vs a0).put o.dst v ∧ A i v w' ∧ C w' ∧ ∀ j u, j ≠ i → A j u w → A j u w') [o] (putA l 0 vs a0) w)
    (hend : ∀ vs w, C w → (∀ i, i < l.length → A i (vs i) w) → Q .normal (putA l 0 vs a0) w) :
    ∀ (f : Nat) (listed : Array Bool) (vs : Nat → Value) (w : World), UInv l A C listed vs w → un listed l.length = f → wpAny P .any l.toArray Q f listed (putA l 0 vs a0) w
  | 0, listed, vs, w, inv, hu => by
    have all : ∀ i, i < l.length → listed.getD i false = true := fun i hi => by
      have := un_zero hu i hi
      have hs : i < listed.size := by rw [inv.sz]; exact hi
      simpa [Array.getD, hs] using this
    refine ⟨?_, hend vs w inv.c (fun i hi => inv.val i (all i hi))⟩
    apply List.eq_nil_iff_forall_not_mem.2
    intro i hi
    obtain ⟨h1, o, ho, -⟩ := mem_ready.1 hi
    have hil : i < l.length := by simpa using (List.getElem?_eq_some_iff.1 (by simpa using ho)).1
    have := all i hil
    have hs : i < listed.size := by rw [inv.sz]; exact hil
    simp [Array.getD, hs] at this h1
    rw [this] at h1; cases h1
  | f + 1, listed, vs, w, inv, hu => by
    obtain ⟨i0, hi0, hf0, hmin⟩ := un_pos (listed := listed) (k := l.length) (by omega)
    have hr0 : i0 ∈ Region.ready .any l.toArray listed := by
      rw [mem_ready]
      refine ⟨hf0, l[i0], by simp, fun e he hb => ?_⟩
      have he' := okB_edge hl (i := i0) (by simp) e he hb
      have := hmin e.on he'
      have hsz : e.on < listed.size := by rw [inv.sz]; omega
      simpa [Array.getD, hsz] using this
    refine ⟨fun h0 => (by rw [h0] at hr0; cases hr0), fun i hi => ?_⟩
    obtain ⟨hfi, o, ho, hdep⟩ := mem_ready.1 hi
    have ho' : l[i]? = some o := by simpa using ho
    have hin : i < l.length := (List.getElem?_eq_some_iff.1 ho').1
    have hil : i < listed.size := by rw [inv.sz]; exact hin
    have hfi' : listed.getD i false = false := by simpa [Array.getD, hil] using hfi
    have nl : ∀ j, listed.getD j false = true → j ≠ i := fun j hj e => by rw [e, hfi'] at hj; cases hj
    have hset : ∀ j, (listed.setIfInBounds i true).getD j false = true → j = i ∨ listed.getD j false = true := fun j hj => by
      rw [gset _ _ _ _ hil] at hj
      by_cases c : i = j
      · exact Or.inl c.symm
      · rw [if_neg c] at hj; exact Or.inr hj
    have hset2 : ∀ j, listed.getD j false = true → (listed.setIfInBounds i true).getD j false = true := fun j hj => by
      rw [gset _ _ _ _ hil]; split
      · rfl
      · exact hj
    have down' : ∀ j oj, l[j]? = some oj → (listed.setIfInBounds i true).getD j false = true → ∀ e ∈ oj.after, Region.binds .any e = true → (listed.setIfInBounds i true).getD e.on false = true := by
      intro j oj hj hl' e he hb
      rcases hset j hl' with rfl | hl''
      · rw [ho'] at hj; cases hj
        exact hset2 _ (hdep e he hb)
      · exact hset2 _ (inv.down j oj hj hl'' e he hb)
    have sz' : (listed.setIfInBounds i true).size = l.length := by simp [inv.sz]
    have hu' : un (listed.setIfInBounds i true) l.length = f := by have := un_set listed i hil hfi l.length hin; omega
    refine wpOp_mono ?_ (wpOp_of_list (Q := Q) ho (hop i o ho' vs w inv.c (fun e he hb => inv.val _ (hdep e he hb))))
    rintro a' w' ⟨v, rfl, hAv, hC, hst⟩
    rw [putA_put' l 0 vs a0 i o v (okB_nodup hl) ho', Nat.zero_add]
    refine st_any hl hop hend f _ (upd vs i v) w' ⟨sz', hC, down', ?_⟩ hu'
    intro j hj
    rcases hset j hj with rfl | hj'
    · simpa [upd] using hAv
    · have : upd vs i v j = vs j := by simp [upd, nl j hj']
      rw [this]
      exact hst j _ (nl j hj') (inv.val j hj')
theorem wp_region_st {id : Nat} {Q : Exit → Act → World → Prop} {a0 : Act} {w : World} {l : List Oper} (A : Nat → Value → World → Prop) (C : World → Prop) (hm : P.follows .mixedOrders = true) (hl : okB l = true) (hC : C w.drew)
    (hop : ∀ i o, l[i]? = some o → ∀ vs w, C w → (∀ e ∈ o.after, Region.binds .any e = true → A e.on (vs e.on) w) →
      wpList P l.toArray (fun e a' w' => e = .normal ∧ ∃ v, a' = (putA l 0 vs a0).put o.dst v ∧ A i v w' ∧ C w' ∧ ∀ j u, j ≠ i → A j u w → A j u w') [o] (putA l 0 vs a0) w)
    (hend : ∀ vs w, C w → (∀ i, i < l.length → A i (vs i) w) → Q .normal (putA l 0 vs a0) w) : (Code.region id l.toArray true).wp P Q a0 w := by
  refine wp_region_any hm ?_
  have key := st_any (P := P) (a0 := a0) (Q := Q) hl hop hend l.length (Array.replicate l.toArray.size false)
    (fun j => match l[j]? with | some o => (match o.dst with | some d => a0.tmps.getD d undef | none => undef) | none => undef) w.drew
    ⟨by simp, hC, fun i o _ h => (by rw [getD_replicate_false] at h; cases h), fun i h => (by rw [getD_replicate_false] at h; cases h)⟩
    (by rw [un_false _ _ (by simp)])
  rw [putA_self _ _ _ _ (fun j o d ho hd => by rw [Nat.zero_add]; simp only [ho, hd])] at key
  exact key
def EachU (P : Program) (l0 : List Oper) (A : Nat → Value → World → Prop) (C : World → Prop) (a0 : Act) : Nat → List Oper → Prop
  | _, [] => True
  | k, o :: r => (∀ vs w, C w → (∀ e ∈ o.after, Region.binds .any e = true → A e.on (vs e.on) w) →
      wpList P l0.toArray (fun e a' w' => e = .normal ∧ ∃ v, a' = (putA l0 0 vs a0).put o.dst v ∧ A k v w' ∧ C w' ∧ ∀ j u, j ≠ k → A j u w → A j u w') [o] (putA l0 0 vs a0) w) ∧ EachU P l0 A C a0 (k + 1) r
theorem EachU.get {l0 : List Oper} {A : Nat → Value → World → Prop} {C : World → Prop} {a0 : Act} : ∀ (l : List Oper) (k i : Nat) (o : Oper), EachU P l0 A C a0 k l → l[i]? = some o →
    ∀ vs w, C w → (∀ e ∈ o.after, Region.binds .any e = true → A e.on (vs e.on) w) →
      wpList P l0.toArray (fun e a' w' => e = .normal ∧ ∃ v, a' = (putA l0 0 vs a0).put o.dst v ∧ A (k + i) v w' ∧ C w' ∧ ∀ j u, j ≠ k + i → A j u w → A j u w') [o] (putA l0 0 vs a0) w
  | [], _, i, _, _, h => by simp at h
  | o' :: r, k, 0, o, hE, h => by
    simp only [List.getElem?_cons_zero, Option.some.injEq] at h
    subst h
    exact hE.1
  | o' :: r, k, i + 1, o, hE, h => by
    have := EachU.get r (k + 1) i o hE.2 (by simpa using h)
    rw [show k + (i + 1) = k + 1 + i by omega]
    exact this
theorem wp_region_each {id : Nat} {Q : Exit → Act → World → Prop} {a0 : Act} {w : World} {l : List Oper} (A : Nat → Value → World → Prop) (C : World → Prop) (hm : P.follows .mixedOrders = true) (hl : okB l = true) (hC : C w.drew) (hE : EachU P l A C a0 0 l)
    (hend : ∀ vs w, C w → (∀ i, i < l.length → A i (vs i) w) → Q .normal (putA l 0 vs a0) w) : (Code.region id l.toArray true).wp P Q a0 w :=
  wp_region_st A C hm hl hC (fun i o ho vs w hC hd => by have := EachU.get l 0 i o hE ho vs w hC hd; rw [Nat.zero_add] at this; exact this) hend
end
end Go.Proofs.YtkbgkogfjfojgaaDoor.QTail
