/- A law on regions that draw their order: an invariant that speaks of what is listed already, of all values so far and of the world; whatever the order. -/
import Derived.Test.YtoblbakaemglbaaFmtIU
set_option linter.unusedSimpArgs false
set_option linter.unusedVariables false
namespace Go.Proofs.YtoblbakaemglbaaFmt.QTail
open Go.RowKit
section
variable {P : Program}
theorem inv_region {l : List Oper} {I : (Nat → Bool) → (Nat → Value) → World → Prop} {a0 : Act} {Q : Exit → Act → World → Prop} (hl : okB l = true)
    (hop : ∀ i o, l[i]? = some o → ∀ L vs w, L i = false → (∀ e ∈ o.after, Region.binds .any e = true → L e.on = true) → I L vs w →
      wpList P l.toArray (fun e a' w' => e = .normal ∧ ∃ v, a' = (putA l 0 vs a0).put o.dst v ∧ I (fun j => j == i || L j) (upd vs i v) w') [o] (putA l 0 vs a0) w)
    (hend : ∀ vs w, I (fun i => decide (i < l.length)) vs w → Q .normal (putA l 0 vs a0) w) :
    ∀ (f : Nat) (listed : Array Bool) (vs : Nat → Value) (w : World), listed.size = l.length → I (fun i => listed.getD i false) vs w → un listed l.length = f → wpAny P .any l.toArray Q f listed (putA l 0 vs a0) w
  | 0, listed, vs, w, sz, inv, hu => by
    have all : ∀ i, i < l.length → listed.getD i false = true := fun i hi => by
      have := un_zero hu i hi
      have hs : i < listed.size := by rw [sz]; exact hi
      simpa [Array.getD, hs] using this
    have hL : (fun i => listed.getD i false) = fun i => decide (i < l.length) := by
      funext i
      by_cases hi : i < l.length
      · rw [all i hi]; simp [hi]
      · have : ¬ i < listed.size := by rw [sz]; exact hi
        simp [Array.getD, this, hi]
    rw [hL] at inv
    refine ⟨?_, hend vs w inv⟩
    apply List.eq_nil_iff_forall_not_mem.2
    intro i hi
    obtain ⟨h1, o, ho, -⟩ := mem_ready.1 hi
    have hil : i < l.length := by simpa using (List.getElem?_eq_some_iff.1 (by simpa using ho)).1
    have := all i hil
    have hs : i < listed.size := by rw [sz]; exact hil
    simp [Array.getD, hs] at this h1
    rw [this] at h1; cases h1
  | f + 1, listed, vs, w, sz, inv, hu => by
    obtain ⟨i0, hi0, hf0, hmin⟩ := un_pos (listed := listed) (k := l.length) (by omega)
    have hr0 : i0 ∈ Region.ready .any l.toArray listed := by
      rw [mem_ready]
      refine ⟨hf0, l[i0], by simp, fun e he hb => ?_⟩
      have he' := okB_edge hl (i := i0) (by simp) e he hb
      have := hmin e.on he'
      have hsz : e.on < listed.size := by rw [sz]; omega
      simpa [Array.getD, hsz] using this
    refine ⟨fun h0 => (by rw [h0] at hr0; cases hr0), fun i hi => ?_⟩
    obtain ⟨hfi, o, ho, hdep⟩ := mem_ready.1 hi
    have ho' : l[i]? = some o := by simpa using ho
    have hin : i < l.length := (List.getElem?_eq_some_iff.1 ho').1
    have hil : i < listed.size := by rw [sz]; exact hin
    have hfi' : listed.getD i false = false := by simpa [Array.getD, hil] using hfi
    have hset : (fun j => (listed.setIfInBounds i true).getD j false) = fun j => j == i || listed.getD j false := by
      funext j
      rw [gset _ _ _ _ hil]
      by_cases c : i = j
      · subst c; simp
      · rw [if_neg c]
        have : (j == i) = false := by simpa using fun e => c e.symm
        simp [this]
    have sz' : (listed.setIfInBounds i true).size = l.length := by simp [sz]
    have hu' : un (listed.setIfInBounds i true) l.length = f := by have := un_set listed i hil hfi l.length hin; omega
    refine wpOp_mono ?_ (wpOp_of_list (Q := Q) ho (hop i o ho' _ vs w hfi' hdep inv))
    rintro a' w' ⟨v, rfl, hI⟩
    rw [putA_put' l 0 vs a0 i o v (okB_nodup hl) ho', Nat.zero_add]
    refine inv_region hl hop hend f _ (upd vs i v) w' sz' ?_ hu'
    rw [hset]
    exact hI
def EachI (P : Program) (l0 : List Oper) (I : (Nat → Bool) → (Nat → Value) → World → Prop) (a0 : Act) : Nat → List Oper → Prop
  | _, [] => True
  | k, o :: r => (∀ L vs w, L k = false → (∀ e ∈ o.after, Region.binds .any e = true → L e.on = true) → I L vs w →
      wpList P l0.toArray (fun e a' w' => e = .normal ∧ ∃ v, a' = (putA l0 0 vs a0).put o.dst v ∧ I (fun j => j == k || L j) (upd vs k v) w') [o] (putA l0 0 vs a0) w) ∧ EachI P l0 I a0 (k + 1) r
theorem EachI.get {l0 : List Oper} {I : (Nat → Bool) → (Nat → Value) → World → Prop} {a0 : Act} : ∀ (l : List Oper) (k i : Nat) (o : Oper), EachI P l0 I a0 k l → l[i]? = some o →
    ∀ L vs w, L (k + i) = false → (∀ e ∈ o.after, Region.binds .any e = true → L e.on = true) → I L vs w →
      wpList P l0.toArray (fun e a' w' => e = .normal ∧ ∃ v, a' = (putA l0 0 vs a0).put o.dst v ∧ I (fun j => j == (k + i) || L j) (upd vs (k + i) v) w') [o] (putA l0 0 vs a0) w
  | [], _, i, _, _, h => by simp at h
  | o' :: r, k, 0, o, hE, h => by
    simp only [List.getElem?_cons_zero, Option.some.injEq] at h
    subst h
    exact hE.1
  | o' :: r, k, i + 1, o, hE, h => by
    have := EachI.get r (k + 1) i o hE.2 (by simpa using h)
    rw [show k + (i + 1) = k + 1 + i by omega]
    exact this
theorem wp_region_inv {id : Nat} {Q : Exit → Act → World → Prop} {a0 : Act} {w : World} {l : List Oper} (I : (Nat → Bool) → (Nat → Value) → World → Prop) (hm : P.follows .mixedOrders = true) (hl : okB l = true) (hI : ∀ vs, I (fun _ => false) vs w.drew) (hE : EachI P l I a0 0 l)
    (hend : ∀ vs w, I (fun i => decide (i < l.length)) vs w → Q .normal (putA l 0 vs a0) w) : (Code.region id l.toArray true).wp P Q a0 w := by
  refine wp_region_any hm ?_
  have key := inv_region (P := P) (a0 := a0) (Q := Q) (I := I) hl
    (fun i o ho L vs w hL hd hi => by
      have := EachI.get l 0 i o hE ho L vs w (by rw [Nat.zero_add]; exact hL) hd hi
      rw [Nat.zero_add] at this
      exact this) hend l.length (Array.replicate l.toArray.size false)
    (fun j => match l[j]? with | some o => (match o.dst with | some d => a0.tmps.getD d undef | none => undef) | none => undef) w.drew
    (by simp) (by rw [show (fun i => (Array.replicate l.toArray.size false).getD i false) = fun _ => false from funext fun i => getD_replicate_false _ _]; exact hI _)
    (by rw [un_false _ _ (by simp)])
  rw [putA_self _ _ _ _ (fun j o d ho hd => by rw [Nat.zero_add]; simp only [ho, hd])] at key
  exact key
theorem upd_same (vs : Nat → Value) (i : Nat) (v : Value) : upd vs i v i = v := by simp [upd]
theorem upd_other (vs : Nat → Value) (i j : Nat) (v : Value) (h : j ≠ i) : upd vs i v j = vs j := by simp [upd, h]
end
end Go.Proofs.YtoblbakaemglbaaFmt.QTail
