/- A law on regions that draw their order of evaluation, by kinds of operations: some yield a value in a relation of its own, some make a new variable, some store into such a variable; whatever the order. -/
import Derived.Test.YtkbgkogfjfojgaaDoorIT
set_option linter.unusedSimpArgs false
namespace Go.Proofs.YtkbgkogfjfojgaaDoor.QTail
open Go.RowKit
section
variable {P : Program}
inductive Kind
  | val
  | new (k : Nat)
  | put (t : Nat) (g : (Nat → Value) → Value)
def okB (l : List Oper) : Bool :=
  (List.range l.length).all (fun i => match l[i]? with
    | some o => o.after.all (fun e => !Region.binds .any e || decide (e.on < i)) && o.guard.isNone
    | none => false) && decide ((l.filterMap (·.dst)).Nodup)
theorem okB_edge {l : List Oper} {i : Nat} {o : Oper} (h : okB l = true) (ho : l[i]? = some o) : ∀ e ∈ o.after, Region.binds .any e = true → e.on < i := by
  unfold okB at h
  rw [Bool.and_eq_true] at h
  have hi : i < l.length := (List.getElem?_eq_some_iff.1 ho).1
  have := List.all_eq_true.1 h.1 i (List.mem_range.2 hi)
  rw [ho] at this
  simp only [Bool.and_eq_true] at this
  intro e he hb
  have := Array.all_eq_true'.1 this.1 e he
  simpa [hb] using this
theorem okB_nodup {l : List Oper} (h : okB l = true) : (l.filterMap (·.dst)).Nodup := by
  unfold okB at h
  rw [Bool.and_eq_true] at h
  simpa using h.2
theorem putA_pass' : ∀ (hs : List Oper) (k : Nat) (vs : Nat → Value) (a : Act) (d : Tmp) (v : Value), d ∉ hs.filterMap (·.dst) → (putA hs k vs a).put (some d) v = putA hs k vs (a.put (some d) v)
  | [], _, _, _, _, _, _ => rfl
  | o :: r, k, vs, a, d, v, h => by
    unfold putA
    cases e : o.dst with
    | none =>
      rw [List.filterMap_cons_none e] at h
      exact putA_pass' r (k + 1) vs _ d v h
    | some d' =>
      rw [List.filterMap_cons_some e] at h
      have h1 : d' ≠ d := fun hh => h (by simp [hh])
      rw [putA_pass' r (k + 1) vs _ d v (fun hh => h (by simp [hh])), put_comm _ h1]
theorem putA_put' : ∀ (hs : List Oper) (k : Nat) (vs : Nat → Value) (a : Act) (j : Nat) (o : Oper) (v : Value), (hs.filterMap (·.dst)).Nodup → hs[j]? = some o → (putA hs k vs a).put o.dst v = putA hs k (upd vs (k + j) v) a
  | [], _, _, _, j, _, _, _, h => by simp at h
  | o' :: r, k, vs, a, j, o, v, hB, h => by
    have hBr : (r.filterMap (·.dst)).Nodup := by
      cases e : o'.dst with
      | none => rwa [List.filterMap_cons_none e] at hB
      | some d => rw [List.filterMap_cons_some e] at hB; exact (List.nodup_cons.1 hB).2
    cases j with
    | zero =>
      simp only [List.getElem?_cons_zero, Option.some.injEq] at h
      subst h
      unfold putA
      have ec : ∀ b, putA r (k + 1) vs b = putA r (k + 1) (upd vs (k + 0) v) b := fun b => putA_congr r (k + 1) vs _ _ (fun i h1 _ => by simp [upd]; omega)
      cases e : o'.dst with
      | none => exact ec a
      | some d =>
        rw [List.filterMap_cons_some e] at hB
        rw [putA_pass' r (k + 1) vs _ d v (List.nodup_cons.1 hB).1, put_put, show upd vs (k + 0) v k = v by simp [upd]]
        exact ec _
    | succ j =>
      simp only [List.getElem?_cons_succ] at h
      unfold putA
      rw [putA_put' r (k + 1) vs _ j o v hBr h, show upd vs (k + (j + 1)) v k = vs k by simp [upd], show k + 1 + j = k + (j + 1) by omega]
/-- the pointer to a variable of one cell -/
abbrev ptr (b : Nat) : Value := .pointer (some ⟨b, 0, none⟩)
structure SInv (l : List Oper) (ks : Nat → Kind) (R : Nat → (Nat → Value) → Prop) (W0 : World) (listed : Array Bool) (vs : Nat → Value) (w : World) : Prop where
  sz : listed.size = l.length
  below : Below W0.heap.size W0 w
  down : ∀ i o, l[i]? = some o → listed.getD i false = true → ∀ e ∈ o.after, Region.binds .any e = true → listed.getD e.on false = true
  val : ∀ i, listed.getD i false = true → ks i = .val → R i vs
  new : ∀ i k, listed.getD i false = true → ks i = .new k → ∃ b x, vs i = ptr b ∧ W0.heap.size ≤ b ∧ b < w.heap.size ∧ w.frozen? ⟨b, 0, none⟩ = false ∧ w.cell? ⟨b, 0, none⟩ = some x ∧ ∀ g, ks k = .put i g → listed.getD k false = true → x = g vs
  dis : ∀ i j k k', i ≠ j → listed.getD i false = true → listed.getD j false = true → ks i = .new k → ks j = .new k' → vs i ≠ vs j
theorem getD_lt {listed : Array Bool} {i : Nat} (h : listed.getD i false = true) : i < listed.size := by
  by_cases c : i < listed.size
  · exact c
  · simp [Array.getD, c] at h
theorem frozen_alloc_new (w : World) (c : Value) (t : TypeId) : (w.alloc (.cells #[c] t)).frozen? ⟨w.heap.size, 0, none⟩ = false := by simp [go_sem]
theorem cell_alloc_new (w : World) (c : Value) (t : TypeId) : (w.alloc (.cells #[c] t)).cell? ⟨w.heap.size, 0, none⟩ = some c := by simp [go_sem]
set_option maxHeartbeats 1000000 in
theorem spec_any {l : List Oper} {ks : Nat → Kind} {R : Nat → (Nat → Value) → Prop} {W0 : World} {a0 : Act} {Q : Exit → Act → World → Prop} (hl : okB l = true)
    (hk : ∀ k t g, ks k = .put t g → ks t = .new k ∧ ∀ o, l[k]? = some o → ∃ e ∈ o.after, Region.binds .any e = true ∧ e.on = t)
    (hR : ∀ i o vs vs', l[i]? = some o → ks i = .val → vs i = vs' i → (∀ e ∈ o.after, Region.binds .any e = true → vs e.on = vs' e.on) → R i vs → R i vs')
    (hg : ∀ k t g o vs vs', ks k = .put t g → l[k]? = some o → (∀ e ∈ o.after, Region.binds .any e = true → vs e.on = vs' e.on) → g vs = g vs')
    (hval : ∀ i o, l[i]? = some o → ks i = .val → ∀ vs w, Below W0.heap.size W0 w → (∀ e ∈ o.after, Region.binds .any e = true → ks e.on = .val → R e.on vs) →
      wpList P l.toArray (fun e a' w' => e = .normal ∧ ∃ v, a' = (putA l 0 vs a0).put o.dst v ∧ R i (upd vs i v) ∧ Below w.heap.size w w') [o] (putA l 0 vs a0) w)
    (hnew : ∀ i o k, l[i]? = some o → ks i = .new k → ∀ vs w,
      wpList P l.toArray (fun e a' w' => e = .normal ∧ a' = (putA l 0 vs a0).put o.dst (ptr w.heap.size) ∧ ∃ c t, w' = w.alloc (.cells #[c] t)) [o] (putA l 0 vs a0) w)
    (hput : ∀ k o t g, l[k]? = some o → ks k = .put t g → ∀ vs w b x, vs t = ptr b → (∀ e ∈ o.after, Region.binds .any e = true → ks e.on = .val → R e.on vs) → w.cell? ⟨b, 0, none⟩ = some x → w.frozen? ⟨b, 0, none⟩ = false →
      wpList P l.toArray (fun e a' w' => e = .normal ∧ a' = (putA l 0 vs a0).put o.dst undef ∧ w' = w.setCell ⟨b, 0, none⟩ (g vs)) [o] (putA l 0 vs a0) w)
    (hend : ∀ vs w, Below W0.heap.size W0 w → (∀ i, i < l.length → ks i = .val → R i vs) →
      (∀ i k g, i < l.length → k < l.length → ks i = .new k → ks k = .put i g → ∃ b, vs i = ptr b ∧ W0.heap.size ≤ b ∧ w.frozen? ⟨b, 0, none⟩ = false ∧ w.cell? ⟨b, 0, none⟩ = some (g vs)) →
      (∀ i j k k', i < l.length → j < l.length → i ≠ j → ks i = .new k → ks j = .new k' → vs i ≠ vs j) → Q .normal (putA l 0 vs a0) w) :
    ∀ (f : Nat) (listed : Array Bool) (vs : Nat → Value) (w : World), SInv l ks R W0 listed vs w → un listed l.length = f → wpAny P .any l.toArray Q f listed (putA l 0 vs a0) w
  | 0, listed, vs, w, inv, hu => by
    have all : ∀ i, i < l.length → listed.getD i false = true := fun i hi => by
      have := un_zero hu i hi
      have hs : i < listed.size := by rw [inv.sz]; exact hi
      simpa [Array.getD, hs] using this
    refine ⟨?_, hend vs w inv.below (fun i hi => inv.val i (all i hi)) (fun i k g hi hkl h1 h2 => ?_) (fun i j k k' hi hj hne h1 h2 => inv.dis i j k k' hne (all i hi) (all j hj) h1 h2)⟩
    · apply List.eq_nil_iff_forall_not_mem.2
      intro i hi
      obtain ⟨h1, o, ho, -⟩ := mem_ready.1 hi
      have hil : i < l.length := by simpa using (List.getElem?_eq_some_iff.1 (by simpa using ho)).1
      have := all i hil
      have hs : i < listed.size := by rw [inv.sz]; exact hil
      simp [Array.getD, hs] at this h1
      rw [this] at h1; cases h1
    · obtain ⟨b, x, e1, e2, e3, e4, e5, e6⟩ := inv.new i k (all i hi) h1
      exact ⟨b, e1, e2, e4, by rw [e5, e6 g h2 (all k hkl)]⟩
  | f + 1, listed, vs, w, inv, hu => by
    obtain ⟨i0, hi0, hf0, hmin⟩ := un_pos (listed := listed) (k := l.length) (by omega)
    have hr0 : i0 ∈ Region.ready .any l.toArray listed := by
      rw [mem_ready]
      refine ⟨hf0, l[i0], by simp, fun e he hb => ?_⟩
      have he' := okB_edge hl (i := i0) (by simp) e he hb
      have := hmin e.on he'
      have hsz : e.on < listed.size := by rw [inv.sz]; omega
      simpa [Array.getD, hsz] using this
    refine ⟨fun h0 => (by rw [h0] at hr0; cases hr0), fun i hi => ?_⟩
    obtain ⟨hfi, o, ho, hdep⟩ := mem_ready.1 hi
    have ho' : l[i]? = some o := by simpa using ho
    have hin : i < l.length := (List.getElem?_eq_some_iff.1 ho').1
    have hil : i < listed.size := by rw [inv.sz]; exact hin
    have hfi' : listed.getD i false = false := by simpa [Array.getD, hil] using hfi
    have hdepR : ∀ e ∈ o.after, Region.binds .any e = true → ks e.on = .val → R e.on vs := fun e he hb hv => inv.val _ (hdep e he hb) hv
    have nl : ∀ j, listed.getD j false = true → j ≠ i := fun j hj e => by rw [e, hfi'] at hj; cases hj
    have hset : ∀ j, (listed.setIfInBounds i true).getD j false = true → j = i ∨ listed.getD j false = true := fun j hj => by
      rw [gset _ _ _ _ hil] at hj
      by_cases c : i = j
      · exact Or.inl c.symm
      · rw [if_neg c] at hj; exact Or.inr hj
    have hset2 : ∀ j, listed.getD j false = true → (listed.setIfInBounds i true).getD j false = true := fun j hj => by
      rw [gset _ _ _ _ hil]; split
      · rfl
      · exact hj
    have down' : ∀ j oj, l[j]? = some oj → (listed.setIfInBounds i true).getD j false = true → ∀ e ∈ oj.after, Region.binds .any e = true → (listed.setIfInBounds i true).getD e.on false = true := by
      intro j oj hj hl' e he hb
      rcases hset j hl' with rfl | hl''
      · rw [ho'] at hj; cases hj
        exact hset2 _ (hdep e he hb)
      · exact hset2 _ (inv.down j oj hj hl'' e he hb)
    have updne : ∀ v j, listed.getD j false = true → upd vs i v j = vs j := fun v j hj => by simp [upd, nl j hj]
    have updR : ∀ v j, listed.getD j false = true → ks j = .val → R j (upd vs i v) := fun v j hj hv => by
      have hjl : j < l.length := by have := getD_lt hj; rwa [inv.sz] at this
      refine hR j l[j] vs _ (by simp) hv (updne v j hj).symm (fun e he hb => ?_) (inv.val j hj hv)
      exact (updne v _ (inv.down j l[j] (by simp) hj e he hb)).symm
    have updg : ∀ v k t g, listed.getD k false = true → ks k = .put t g → g (upd vs i v) = g vs := fun v k t g hk' hkk => by
      have hjl : k < l.length := by have := getD_lt hk'; rwa [inv.sz] at this
      exact hg k t g l[k] _ _ hkk (by simp) (fun e he hb => updne v _ (inv.down k l[k] (by simp) hk' e he hb))
    have sz' : (listed.setIfInBounds i true).size = l.length := by simp [inv.sz]
    have hu' : un (listed.setIfInBounds i true) l.length = f := by have := un_set listed i hil hfi l.length hin; omega
    cases hki : ks i with
    | val =>
      refine wpOp_mono ?_ (wpOp_of_list (Q := Q) ho (hval i o ho' hki vs w inv.below hdepR))
      rintro a' w' ⟨v, rfl, hRv, hB⟩
      rw [putA_put' l 0 vs a0 i o v (okB_nodup hl) ho', Nat.zero_add]
      refine spec_any hl hk hR hg hval hnew hput hend f _ (upd vs i v) w' ⟨sz', inv.below.trans (hB.mono inv.below.size), down', ?_, ?_, ?_⟩ hu'
      · intro j hj hv
        rcases hset j hj with rfl | hj'
        · exact hRv
        · exact updR v j hj' hv
      · intro j k hj hn
        rcases hset j hj with rfl | hj'
        · rw [hki] at hn; cases hn
        · obtain ⟨b, x, e1, e2, e3, e4, e5, e6⟩ := inv.new j k hj' hn
          refine ⟨b, x, by rw [updne v j hj']; exact e1, e2, Nat.lt_of_lt_of_le e3 hB.size, by rw [hB.frozen e3]; exact e4, by rw [hB.cell e3]; exact e5, fun g hgk hkl => ?_⟩
          rcases hset k hkl with rfl | hkl'
          · rw [hki] at hgk; cases hgk
          · rw [updg v k j g hkl' hgk]; exact e6 g hgk hkl'
      · intro j1 j2 k1 k2 hne h1 h2 n1 n2
        rcases hset j1 h1 with rfl | h1'
        · rw [hki] at n1; cases n1
        · rcases hset j2 h2 with rfl | h2'
          · rw [hki] at n2; cases n2
          · rw [updne v j1 h1', updne v j2 h2']; exact inv.dis j1 j2 k1 k2 hne h1' h2' n1 n2
    | new kk =>
      refine wpOp_mono ?_ (wpOp_of_list (Q := Q) ho (hnew i o kk ho' hki vs w))
      rintro a' w' ⟨rfl, c, t, rfl⟩
      rw [putA_put' l 0 vs a0 i o _ (okB_nodup hl) ho', Nat.zero_add]
      have hB : Below w.heap.size w (w.alloc (.cells #[c] t)) := (Below.refl _ _).alloc (Nat.le_refl _) _
      have hs1 : w.heap.size < (w.alloc (.cells #[c] t)).heap.size := by simp
      refine spec_any hl hk hR hg hval hnew hput hend f _ (upd vs i (ptr w.heap.size)) _ ⟨sz', inv.below.trans (hB.mono inv.below.size), down', ?_, ?_, ?_⟩ hu'
      · intro j hj hv
        rcases hset j hj with rfl | hj'
        · rw [hki] at hv; cases hv
        · exact updR _ j hj' hv
      · intro j k hj hn
        rcases hset j hj with rfl | hj'
        · rw [hki] at hn; cases hn
          refine ⟨w.heap.size, c, by simp [upd], inv.below.size, hs1, frozen_alloc_new w c t, cell_alloc_new w c t, fun g hgk hkl => ?_⟩
          rcases hset kk hkl with rfl | hkl'
          · rw [hki] at hgk; cases hgk
          · have hjl : kk < l.length := by have := getD_lt hkl'; rwa [inv.sz] at this
            obtain ⟨e, he, hb, heq⟩ := (hk kk j g hgk).2 l[kk] (by simp)
            have := inv.down kk l[kk] (by simp) hkl' e he hb
            rw [heq, hfi'] at this; cases this
        · obtain ⟨b, x, e1, e2, e3, e4, e5, e6⟩ := inv.new j k hj' hn
          refine ⟨b, x, by rw [updne _ j hj']; exact e1, e2, Nat.lt_of_lt_of_le e3 hB.size, by rw [hB.frozen e3]; exact e4, by rw [hB.cell e3]; exact e5, fun g hgk hkl => ?_⟩
          rcases hset k hkl with rfl | hkl'
          · rw [hki] at hgk; cases hgk
          · rw [updg _ k j g hkl' hgk]; exact e6 g hgk hkl'
      · intro j1 j2 k1 k2 hne h1 h2 n1 n2
        have fresh : ∀ j k, listed.getD j false = true → ks j = .new k → vs j ≠ ptr w.heap.size := fun j k hj hn => by
          obtain ⟨b, x, e1, e2, e3, -⟩ := inv.new j k hj hn
          rw [e1]; intro h; simp only [ptr, Value.pointer.injEq, Option.some.injEq, Addr.mk.injEq, and_true] at h; omega
        rcases hset j1 h1 with rfl | h1'
        · rcases hset j2 h2 with rfl | h2'
          · exact absurd rfl hne
          · rw [updne _ j2 h2', show upd vs j1 (ptr w.heap.size) j1 = ptr w.heap.size by simp [upd]]; exact (fresh j2 k2 h2' n2).symm
        · rcases hset j2 h2 with rfl | h2'
          · rw [updne _ j1 h1', show upd vs j2 (ptr w.heap.size) j2 = ptr w.heap.size by simp [upd]]; exact fresh j1 k1 h1' n1
          · rw [updne _ j1 h1', updne _ j2 h2']; exact inv.dis j1 j2 k1 k2 hne h1' h2' n1 n2
    | put t g =>
      obtain ⟨hnt, hed⟩ := hk i t g hki
      obtain ⟨e, he, hb, het⟩ := hed o ho'
      have hlt : listed.getD t false = true := by rw [← het]; exact hdep e he hb
      obtain ⟨b, x, e1, e2, e3, e4, e5, e6⟩ := inv.new t i hlt hnt
      refine wpOp_mono ?_ (wpOp_of_list (Q := Q) ho (hput i o t g ho' hki vs w b x e1 hdepR e5 e4))
      rintro a' w' ⟨rfl, rfl⟩
      rw [putA_put' l 0 vs a0 i o _ (okB_nodup hl) ho', Nat.zero_add]
      have hsz : (w.setCell ⟨b, 0, none⟩ (g vs)).heap.size = w.heap.size := by simp [World.setCell]
      have gsame : g (upd vs i undef) = g vs := hg i t g o _ _ hki ho' (fun e' he' hb' => updne _ _ (hdep e' he' hb'))
      refine spec_any hl hk hR hg hval hnew hput hend f _ (upd vs i undef) _ ⟨sz', inv.below.setCell e2 _, down', ?_, ?_, ?_⟩ hu'
      · intro j hj hv
        rcases hset j hj with rfl | hj'
        · rw [hki] at hv; cases hv
        · exact updR _ j hj' hv
      · intro j k hj hn
        rcases hset j hj with rfl | hj'
        · rw [hki] at hn; cases hn
        · by_cases c : j = t
          · subst c
            rw [hnt] at hn; cases hn
            refine ⟨b, g vs, by rw [updne _ j hj']; exact e1, e2, by rw [hsz]; exact e3, by simp [go_sem, e4], by simp [go_sem, e5], fun g' hgk hkl => ?_⟩
            rw [hki] at hgk; cases hgk
            exact gsame.symm
          · obtain ⟨b', x', d1, d2, d3, d4, d5, d6⟩ := inv.new j k hj' hn
            have hne : b ≠ b' := fun hbb => inv.dis j t k i c hj' hlt hn hnt (by rw [d1, e1, hbb])
            refine ⟨b', x', by rw [updne _ j hj']; exact d1, d2, by rw [hsz]; exact d3, by simp [go_sem, d4], by simp [go_sem, d5, hne], fun g' hgk hkl => ?_⟩
            rcases hset k hkl with rfl | hkl'
            · rw [hki] at hgk; cases hgk; exact absurd rfl c
            · rw [updg _ k j g' hkl' hgk]; exact d6 g' hgk hkl'
      · intro j1 j2 k1 k2 hne h1 h2 n1 n2
        rcases hset j1 h1 with rfl | h1'
        · rw [hki] at n1; cases n1
        · rcases hset j2 h2 with rfl | h2'
          · rw [hki] at n2; cases n2
          · rw [updne _ j1 h1', updne _ j2 h2']; exact inv.dis j1 j2 k1 k2 hne h1' h2' n1 n2
/-- A REGION THAT DRAWS ITS ORDER, BY KINDS: 'val' operations yield a value in a relation of its own; 'new' ones make a variable; 'put' ones store into such a variable. -/
theorem wp_region_spec {id : Nat} {Q : Exit → Act → World → Prop} {a0 : Act} {w : World} {l : List Oper} (ks : Nat → Kind) (R : Nat → (Nat → Value) → Prop) (hm : P.follows .mixedOrders = true) (hl : okB l = true)
    (hk : ∀ k t g, ks k = .put t g → ks t = .new k ∧ ∀ o, l[k]? = some o → ∃ e ∈ o.after, Region.binds .any e = true ∧ e.on = t)
    (hR : ∀ i o vs vs', l[i]? = some o → ks i = .val → vs i = vs' i → (∀ e ∈ o.after, Region.binds .any e = true → vs e.on = vs' e.on) → R i vs → R i vs')
    (hg : ∀ k t g o vs vs', ks k = .put t g → l[k]? = some o → (∀ e ∈ o.after, Region.binds .any e = true → vs e.on = vs' e.on) → g vs = g vs')
    (hval : ∀ i o, l[i]? = some o → ks i = .val → ∀ vs w', Below w.heap.size w w' → (∀ e ∈ o.after, Region.binds .any e = true → ks e.on = .val → R e.on vs) →
      wpList P l.toArray (fun e a' w'' => e = .normal ∧ ∃ v, a' = (putA l 0 vs a0).put o.dst v ∧ R i (upd vs i v) ∧ Below w'.heap.size w' w'') [o] (putA l 0 vs a0) w')
    (hnew : ∀ i o k, l[i]? = some o → ks i = .new k → ∀ vs w',
      wpList P l.toArray (fun e a' w'' => e = .normal ∧ a' = (putA l 0 vs a0).put o.dst (ptr w'.heap.size) ∧ ∃ c t, w'' = w'.alloc (.cells #[c] t)) [o] (putA l 0 vs a0) w')
    (hput : ∀ k o t g, l[k]? = some o → ks k = .put t g → ∀ vs w' b x, vs t = ptr b → (∀ e ∈ o.after, Region.binds .any e = true → ks e.on = .val → R e.on vs) → w'.cell? ⟨b, 0, none⟩ = some x → w'.frozen? ⟨b, 0, none⟩ = false →
      wpList P l.toArray (fun e a' w'' => e = .normal ∧ a' = (putA l 0 vs a0).put o.dst undef ∧ w'' = w'.setCell ⟨b, 0, none⟩ (g vs)) [o] (putA l 0 vs a0) w')
    (hend : ∀ vs w', Below w.heap.size w w' → (∀ i, i < l.length → ks i = .val → R i vs) →
      (∀ i k g, i < l.length → k < l.length → ks i = .new k → ks k = .put i g → ∃ b, vs i = ptr b ∧ w.heap.size ≤ b ∧ w'.frozen? ⟨b, 0, none⟩ = false ∧ w'.cell? ⟨b, 0, none⟩ = some (g vs)) →
      (∀ i j k k', i < l.length → j < l.length → i ≠ j → ks i = .new k → ks j = .new k' → vs i ≠ vs j) → Q .normal (putA l 0 vs a0) w') :
    (Code.region id l.toArray true).wp P Q a0 w := by
  refine wp_region_any hm ?_
  have hB : Below w.heap.size w w.drew := (Below.refl _ _).drew
  have key := spec_any (P := P) (W0 := w) (a0 := a0) (Q := Q) hl hk hR hg hval hnew hput hend l.length (Array.replicate l.toArray.size false)
    (fun j => match l[j]? with | some o => (match o.dst with | some d => a0.tmps.getD d undef | none => undef) | none => undef) w.drew
    ⟨by simp, hB, fun i o _ h => (by rw [getD_replicate_false] at h; cases h), fun i h => (by rw [getD_replicate_false] at h; cases h), fun i k h => (by rw [getD_replicate_false] at h; cases h), fun i j k k' _ h => (by rw [getD_replicate_false] at h; cases h)⟩
    (by rw [un_false _ _ (by simp)])
  rw [putA_self _ _ _ _ (fun j o d ho hd => by rw [Nat.zero_add]; simp only [ho, hd])] at key
  exact key
end
end Go.Proofs.YtkbgkogfjfojgaaDoor.QTail
