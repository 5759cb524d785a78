/- FnFlattenMatchesStreamModel: what merging gives; words for it. -/
import Derived.Test.YtjigljpodkfchadFli
set_option linter.unusedVariables false
set_option linter.unusedSimpArgs false
namespace Go.Proofs.Ytjigljpodkfchad.QTail
open Go.RowKit
open Go.Sort hiding Below
/-- as drawn_rel; the move i may come late -/
theorem drawn_rel_late {P : Program} {id : Nat} {Q : Exit → Act → World → Prop} {a0 : Act} {w : World} {l : List Oper} (n i : Nat) (R : Nat → Value → World → Prop) (hm : P.follows .mixedOrders = true)
    (h0 : (decide (i < n) && moveB l i && Region.noSelect l.toArray && Region.free .any l.toArray (Array.replicate l.length false) i) = true)
    (h2 : (decide (n < (more l n i).length) && backB (more l n i) n && Region.sinkB .any (more l n i).toArray n && Region.chainB .any (more l n i).toArray n && Region.seqB .any (more l n i).toArray ((more l n i).length - n) n (allListed n (more l n i).length) && dstsB (l.take n)) = true)
    (hR : ∀ i v W W', Below W.heap.size W W' → R i v W → R i v W')
    (hE : EachR P l (l.take n) R w a0 0 (l.take n))
    (hend : ∀ Q' : Act → World → Prop, (∀ a w, Q .normal a w → Q' a w) → ∀ vs W, Below w.heap.size w W → (∀ i, i < n → R i (vs i) W) → wpList P l.toArray (fun e a w => e = .normal ∧ Q' a w) (l.drop n) (putA (l.take n) 0 vs a0) W) : (Code.region id l.toArray true).wp P Q a0 w := by
  simp only [Bool.and_eq_true, decide_eq_true_eq] at h0
  obtain ⟨⟨⟨g0, g1⟩, g2⟩, g3⟩ := h0
  refine wp_region_any hm ?_
  have key := hend (Q .normal) (fun _ _ h => h)
  have hlen : n < l.length := by
    simp only [Bool.and_eq_true, decide_eq_true_eq, more_len] at h2
    omega
  obtain ⟨f, hf⟩ : ∃ f, l.length = f + 1 := ⟨l.length - 1, by omega⟩
  have key2 : wpAny P .any (more l n i).toArray (fun e a w => e = .normal ∧ Q .normal a w) l.length (Array.replicate l.length false) a0 { w with drawn := w.drawn + 1 } := by
    have := any_rel_tail (P := P) (C := fun W => Below w.heap.size w W) (Q := fun e a w => e = .normal ∧ Q .normal a w) (a0 := a0) (w := { w with drawn := w.drawn + 1 }) (l := more l n i) n R
      (by rw [more_take]; exact h2) hR ⟨rfl, rfl, rfl, Nat.le_refl _, fun _ _ => rfl⟩
      (fun j o hj ho vs W hC hd => by
        have ho' : l[j]? = some o := by
          rw [more_get] at ho
          cases hl : l[j]? with
          | none => rw [hl] at ho; cases ho
          | some o' =>
            rw [hl] at ho
            simp only [Option.map_some, Option.some.injEq, if_neg (show ¬ j = n by omega)] at ho
            rw [ho]
        have htk : (l.take n)[j]? = some o := by rw [List.getElem?_take, if_pos hj]; exact ho'
        have := EachR.get _ 0 j o hE htk vs W hC hd
        rw [Nat.zero_add] at this
        rw [more_take]
        refine wpList_more l n i _ _ _ _ W (forall2_refl _) (wpList_cons_mono (fun e a' w' h => ?_) this)
        obtain ⟨e1, v, e2, e3, e4⟩ := h
        exact ⟨e1, v, e2, e3, hC.trans (e4.mono hC.size), e4⟩)
      (fun vs W hC hv => by
        rw [more_take]
        exact wpList_more l n i _ _ _ _ W (forall2_drop _ _ _ (alkL_more l n i)) (key vs W hC hv))
    rw [more_len] at this
    exact this
  rw [hf] at key2
  have := move_first l n i (Q .normal) f a0 { w with drawn := w.drawn + 1 } g1 (by omega) g2 (by exact g3) (by rw [hf]; exact key2)
  have e : l.toArray.size = f + 1 := by simp [hf]
  rw [e, ← hf]
  have mono : ∀ (fuel : Nat) (listed : Array Bool) (a : Act) (w : World), wpAny P .any l.toArray (fun e a w => e = .normal ∧ Q .normal a w) fuel listed a w → wpAny P .any l.toArray Q fuel listed a w := by
    intro fuel
    induction fuel with
    | zero => intro listed a w h; exact ⟨h.1, h.2.2⟩
    | succ fuel ih =>
      intro listed a w h
      refine ⟨fun h0 => (h.1 h0).2, fun j hj => ?_⟩
      have h1 := h.2 j hj
      unfold wpOp at *
      split at h1
      · exact ih _ _ _ h1
      · split at h1
        · rename_i hw
          rw [if_pos hw]
          rcases h1 with h1 | ⟨-, a, w, h1, -⟩
          · exact Or.inl (wp_normal (fun e a w h => h.1) (fun a w h => ih _ _ _ h) h1)
          · cases h1
        · rename_i hw
          rw [if_neg hw]
          exact ih _ _ _ h1
  rw [hf]
  rw [hf] at this
  exact mono _ _ _ _ this
end Go.Proofs.Ytjigljpodkfchad.QTail
namespace Go.Proofs.Ytjigljpodkfchad
open Go.RowKit
set_option maxRecDepth 100000
set_option maxHeartbeats 40000000
/-- ':is(type)' -/
def isK (t : ByteArray) : SK := .inr (2, [⟨0, some t, 0, []⟩])
def mTy (s : Option ByteArray) (x : Option ByteArray) : Option ByteArray := match s with | none => x | some t => some t
def mNn (s x : Nat) : Nat := if s = 0 then x else s
def mIs (s : Option ByteArray) (x : Option ByteArray) : List SK := match x, s with | some t, some _ => [isK t] | _, _ => []
def mergeK (s : Ck SK) (x : Ck ByteArray) : Ck SK := ⟨s.cb, mTy s.ty x.ty, mNn s.nn x.nn, s.ks ++ mIs s.ty x.ty ++ x.ks.map .inl⟩
theorem ownSeg {w : World} {B z n : Nat} {e : TypeId} {v : Value} {xs : List Value} (h : w.ownsRow B e z v n xs) : ∀ j u, xs[j]? = some u → ∃ g, v = .slice (some ⟨g, 0, none⟩) n (match v with | .slice _ _ c => c | _ => 0) ∧ w.cell? ⟨g, j, none⟩ = some u := fun j u hj => by
  have hlen := (List.getElem?_eq_some_iff.1 hj).1
  rcases h.2 with ⟨e1, e2⟩ | ⟨g, cap, cur, e1, -⟩
  · exact absurd (by rw [e1] at h; have := h.1; rw [e2, Nat.zero_mul] at this; omega) (Nat.lt_irrefl 0)
  · subst e1
    refine ⟨g, rfl, ?_⟩
    have := h.cells (g := g) rfl j u hj
    have ea : (⟨g, 0, none⟩ : Addr).add j = ⟨g, j, none⟩ := by unfold Addr.add; split <;> simp_all
    rw [ea] at this
    exact this
theorem flat_len3 {K : Type} (ls : List (SubR K)) : (flat SubR.cells ls).length = ls.length * 3 := flat_len SubR.cells 3 (fun _ => rfl) ls
theorem flat_one3 {K : Type} {ls : List (SubR K)} : ∀ u ∈ flat SubR.cells ls, u.oneCell' = true := fun u hu => by
  simp only [flat, List.mem_flatMap] at hu
  obtain ⟨s, -, hu⟩ := hu
  simp only [SubR.cells, List.mem_cons, List.not_mem_nil, or_false] at hu
  rcases hu with rfl | rfl | rfl <;> rfl
def upS (s : SubR ByteArray) : SubR SK := ⟨s.t, s.p, .inl s.k⟩
theorem flat_upS (ls : List (SubR ByteArray)) : flat SubR.cells (ls.map upS) = flat SubR.cells ls := by
  simp only [flat, List.flatMap_map]
  rfl
/-- a whole row is appended to the compound that is being made -/
theorem RCo.stepR {lo : Nat} {O : Nat → Prop} {w w8 : World} {tv sv sv' nv : Value} {n m : Nat} {ty : Option ByteArray} {nn : Nat} {ks : List SK} {ns : List (SubR SK)} (h : RCo G1 lo O w tv sv nv n ty nn ks) (hm : ns.length = m) (hs : ∀ s ∈ ns, G1 (fun b => Ob sv b ∨ O b) w s) (hO : ∀ xs, w.ownsRow lo 111 3 sv n xs → w8.ownsRow lo 111 3 sv' (n + m) (xs ++ flat SubR.cells ns)) (hk : Kp (Ob sv) w w8) (hn : ∀ b, Ob sv' b → Ob sv b ∨ w.heap.size ≤ b) (hOl : ∀ b, O b → b < w.heap.size) : RCo G1 lo O w8 tv sv' nv (n + m) ty nn (ks ++ ns.map SubR.k) := by
  obtain ⟨h1, h2, ls, h3, h4, h5, h6, h7⟩ := h
  have hs2 : ∀ b, b < w.heap.size → Ob sv b → Ob sv b ∨ O b := fun b _ q => .inl q
  have ho2 : ∀ b, b < w.heap.size → Ob sv' b ∨ O b → Ob sv b ∨ O b := fun b hb2 q => by
    rcases q with q | q
    · rcases hn b q with q | q
      · exact .inl q
      · omega
    · exact .inr q
  refine ⟨h1.keep hk hs2 ho2, h2.keep hk hs2 ho2, ls ++ ns, by simp [h3, hm], ?_, fun b q e => ?_, fun x hx => ?_, by rw [List.map_append, h7]⟩
  · have := hO _ h4
    rw [show flat SubR.cells (ls ++ ns) = flat SubR.cells ls ++ flat SubR.cells ns by simp [flat]]
    exact this
  · rcases hn b q with q | q
    · exact h5 b q e
    · have := hOl b e; omega
  · rcases List.mem_append.1 hx with hx | hx
    · exact G1.keep _ _ _ _ _ _ (h6 x hx) hk hs2 ho2
    · exact G1.keep _ _ _ _ _ _ (hs x hx) hk hs2 ho2
/-- the compound in the block P, its row sv -/
def Cur (O : Nat → Prop) (w : World) (P : Nat) (sv : Value) (k : Ck SK) : Prop := ∃ tv nv n, Seg w P 0 [tv, sv, nv, .int .i32 0, .int .u8 k.cb, .bool false] ∧ Room w P 6 ∧ O P ∧ RCo G1 0 O w tv sv nv n k.ty k.nn k.ks
/-- the node ':is(type)' that was made -/
def NewIs (M B : Nat) (bk bY Z : Nat) (W : World) : Prop := M ≤ bk ∧ M ≤ bY ∧ M ≤ Z ∧ NewAt W bk #[.pointer (some ⟨B, 0, none⟩), .slice none 0 0, .slice none 0 0, .int .i32 0, .int .u8 0, .bool false] 102 ∧ NewAt W bY #[.slice (some ⟨bk, 0, none⟩) 1 1] 32 ∧ NewAt W Z #[.slice (some ⟨bY, 0, none⟩) 1 1, .string ⟨#[]⟩, .string ⟨#[]⟩, .int .u8 2] 133
theorem NewAt.cell {W : World} {b : Nat} {cs : Array Value} {t : TypeId} (h : NewAt W b cs t) {j : Nat} {v : Value} (hj : cs[j]? = some v) : W.cell? ⟨b, j, none⟩ = some v := by
  unfold NewAt at h
  simp [World.cell?, h, hj]
theorem NewIs.g1 {M B bk bY Z : Nat} {W : World} {O : Nat → Prop} {s : ByteArray} (h : NewIs M B bk bY Z W) (hO : ∀ b, O b → b < M) (hB : ¬ O B) (hs : Seg W B 0 (tyL s)) : G1 O W ⟨128, .pointer (some ⟨Z, 0, none⟩), isK s⟩ := by
  obtain ⟨h1, h2, h3, h4, h5, h6⟩ := h
  have lt : bk < W.heap.size := (Array.getElem?_eq_some_iff.1 h4).1
  refine ⟨rfl, Z, bY, 1, bk, 1, mup (fun _ => 0) 0 W.heap.size, [⟨.pointer (some ⟨B, 0, none⟩), .slice none 0 0, .slice none 0 0, 0⟩], rfl, fun q => by have := hO _ q; omega, fun q => by have := hO _ q; omega, fun q => by have := hO _ q; omega, ?_, h5.cell rfl, lt, Nat.le_refl _, fun k => ?_, rfl, fun k r x hr hx => ?_⟩
  · intro j v hj
    rw [Nat.zero_add]
    exact h6.cell (by simpa using hj)
  · by_cases hk : k = 0
    · subst hk; rw [mup_le (Nat.le_refl _)]; exact Nat.zero_le _
    · rw [mup_gt (by omega), mup_gt (by omega)]; exact Nat.le_refl _
  · cases k with
    | succ k => simp at hr
    | zero =>
      injection hr with hr
      injection hx with hx
      subst hr
      subst hx
      refine ⟨fun j v hj => ?_, rfl, ⟨B, rfl, fun q => ?_, hs⟩, ⟨none, 0, rfl, fun i hi => absurd hi (Nat.not_lt_zero i)⟩, [], World.ownsRow_nil _ _ _ _, fun b q => absurd q ob_nil, (fun s hs => by cases hs), rfl⟩
      · rw [Nat.zero_mul, Nat.zero_add]
        exact h4.cell (by simpa [MR.cells] using hj)
      · have := Seg.lt hs
        rcases q with q | q | q | q
        · exact absurd q ob_nil
        · exact hB q
        · rw [mup_le (Nat.le_refl _)] at q; omega
        · rw [mup_gt (by omega)] at q; omega
end Go.Proofs.Ytjigljpodkfchad
