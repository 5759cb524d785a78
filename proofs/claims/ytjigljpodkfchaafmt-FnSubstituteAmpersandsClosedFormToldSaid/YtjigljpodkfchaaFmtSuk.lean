/- FnSubstituteAmpersandsClosedForm: words on stores of a compound, on rows that are joined. -/
import Derived.Test.YtjigljpodkfchaaFmtSuj
set_option linter.unusedVariables false
set_option linter.unusedSimpArgs false
namespace Go.Proofs.YtjigljpodkfchaaFmt
open Go.RowKit
set_option maxRecDepth 100000
set_option maxHeartbeats 4000000
/-- six cells of a block are stored -/
theorem put6z {w W' : World} {T : Nat} (v0 v1 v2 v3 v4 v5 : Value) (h : Room w T 6) (hW : W' = (((((w.setCell ⟨T, 0, none⟩ v0).setCell ⟨T, 1, none⟩ v1).setCell ⟨T, 2, none⟩ v2).setCell ⟨T, 3, none⟩ v3).setCell ⟨T, 4, none⟩ v4).setCell ⟨T, 5, none⟩ v5) : Seg W' T 0 [v0, v1, v2, v3, v4, v5] ∧ Room W' T 6 ∧ Kp (fun b => b = T) w W' := by
  subst hW
  have := (put6 (w := w) (T := T) (o := 0) v0 v1 v2 v3 v4 v5 (fun j hj => by obtain ⟨v, h1, -⟩ := h j hj; exact ⟨v, by rw [Nat.zero_add]; exact h1⟩)).1
  have Z : ∀ (w1 : World) (j : Nat) (v : Value), Kp (fun b => b = T) w w1 → Kp (fun b => b = T) w (w1.setCell ⟨T, j, none⟩ v) := fun w1 j v hh => hh.set _ _ (.inl rfl)
  exact ⟨by simpa only [Nat.zero_add] using this, (((((h.setA _ _).setA _ _).setA _ _).setA _ _).setA _ _).setA _ _, Z _ 5 v5 (Z _ 4 v4 (Z _ 3 v3 (Z _ 2 v2 (Z _ 1 v1 (Z _ 0 v0 (Kp.refl w))))))⟩
theorem put2z {w W' : World} {T : Nat} {a0 a1 a2 b3 b4 b5 : Value} (v3 v4 : Value) (h : Room w T 6) (hs : Seg w T 0 [a0, a1, a2, b3, b4, b5]) (hW : W' = (w.setCell ⟨T, 3, none⟩ v3).setCell ⟨T, 4, none⟩ v4) : Seg W' T 0 [a0, a1, a2, v3, v4, b5] ∧ Room W' T 6 ∧ Kp (fun b => b = T) w W' := by
  subst hW
  have Z : ∀ (w1 : World) (j : Nat) (v : Value), Kp (fun b => b = T) w w1 → Kp (fun b => b = T) w (w1.setCell ⟨T, j, none⟩ v) := fun w1 j v hh => hh.set _ _ (.inl rfl)
  exact ⟨(hs.set 3 v3 (by simp)).set 4 v4 (by simp), (h.setA _ _).setA _ _, Z _ 4 v4 (Z _ 3 v3 (Kp.refl w))⟩
theorem put1z {w W' : World} {T : Nat} {a0 a1 a2 b3 b4 b5 : Value} (v1 : Value) (h : Room w T 6) (hs : Seg w T 0 [a0, a1, a2, b3, b4, b5]) (hW : W' = w.setCell ⟨T, 1, none⟩ v1) : Seg W' T 0 [a0, v1, a2, b3, b4, b5] ∧ Room W' T 6 ∧ Kp (fun b => b = T) w W' := by
  subst hW
  exact ⟨hs.set 1 v1 (by simp), h.setA _ _, (Kp.refl w).set _ _ (.inl rfl)⟩
/-- a row of the stand-in's, seen beside the row that was there -/
theorem G1.join {Zs Zs1 O O1 : Nat → Prop} {w : World} {s : SubR SK} (h : G1 Zs1 O1 w s) (h1 : ∀ b, b < w.heap.size → O b → O1 b) (h2 : ∀ b, b < w.heap.size → Zs b → O1 b) : G1 (fun b => Zs b ∨ Zs1 b) O w s := by
  obtain ⟨t, p, k⟩ := s
  have hmono : ∀ b, b < w.heap.size → (O b ∨ Zs b ∨ Zs1 b) → O1 b ∨ Zs1 b := fun b hb q => by
    rcases q with q | q | q
    · exact .inl (h1 b hb q)
    · exact .inl (h2 b hb q)
    · exact .inr q
  cases k with
  | inl nm => exact G0.keep _ _ _ _ _ h (fun a v hc _ => hc) hmono
  | inr pk =>
    obtain ⟨e1, Z, a, c, n, ls, e2, e3, e4, e5, e6, e7⟩ := h
    have hlt := Seg.lt e5
    exact ⟨e1, Z, a, c, n, ls, e2, .inr e3, fun q => e4 (h1 Z hlt q), e5, RCx.keep G0.keep e6 (fun a v hc _ => hc) hmono, e7⟩
theorem SubR.ptr_block {Zs O : Nat → Prop} {w : World} {s : SubR SK} (h : G1 Zs O w s) : ∃ B, s.p = .pointer (some ⟨B, 0, none⟩) ∧ ¬ O B ∧ B < w.heap.size ∧ (s.t = 116 → Zs B) ∧ (Zs B → s.t = 116) := by
  obtain ⟨t, p, k⟩ := s
  cases k with
  | inl nm =>
    obtain ⟨h1, B, h2, h3, h4, -⟩ := h
    simp only at h1 h2
    exact ⟨B, h2, fun q => h3 (.inl q), Seg.lt h4, (fun q => by have q : t = 116 := q; rw [h1] at q; cases q), fun q => absurd (.inr q) h3⟩
  | inr pk =>
    obtain ⟨e1, Z, a, c, n, ls, e2, e3, e4, e5, -⟩ := h
    simp only at e1 e2
    exact ⟨Z, e2, e4, Seg.lt e5, fun _ => e3, fun _ => e1⟩
theorem Dist.join {Zs Zs1 O O1 : Nat → Prop} {w : World} {l l1 : List (SubR SK)} (h : Dist l) (h1 : Dist l1) (hg : ∀ s ∈ l, G1 Zs O w s) (hg1 : ∀ s ∈ l1, G1 Zs1 O1 w s) (hz : ∀ b, Zs b → O1 b) (hz1 : ∀ b, Zs1 b → ∀ s ∈ l, s.p ≠ .pointer (some ⟨b, 0, none⟩)) : Dist (l1 ++ l) := fun i j s s' hi hj hij ht => by
  rw [List.getElem?_append] at hi hj
  split at hi <;> split at hj
  · exact h1 i j s s' hi hj hij ht
  · obtain ⟨B, e1, e2, e3, e4, e5⟩ := SubR.ptr_block (hg1 s (List.mem_of_getElem? hi))
    rw [e1]
    exact hz1 B (e4 ht) s' (List.mem_of_getElem? hj)
  · obtain ⟨B, e1, e2, e3, e4, e5⟩ := SubR.ptr_block (hg s (List.mem_of_getElem? hi))
    obtain ⟨B', f1, f2, f3, f4, f5⟩ := SubR.ptr_block (hg1 s' (List.mem_of_getElem? hj))
    intro q
    rw [e1, f1] at q
    injection q with q
    injection q with q
    injection q with q
    subst q
    exact f2 (hz _ (e4 ht))
  · exact h _ _ s s' hi hj (by omega) ht
theorem RowG.split {Zs O : Nat → Prop} {w : World} {a : Option Addr} {ls : List (SubR SK)} (h : RowG Zs O w a ls) : ∀ s ∈ ls, G1 Zs O w s := fun s hs => by
  obtain ⟨i, hi⟩ := List.getElem?_of_mem hs
  exact (h i s hi).choose_spec.2.2.2.2
def ecomb (c : Int) (k : Nat) (st rc : Int) : Int := if c ≠ 0 ∨ k = 0 ∨ st = 1 then c else rc
theorem ecomb_next0 {cb rc : Int} {k : Nat} (h : ecomb cb k 0 rc = 0) : ecomb cb (k + 1) 0 rc = rc := by
  unfold ecomb at *
  by_cases hc : cb = 0
  · rw [if_neg (by simp [hc])]
  · rw [if_pos (.inl hc)] at h; exact absurd h hc
theorem ecomb_next1 {cb rc : Int} {k : Nat} (h : ecomb cb k 1 rc = 0) : ecomb cb (k + 1) 1 rc = 0 := by
  unfold ecomb at *
  rw [if_pos (.inr (.inr rfl))] at h ⊢
  exact h
theorem ecomb_nextn {cb rc st : Int} {k : Nat} (h : ecomb cb k st rc ≠ 0) : ecomb cb (k + 1) st rc = ecomb cb k st rc := by
  unfold ecomb at *
  by_cases hc : cb ≠ 0 ∨ st = 1
  · rw [if_pos (by rcases hc with q | q; exact .inl q; exact .inr (.inr q)), if_pos (by rcases hc with q | q; exact .inl q; exact .inr (.inr q))]
  · by_cases hk : k = 0
    · rw [if_pos (.inr (.inl hk))] at h
      exact absurd h (fun q => hc (.inl q))
    · rw [if_neg (by simp at hc ⊢; omega), if_neg (by simp at hc ⊢; omega)]
theorem ob_nil {n c b : Nat} : ¬ Ob (.slice none n c) b := fun q => by simp [Ob, Value.ownBlock] at q
/-- k times the stand-in's, then the own names -/
def subk (k : Nat) (rep : List SK) (nm : List ByteArray) : List SK := (List.replicate k rep).flatten ++ nm.map .inl
theorem subk_zero {rep : List SK} {nm : List ByteArray} : subk 0 rep nm = nm.map .inl := by simp [subk]
theorem subk_succ {k : Nat} {rep : List SK} {nm : List ByteArray} : subk (k + 1) rep nm = rep ++ subk k rep nm := by simp [subk, List.replicate_succ]
theorem subk_len {k : Nat} {rep : List SK} {nm : List ByteArray} : (subk k rep nm).length = k * rep.length + nm.length := by
  induction k with
  | zero => simp [subk_zero]
  | succ k ih => rw [subk_succ, List.length_append, ih, Nat.succ_mul]; omega
theorem subk_inr {k : Nat} {rep : List SK} {nm : List ByteArray} {pk : List (List (CK ByteArray))} (h : Sum.inr pk ∈ subk k rep nm) : Sum.inr pk ∈ rep := by
  induction k with
  | zero => rw [subk_zero] at h; simp at h
  | succ k ih =>
    rw [subk_succ] at h
    rcases List.mem_append.1 h with h | h
    · exact h
    · exact ih h
theorem chain_k {W0 W5 Wc w1 w2 W3 : World} {P S : Nat} {v1 : Value} (b5 : Below W0.heap.size W0 W5) (k9 : Kp (fun b => b = P ∨ b = S) W5 Wc) (hS : W0.heap.size ≤ S) (k1 : Kp (Ob (.slice none 0 0)) Wc w1) (n1 : ∀ b, Ob v1 b → Ob (.slice none 0 0) b ∨ Wc.heap.size ≤ b) (k2 : Kp (Ob v1) w1 w2) (k3 : Kp (fun b => b = P) w2 W3) : Kp (fun b => b = P) W0 W3 := by
  have z1 := b5.size
  have z2 := k9.size
  refine ((((Kp.of b5).trans' k9 (fun b q hb => ?_)).trans' k1 (fun b q _ => absurd q ob_nil)).trans' k2 (fun b q hb => ?_)).trans k3
  · rcases q with q | q
    · exact q
    · omega
  · rcases n1 b q with q | q
    · exact absurd q ob_nil
    · omega
theorem Kp.pre {S : Nat → Prop} {w w1 w2 : World} (h' : Kp S w1 w2) (h : Below w.heap.size w w1) : Kp S w w2 := (Kp.of h).trans h'
/-- one list is made anew in its node -/
theorem RowG.redo {Zs O : Nat → Prop} {w w' : World} {aj : Option Addr} {lj : List (SubR SK)} (h : RowG Zs O w aj lj) (hD : Dist lj) {i Z : Nat} {x : SubR SK} (hi : lj[i]? = some x) (hx : x.t = 116) (hxp : x.p = .pointer (some ⟨Z, 0, none⟩)) (hZs : Zs Z) (hk : Kc (fun b => b = Z) w w') (hnew : G1 Zs O w' x) : RowG Zs O w' aj lj := fun j s hj => by
  obtain ⟨g, e1, e2, e3, e4, e5⟩ := h j s hj
  refine ⟨g, e1, e2, e3, e4.keep hk (fun q => e3 (by rw [show g = Z from q]; exact hZs)), ?_⟩
  by_cases hij : i = j
  · subst hij
    rw [hi] at hj
    injection hj with hj
    subst hj
    exact hnew
  · exact e5.keep (S := fun b => b = Z) (fun a v hc hn => hk a v hc (fun q => hn (.inr q))) (fun _ _ q => q) (fun _ _ => Iff.rfl) (fun b q => by rw [q]; exact hZs) (fun Z' _ hp q => hD i j x s hi hj hij hx (by rw [hp, hxp, q]))
theorem put2cell {w W' : World} {T : Nat} {a0 a1 a2 b3 b4 b5 : Value} (v2 : Value) (h : Room w T 6) (hs : Seg w T 0 [a0, a1, a2, b3, b4, b5]) (hW : W' = w.setCell ⟨T, 2, none⟩ v2) : Seg W' T 0 [a0, a1, v2, b3, b4, b5] ∧ Room W' T 6 ∧ Kp (fun b => b = T) w W' := by
  subst hW
  exact ⟨hs.set 2 v2 (by simp), h.setA _ _, (Kp.refl w).set _ _ (.inl rfl)⟩
theorem segs4 {w : World} {b o : Nat} {v0 v1 v2 v3 : Value} (h : Seg w b o [v0, v1, v2, v3]) : w.cell? ⟨b, o, none⟩ = some v0 ∧ w.cell? ⟨b, o + 1, none⟩ = some v1 ∧ w.cell? ⟨b, o + 2, none⟩ = some v2 ∧ w.cell? ⟨b, o + 3, none⟩ = some v3 :=
  ⟨by simpa using h 0 _ rfl, h 1 _ rfl, h 2 _ rfl, h 3 _ rfl⟩
/-- the stand-in's row ahead of what was there -/
theorem join_row {Zs Zs1 O O1 : Nat → Prop} {Wr w7 w3 : World} {lj l1 : List (SubR SK)} {aj a1 a' : Option Addr} {c' n B : Nat} (hG : RowG Zs O Wr aj lj) (hG1 : RowG Zs1 O1 w7 a1 l1) (k1 : Kc O Wr w3) (k2 : Kc O1 w7 w3) (hO1 : ∀ b, O b → O1 b) (hZ : ∀ b, Zs b → O1 b) (hZ1 : ∀ b, Zs1 b → Wr.heap.size ≤ b) (hZl : ∀ b, Zs b → b < B) (hZl1 : ∀ b, Zs1 b → b < B) (hOl : ∀ b, O b → b < B) (hD : Dist lj) (hD1 : Dist l1) (hn : (l1 ++ lj).length = n) (hown : w3.ownsRow B 107 3 (.slice a' n c') n (flat SubR.cells (l1 ++ lj))) : RowG (fun b => Zs b ∨ Zs1 b) O w3 a' (l1 ++ lj) ∧ Dist (l1 ++ lj) := by
  have hzr : ∀ b, b < Wr.heap.size → ((Zs b ∨ Zs1 b) ↔ Zs b) := fun b hb => ⟨fun q => q.elim id (fun q => by have := hZ1 b q; omega), .inl⟩
  have hA := RowG.split (hG.keep (O' := O) (Zs' := fun b => Zs b ∨ Zs1 b) k1 (fun _ _ q => q) hzr)
  have hB1 := RowG.split (hG1.keep (O' := O1) (Zs' := Zs1) k2 (fun _ _ q => q) (fun _ _ => Iff.rfl))
  have hAll : ∀ s ∈ l1 ++ lj, G1 (fun b => Zs b ∨ Zs1 b) O w3 s := fun s hs => by
    rcases List.mem_append.1 hs with hs | hs
    · exact (hB1 s hs).join (fun b _ q => hO1 b q) (fun b _ q => hZ b q)
    · exact hA s hs
  refine ⟨fun i s hi => ?_, Dist.join hD hD1 (Zs := Zs) (O := O) (Zs1 := Zs1) (O1 := O1) (w := w3) (RowG.split (hG.keep (O' := O) (Zs' := Zs) k1 (fun _ _ q => q) (fun _ _ => Iff.rfl))) hB1 hZ (fun b hb s hs => ?_)⟩
  · have hil : i < n := by rw [← hn]; exact (List.getElem?_eq_some_iff.1 hi).1
    obtain ⟨g, c9, e9, hg1, hg2, -, -⟩ := own_some hown (by omega)
    injection e9 with e9 _ _
    subst e9
    exact ⟨g, rfl, fun q => by have := hOl g q; omega, fun q => by rcases q with q | q; (have := hZl g q; omega); (have := hZl1 g q; omega), fun j v hj => own_at SubR.len hown hi hj, hAll s (List.mem_of_getElem? hi)⟩
  · obtain ⟨B', e1, -, e3, -⟩ := SubR.ptr_block (RowG.split hG s hs)
    rw [e1]
    intro q
    injection q with q
    injection q with q
    injection q with q
    have := hZ1 b hb
    omega
end Go.Proofs.YtjigljpodkfchaaFmt
