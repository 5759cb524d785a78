/- FnFlattenMatchesStreamModel: words on the model's groups. -/
import Derived.Test.YtjigljpodkfchadFme
import Derived.Laws.Closers25b
set_option linter.unusedVariables false
set_option linter.unusedSimpArgs false
namespace Go.Proofs.Ytjigljpodkfchad
open Go.RowKit
set_option maxRecDepth 100000
set_option maxHeartbeats 40000000
/-- the last group's row of its own lies in a block of no other group -/
def Dis (rs : List GR) : Prop := ∀ (i : Nat) r z, rs[i]? = some r → i + 1 < rs.length → rs.getLast? = some z → ∀ b, Ob r.sv b → ¬ Ob z.sv b
/-- how the groups stand -/
def Grs (w : World) (B : Nat) (v : Value) (rs : List GR) (gs : List Gp) (K : Nat) : Prop := GsR w B v rs gs ∧ Dis rs ∧ (∀ g ∈ gs, g.nn ≤ K)
theorem Grs.after {w w' : World} {B : Nat} {v : Value} {rs : List GR} {gs : List Gp} {K : Nat} (h : Grs w B v rs gs K) (hb : Below w.heap.size w w') : Grs w' B v rs gs K := ⟨h.1.after hb, h.2.1, h.2.2⟩
theorem last_at {α : Type} {l : List α} {z : α} (h : l.getLast? = some z) : l[l.length - 1]? = some z := by rw [← List.getLast?_eq_getElem?]; exact h
theorem Grs.push {w w8 : World} {B K K' : Nat} {v v' : Value} {rs : List GR} {gs : List Gp} {c : Int} (h : Grs w B v rs gs K) (hK : K ≤ K') (hO : w8.ownsRow B 114 5 v' (gs.length + 1) (flat GR.cells rs ++ [.int .u8 c, .string ⟨#[]⟩, .int .i64 0, .slice none 0 0, .bool false])) (hk : Kp (Ob v) w w8) : Grs w8 B v' (rs ++ [⟨c, ⟨#[]⟩, 0, .slice none 0 0, false⟩]) (gs ++ [newG c]) K' := by
  refine ⟨h.1.push (Below.refl _ _) ⟨rfl, rfl, rfl, rfl, World.ownsRow_nil _ _ _ _⟩ hO hk, fun i r z hr hi hz b q => ?_, fun g hg => ?_⟩
  · rw [List.getLast?_append] at hz
    simp at hz
    subst hz
    exact ob_nil
  · rcases List.mem_append.1 hg with hg | hg
    · exact Nat.le_trans (h.2.2 g hg) hK
    · rw [List.mem_singleton] at hg
      subst hg
      exact Nat.zero_le _
/-- what one reads of the last group -/
theorem Grs.last {w : World} {B n c K : Nat} {a : Option Addr} {rs : List GR} {gs : List Gp} (h : Grs w B (.slice a n c) rs gs K) (hne : gs ≠ []) : ∃ b rs0 r gs0 g, a = some ⟨b, 0, none⟩ ∧ rs = rs0 ++ [r] ∧ gs = gs0 ++ [g] ∧ n = gs0.length + 1 ∧ rs0.length = gs0.length ∧ GRd w B r g := by
  obtain ⟨gs0, g, rfl⟩ : ∃ gs0 g, gs = gs0 ++ [g] := ⟨gs.dropLast, gs.getLast hne, (List.dropLast_concat_getLast hne).symm⟩
  have hl := h.1.2.1
  have hrne : rs ≠ [] := fun e => by rw [e] at hl; simp at hl
  obtain ⟨rs0, r, rfl⟩ : ∃ rs0 r, rs = rs0 ++ [r] := ⟨rs.dropLast, rs.getLast hrne, (List.dropLast_concat_getLast hrne).symm⟩
  have hl2 : rs0.length = gs0.length := by simpa using hl
  obtain ⟨a', c', e⟩ := own_head h.1.1
  injection e with e1 e2 e3
  obtain ⟨b, c2, eb, -⟩ := own_some h.1.1 (by simp)
  injection eb with eb1 _ _
  refine ⟨b, rs0, r, gs0, g, eb1, rfl, rfl, by rw [e2]; simp, hl2, h.1.2.2 gs0.length r g (by rw [List.getElem?_append_right (by omega)]; simp [hl2]) (by simp)⟩
/-- the last group is written in place; its own row may be another -/
theorem Grs.put {w w7 w8 : World} {B n c K K' b : Nat} {rs0 : List GR} {r r' : GR} {gs0 : List Gp} {g g' : Gp} (h : Grs w B (.slice (some ⟨b, 0, none⟩) n c) (rs0 ++ [r]) (gs0 ++ [g]) K) (hn : n = gs0.length + 1) (hl : rs0.length = gs0.length) (hk7 : Kp (Ob r.sv) w w7) (hnew : ∀ k, Ob r'.sv k → Ob r.sv k ∨ w.heap.size ≤ k) (hw : ∃ j u, w8 = w7.setCell ⟨b, gs0.length * 5 + j, none⟩ u ∧ r'.cells = r.cells.set j u ∧ j < 5) (hr' : GRd w7 B r' g') (hK : K ≤ K') (hg : g'.nn ≤ K') : Grs w8 B (.slice (some ⟨b, 0, none⟩) n c) (rs0 ++ [r']) (gs0 ++ [g']) K' := by
  obtain ⟨h1, h2, h3⟩ := h
  obtain ⟨j, u, hw8, hcs, hj⟩ := hw
  have hlen : (gs0 ++ [g]).length = n := by rw [hn]; simp
  have hown0 := h1.1
  rw [hlen] at hown0
  have hrd := h1.2.2 gs0.length r g (by rw [List.getElem?_append_right (by omega)]; simp [hl]) (by simp)
  have hown7 := hk7.own hown0 (fun k q e => hrd.ne hown0 k e q)
  obtain ⟨hs1, hs2⟩ := hown7.stored (gs0.length * 5 + j) u
  rw [← hw8] at hs1 hs2
  have hk8 : Kp (fun k => k = b) w7 w8 := (Kp.grown hs2).wide (fun k q => by injection q with q; exact q.symm)
  have hset : (flat GR.cells (rs0 ++ [r])).set (gs0.length * 5 + j) u = flat GR.cells (rs0 ++ [r']) := by
    have hf : (flat GR.cells rs0).length = gs0.length * 5 := by rw [flat_len GR.cells 5 (fun _ => rfl), hl]
    rw [show flat GR.cells (rs0 ++ [r]) = flat GR.cells rs0 ++ r.cells by simp [flat], show flat GR.cells (rs0 ++ [r']) = flat GR.cells rs0 ++ r'.cells by simp [flat], List.set_append_right _ _ (by omega), hf, hcs]
    congr 2
    omega
  rw [hset] at hs1
  have hbO : ∀ {w : World} {r : GR} {g : Gp} {xs : List Value} {m : Nat}, GRd w B r g → w.ownsRow B 114 5 (.slice (some ⟨b, 0, none⟩) n c) m xs → ¬ Ob r.sv b := fun hh ho q => hh.ne ho b q rfl
  refine ⟨⟨by rw [show (gs0 ++ [g']).length = n by rw [hn]; simp]; exact hs1, by simp [hl], fun i x y hx hy => ?_⟩, fun i x z hx hi hz k q => ?_, fun y hy => ?_⟩
  · by_cases hi : i < gs0.length
    · rw [List.getElem?_append_left (by omega)] at hx hy
      have hd := h1.2.2 i x y (by rw [List.getElem?_append_left (by omega)]; exact hx) (by rw [List.getElem?_append_left (by omega)]; exact hy)
      have hdis := h2 i x r (by rw [List.getElem?_append_left (by omega)]; exact hx) (by simp; omega) (by simp)
      have h7 := hd.keep hk7 (fun k q e => hdis k q e)
      exact h7.keep hk8 (fun k q e => by have e' : k = b := e; subst e'; exact hbO h7 hown7 q)
    · have hi2 : i = gs0.length := by have := (List.getElem?_eq_some_iff.1 hy).1; simp at this; omega
      subst hi2
      rw [List.getElem?_append_right (by omega), hl, Nat.sub_self] at hx
      rw [List.getElem?_append_right (by omega), Nat.sub_self] at hy
      injection hx with hx
      injection hy with hy
      subst hx hy
      exact hr'.keep hk8 (fun k q e => by have e' : k = b := e; subst e'; exact hbO hr' hown7 q)
  · simp at hz
    subst hz
    simp at hi
    have hx' : rs0[i]? = some x := by rw [List.getElem?_append_left (by omega)] at hx; exact hx
    intro q2
    have hd := h1.2.2 i x _ (by rw [List.getElem?_append_left (by omega)]; exact hx') (List.getElem?_eq_getElem (by simp; omega))
    rcases hnew k q2 with q3 | q3
    · exact h2 i x r (by rw [List.getElem?_append_left (by omega)]; exact hx') (by simp; omega) (by simp) k q q3
    · have := (hd.2.2.2.2.lt k q).2; omega
  · rcases List.mem_append.1 hy with hy | hy
    · exact Nat.le_trans (h3 y (List.mem_append_left _ hy)) hK
    · rw [List.mem_singleton] at hy
      subst hy
      exact hg
/-- what the round leaves when the last group is written -/
theorem Grs.fin {its : List It} {q nI q0 gc gb ib cI : Nat} {it : It} {w W2 w7 w8 : World} {rs0 : List GR} {gs0 : List Gp} {r r' : GR} {g g' : Gp} (hit : its[q]? = some it) (hq : q < nI) (hgs : (its.take q).foldl gsL [] = gs0 ++ [g]) (h66 : it.tg ≠ 66) (hq0 : gs0.length = q0) (hl0 : rs0.length = q0) (hG : Grs W2 w.heap.size (.slice (some ⟨gb, 0, none⟩) (q0 + 1) gc) (rs0 ++ [r]) (gs0 ++ [g]) (255 * q)) (hI : ItB (.slice (some ⟨ib, 0, none⟩) nI cI) its w W2) (hrd : GRd W2 w.heap.size r g)
    (hk7 : Kp (Ob r.sv) W2 w7) (hnew : ∀ k, Ob r'.sv k → Ob r.sv k ∨ W2.heap.size ≤ k) (hw : ∃ j u, w8 = w7.setCell ⟨gb, q0 * 5 + j, none⟩ u ∧ r'.cells = r.cells.set j u ∧ j < 5) (hr' : GRd w7 w.heap.size r' g') (hnn : g'.nn ≤ 255 * (q + 1)) (hg' : gst g it = g') : ∃ (q' gn : Nat) (ga : Option Addr) (gc' : Nat) (rs : List GR), q' ≤ nI ∧ Value.int .i64 ((q : Int) + 1) = .int .i64 q' ∧ Value.slice (some ⟨gb, 0, none⟩) (q0 + 1) gc = .slice ga gn gc' ∧ gn = ((its.take q').foldl gsL []).length ∧ Grs w8 w.heap.size (.slice ga gn gc') rs ((its.take q').foldl gsL []) (255 * q') ∧ ItB (.slice (some ⟨ib, 0, none⟩) nI cI) its w w8 ∧ (0 < q' → (its.take q').foldl gsL [] ≠ []) := by
  have hstep : (its.take (q + 1)).foldl gsL [] = gs0 ++ [g'] := by rw [foldl_take gsL [] hit, hgs, gsL_o _ _ _ h66, hg']
  have hP := hG.put (by rw [hq0]) (by rw [hq0]; exact hl0) hk7 hnew (by rw [hq0]; exact hw) hr' (K' := 255 * (q + 1)) (by omega) hnn
  obtain ⟨j, u, hw8, -, -⟩ := hw
  have hwz : w.heap.size ≤ W2.heap.size := hI.2.size
  have hk8 : Kp (fun k => k = gb) w7 w8 := by rw [hw8]; exact (Kp.refl _).set _ _ (.inl rfl)
  have hlow : w.heap.size ≤ gb := (hG.1.1.lt gb rfl).1
  refine ⟨q + 1, q0 + 1, some ⟨gb, 0, none⟩, gc, rs0 ++ [r'], by omega, by simp, rfl, by rw [hstep]; simp [hq0], by rw [hstep]; exact hP, ⟨hk8.own (hk7.own hI.1 (own_ne hI.1 hrd.2.2.2.2 (by decide))) (fun k e1 e2 => ?_), hI.2.trans ((hk7.below hwz (fun k q => (hrd.2.2.2.2.lt k q).1)).trans (hk8.below (Nat.le_trans hwz hk7.size) (fun k e => by have : k = gb := e; omega)))⟩, fun _ => by rw [hstep]; simp⟩
  have e2' : k = gb := e2
  subst e2'
  exact own_ne hI.1 hG.1.1 (by decide) k e1 rfl
theorem Grs.keepG' {its : List It} {q nI q0 gc gb ib cI : Nat} {it : It} {w W2 : World} {rs : List GR} {gs0 : List Gp} {g : Gp} (hit : its[q]? = some it) (hq : q < nI) (hgs : (its.take q).foldl gsL [] = gs0 ++ [g]) (h66 : it.tg ≠ 66) (hq0 : gs0.length = q0) (hG : Grs W2 w.heap.size (.slice (some ⟨gb, 0, none⟩) (q0 + 1) gc) rs (gs0 ++ [g]) (255 * q)) (hI : ItB (.slice (some ⟨ib, 0, none⟩) nI cI) its w W2) (hg' : gst g it = g) : ∃ (q' gn : Nat) (ga : Option Addr) (gc' : Nat) (rs : List GR), q' ≤ nI ∧ Value.int .i64 ((q : Int) + 1) = .int .i64 q' ∧ Value.slice (some ⟨gb, 0, none⟩) (q0 + 1) gc = .slice ga gn gc' ∧ gn = ((its.take q').foldl gsL []).length ∧ Grs W2 w.heap.size (.slice ga gn gc') rs ((its.take q').foldl gsL []) (255 * q') ∧ ItB (.slice (some ⟨ib, 0, none⟩) nI cI) its w W2 ∧ (0 < q' → (its.take q').foldl gsL [] ≠ []) := by
  have hstep : (its.take (q + 1)).foldl gsL [] = gs0 ++ [g] := by rw [foldl_take gsL [] hit, hgs, gsL_o _ _ _ h66, hg']
  exact ⟨q + 1, q0 + 1, some ⟨gb, 0, none⟩, gc, rs, by omega, by simp, rfl, by rw [hstep]; simp [hq0], by rw [hstep]; exact ⟨hG.1, hG.2.1, fun x hx => by have := hG.2.2 x hx; omega⟩, hI, fun _ => by rw [hstep]; simp⟩
theorem GsR.keepO {w w' : World} {B B' n z : Nat} {v u : Value} {xs : List Value} {rs : List GR} {gs : List Gp} (h : GsR w B v rs gs) (hu : w.ownsRow B' 114 z u n xs) (hk : Kp (Ob u) w w') (hv : ∀ b, Ob v b → ¬ Ob u b) : GsR w' B v rs gs := ⟨hk.own h.1 hv, h.2.1, fun j r g hr hg => (h.2.2 j r g hr hg).keep hk ((h.2.2 j r g hr hg).ne hu)⟩
theorem keepG_take {gs : List Gp} {q : Nat} {g : Gp} (h : gs[q]? = some g) : keepG (gs.take (q + 1)) = keepG (gs.take q) ++ (if full1 g then [g] else []) := by
  rw [List.take_add_one, h]
  unfold keepG
  rw [List.filter_append]
  congr 1
  simp [List.filter_cons]
theorem keepG_le (gs : List Gp) (q : Nat) : (keepG (gs.take q)).length ≤ q := by
  have := List.length_filter_le full1 (gs.take q)
  have h2 : (gs.take q).length ≤ q := by simp; omega
  unfold keepG
  omega
theorem emB (s : ByteArray) : s.toList.isEmpty = decide (s = ⟨#[]⟩) := by
  have h := toList_nil_iff_emptyBytes s
  have e : (ByteArray.empty : ByteArray) = ⟨#[]⟩ := rfl
  rw [e] at h
  by_cases hs : s = ⟨#[]⟩
  · rw [decide_eq_true hs, List.isEmpty_iff.2 (h.2 hs)]
  · rw [decide_eq_false hs]
    cases hc : s.toList.isEmpty with
    | false => rfl
    | true => exact absurd (h.1 (List.isEmpty_iff.1 hc)) hs
theorem gsL_ne {gs : List Gp} {it : It} (h : gs ≠ [] ∨ it.tg = 66) : gsL gs it ≠ [] := by
  unfold gsL
  by_cases ht : it.tg = 66
  · rw [if_pos ht]; simp
  · rw [if_neg ht]
    rcases h with h | h
    · rw [List.getLast?_eq_some_getLast h]; simp
    · exact absurd h ht
theorem gsL_len {gs : List Gp} {it : It} : gs.length ≤ (gsL gs it).length := by
  unfold gsL
  split
  · simp
  · cases hz : gs.getLast? with
    | none => simp
    | some g =>
      have : gs ≠ [] := fun e => by rw [e] at hz; cases hz
      have h1 : 0 < gs.length := List.length_pos_iff.2 this
      simp
      omega
theorem gsF_len (l : List It) : ∀ gs : List Gp, gs.length ≤ (l.foldl gsL gs).length := by
  induction l with
  | nil => exact fun _ => Nat.le_refl _
  | cons x r ih => exact fun gs => Nat.le_trans gsL_len (ih (gsL gs x))
/-- a group holds no more names than there were items -/
theorem gst_ks (g : Gp) (it : It) : (gst g it).ks.length ≤ g.ks.length + 1 := by
  unfold gst
  repeat' split
  all_goals simp
theorem gsL_ks {gs : List Gp} {it : It} {K : Nat} (h : ∀ g ∈ gs, g.ks.length ≤ K) : ∀ g ∈ gsL gs it, g.ks.length ≤ K + 1 := by
  unfold gsL
  split
  · intro g hg
    rcases List.mem_append.1 hg with hg | hg
    · have := h g hg; omega
    · rw [List.mem_singleton] at hg; subst hg; simp [newG]
  · cases hz : gs.getLast? with
    | none => intro g hg; have := h g hg; omega
    | some z =>
      intro g hg
      simp only at hg
      rcases List.mem_append.1 hg with hg | hg
      · have := h g (List.dropLast_subset _ hg); omega
      · rw [List.mem_singleton] at hg
        subst hg
        have h1 := h z (List.mem_of_getLast? hz)
        have h2 := gst_ks z it
        omega
theorem ksF_len (its : List It) : ∀ (q : Nat) (g : Gp), g ∈ (its.take q).foldl gsL [] → g.ks.length ≤ q := by
  intro q
  induction q with
  | zero => intro g hg; simp at hg
  | succ q ih =>
    intro g hg
    cases hi : its[q]? with
    | none =>
      rw [List.take_add_one, hi] at hg
      have := ih g (by simpa using hg)
      omega
    | some it =>
      rw [foldl_take gsL [] hi] at hg
      exact gsL_ks ih g hg
end Go.Proofs.Ytjigljpodkfchad
