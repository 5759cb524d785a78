/- Words on lists of tokens that are appended. -/
import Derived.Test.YthdogpahkglaoaaDoorBcm
import Derived.Test.YthdogpahkglaoaaDoorBcj
import Derived.Test.YthdogpahkglaoaaDoorAn
set_option linter.unusedVariables false
set_option linter.unusedSimpArgs false
namespace Go.Proofs.YthdogpahkglaoaaDoor
open Go.RowKit
/-- a row of tokens of capacity four -/
structure RT (w : World) (T k : Nat) (P : Nat → Tk) : Prop where
  ro : RO w T 28
  tk : ∀ i, i < k → TAt w T (i * 7) (P i)
theorem RT.after {w w' : World} {T k : Nat} {P : Nat → Tk} (h : RT w T k P) (hb : Below w.heap.size w w') : RT w' T k P := ⟨h.ro.after hb, fun i hi => (h.tk i hi).after hb⟩
theorem TAt.move {w w' : World} {T T' o o' : Nat} {t : Tk} (h : TAt w T o t) (hk : ∀ f, f < 7 → w'.cell? ⟨T', o' + f, none⟩ = w.cell? ⟨T, o + f, none⟩) : TAt w' T' o' t :=
  ⟨(hk 0 (by omega)).trans h.c0, (hk 1 (by omega)).trans h.c1, (hk 2 (by omega)).trans h.c2, (hk 3 (by omega)).trans h.c3, (hk 4 (by omega)).trans h.c4, (hk 5 (by omega)).trans h.c5, (hk 6 (by omega)).trans h.c6⟩
theorem RO.own {w : World} {T k : Nat} (h : RO w T 28) (hk : k ≤ 4) (base : Nat) (hb : base ≤ T) : ∃ xs : List Value, xs.length = k * 7 ∧ w.ownsRow base 32 7 (.slice (some ⟨T, 0, none⟩) k 4) k xs ∧ (∀ j, j < k * 7 → w.cell? ⟨T, j, none⟩ = xs[j]?) ∧ ∀ u ∈ xs, ∃ j, j < k * 7 ∧ w.cell? ⟨T, j, none⟩ = some u := by
  obtain ⟨cs, h1, h2⟩ := h
  have hl : (cs.toList.take (k * 7)).length = k * 7 := by rw [List.length_take]; simp; omega
  have hc : ∀ j, j < k * 7 → w.cell? ⟨T, j, none⟩ = (cs.toList.take (k * 7))[j]? := fun j hj => by
    rw [List.getElem?_take, if_pos hj]
    simp [World.cell?, h1]
  refine ⟨cs.toList.take (k * 7), hl, ⟨hl, .inr ⟨T, 4, cs, rfl, hb, h1, hk, by unfold maxLen; omega, by omega, rfl⟩⟩, hc, fun u hu => ?_⟩
  obtain ⟨j, hj, e⟩ := List.getElem_of_mem hu
  exact ⟨j, by omega, by rw [hc j (by omega), List.getElem?_eq_getElem hj, e]⟩
/-- the tokens of two lists with one between -/
def tok3 (k1 : Nat) (P1 : Nat → Tk) (s : Tk) (P2 : Nat → Tk) (i : Nat) : Tk := if i < k1 then P1 i else if i = k1 then s else P2 (i - k1 - 1)
theorem tok3_at {w w1 w2 : World} {B T1 T2 k1 k2 g n c : Nat} {P1 P2 : Nat → Tk} {s : Tk} {xs news : List Value} (hs : s.ch = .pointer none)
    (hx : xs.length = k1 * 7) (h1 : ∀ j, j < k1 * 7 → w1.cell? ⟨T1, j, none⟩ = xs[j]?) (t1 : ∀ i, i < k1 → TAt w1 T1 (i * 7) (P1 i))
    (hn : news.length = k2 * 7) (h2 : ∀ j, j < k2 * 7 → w2.cell? ⟨T2, j, none⟩ = news[j]?) (t2 : ∀ i, i < k2 → TAt w2 T2 (i * 7) (P2 i))
    (ho : w.ownsRow B 32 7 (.slice (some ⟨g, 0, none⟩) n c) n (xs ++ tkL s ++ news)) : ∀ i, i < k1 + 1 + k2 → TAt w g (i * 7) (tok3 k1 P1 s P2 i) := by
  have hc : ∀ j u, (xs ++ tkL s ++ news)[j]? = some u → w.cell? ⟨g, j, none⟩ = some u := fun j u hu => by
    have := ho.cells (g := g) rfl j u hu
    have hadd : (⟨g, 0, none⟩ : Addr).add j = ⟨g, j, none⟩ := by unfold Addr.add; split <;> simp_all
    rwa [hadd] at this
  have hls : (tkL s).length = 7 := rfl
  intro i hi
  unfold tok3
  by_cases c1 : i < k1
  · rw [if_pos c1]
    refine (t1 i c1).move (fun f hf => ?_)
    have e := h1 (i * 7 + f) (by omega)
    rw [e]
    have hlt : i * 7 + f < xs.length := by omega
    rw [List.getElem?_eq_getElem hlt]
    exact hc _ _ (by rw [List.append_assoc, List.getElem?_append_left hlt, List.getElem?_eq_getElem hlt])
  · rw [if_neg c1]
    by_cases c2 : i = k1
    · subst c2
      rw [if_pos rfl]
      have hsg : Seg w g (i * 7) (tkL s) := fun j v hj => hc _ _ (by
        have hj7 : j < 7 := by have := (List.getElem?_eq_some_iff.1 hj).1; simpa using this
        rw [List.getElem?_append_left (by rw [List.length_append]; omega), List.getElem?_append_right (by omega)]
        rw [← hj]; congr 1; omega)
      exact hsg.tat hs
    · rw [if_neg c2]
      refine (t2 (i - k1 - 1) (by omega)).move (fun f hf => ?_)
      have e := h2 ((i - k1 - 1) * 7 + f) (by omega)
      rw [e]
      have hlt : (i - k1 - 1) * 7 + f < news.length := by omega
      rw [List.getElem?_eq_getElem hlt]
      exact hc _ _ (by
        rw [List.getElem?_append_right (by rw [List.length_append]; omega), List.length_append, hx, hls, show i * 7 + f - (k1 * 7 + 7) = (i - k1 - 1) * 7 + f by omega, List.getElem?_eq_getElem hlt])
theorem appm {P : Program} {w : World} {ops : Array Oper} {rest : List Oper} {o : Oper} {a : Act} {Q : Exit → Act → World → Prop} (s x : Operand) (t e base size bytes : Nat) (zc : Array Value) (v : Value) (n : Nat) (xs : List Value)
    (ho : o.op = .call { callee := .builtin .append, args := #[s, x], argTypes := #[t, t] }) (hgd : o.guard = none) (hs : a.eval s = v) (ad : Addr) (m c : Nat) (news : List Value) (hx : a.eval x = .slice (some ad) m c) (hl : news.length = m * size) (hnews : ∀ j u, news[j]? = some u → w.cell? (ad.add j) = some u) (h1 : ∀ u ∈ news, u.oneCell' = true)
    (ht : P.underlying t = some (.slice e)) (hinfo : (P.info? e).map (fun i => (i.zero.map (·.cells), i.size, i.bytes)) = some (some zc, size, bytes)) (hzc : zc.size = size) (hsz : 0 < size)
    (hown : w.ownsRow base e size v n xs) (hn : n ≤ 524288) (hm : m ≤ 524288) (hby : bytes ≤ 100000000) (hbase : base ≤ w.heap.size)
    (h : ∀ v' w', w'.ownsRow base e size v' (n + m) (xs ++ news) → Kp (fun b => v.ownBlock = some b) w w' → (∀ k, v'.ownBlock = some k → v.ownBlock = some k ∨ w.heap.size ≤ k) → wpList P ops Q rest (a.put o.dst v') w') : wpList P ops Q (o :: rest) a w := by
  cases hi : P.info? e with
  | none => rw [hi] at hinfo; cases hinfo
  | some i =>
    rw [hi] at hinfo
    simp only [Option.map_some, Option.some.injEq, Prod.mk.injEq] at hinfo
    obtain ⟨g1, g2, g3⟩ := hinfo
    cases hz : i.zero with
    | none => rw [hz] at g1; cases g1
    | some z =>
      rw [hz] at g1
      simp only [Option.map_some, Option.some.injEq] at g1
      have hb2 : (n + m) * bytes ≤ 1048576 * 100000000 := Nat.mul_le_mul (by omega) hby
      refine wpList_append_own_n (P := P) w hgd s x t ho base e i z size bytes ht hi hz g2 g3 (by rw [g1]; exact hzc) hsz v n xs hs hown ad m c news hx hl hnews h1 (by unfold maxLen; omega) (by omega) hbase ?_
      intro v' w' h2 h3 h4
      exact h v' w' h2 (Kp.grown h3) h4
theorem src_kp {w w' : World} {T n : Nat} {S : Nat → Prop} {ys : List Value} (h : ∀ j, j < n → w.cell? ⟨T, j, none⟩ = ys[j]?) (hl : ys.length = n) (hk : Kp S w w') (hT : ¬ S T) : ∀ j u, ys[j]? = some u → w'.cell? ((⟨T, 0, none⟩ : Addr).add j) = some u := fun j u hu => by
  have hj : j < n := by rw [← hl]; exact (List.getElem?_eq_some_iff.1 hu).1
  have hadd : (⟨T, 0, none⟩ : Addr).add j = ⟨T, j, none⟩ := by unfold Addr.add; split <;> simp_all
  rw [hadd]
  exact hk.cell (by rw [h j hj]; exact hu) hT
theorem cells_one {w : World} {T n : Nat} {k : Nat} {P : Nat → Tk} {ys : List Value} (hy : ∀ u ∈ ys, ∃ j, j < n ∧ w.cell? ⟨T, j, none⟩ = some u) (hn : n = k * 7) (ht : ∀ i, i < k → Seg w T (i * 7) (tkL (P i))) : ∀ u ∈ ys, u.oneCell' = true := fun u hu => by
  obtain ⟨j, hj, hc⟩ := hy u hu
  have hs := ht (j / 7) (by omega)
  have h7 : j % 7 < (tkL (P (j / 7))).length := by show j % 7 < 7; omega
  have := hs (j % 7) _ (List.getElem?_eq_getElem h7)
  rw [show j / 7 * 7 + j % 7 = j by omega, hc] at this
  injection this with e
  rw [e]
  exact tkL_one _ _ (List.getElem_mem h7)
end Go.Proofs.YthdogpahkglaoaaDoor
