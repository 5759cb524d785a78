/- FnSubstituteAmpersandsClosedForm: append of a whole row. -/
import Derived.Test.YtjigljpodkfchaaFmtSui
set_option linter.unusedVariables false
set_option linter.unusedSimpArgs false
namespace Go.Proofs.YtjigljpodkfchaaFmt
open Go.RowKit
set_option maxRecDepth 100000
set_option maxHeartbeats 4000000
/-- nothing is appended -/
theorem app0 {P : Program} {w : World} {ops : Array Oper} {rest : List Oper} {o : Oper} {a : Act} {Q : Exit → Act → World → Prop} (s x : Operand) (t e base size : Nat) (v : Value) (n : Nat) (xs : List Value) (ao : Option Addr) (c : Nat)
    (ho : o.op = .call { callee := .builtin .append, args := #[s, x], argTypes := #[t, t] }) (hgd : o.guard = none) (hs : a.eval s = v) (hx : a.eval x = .slice ao 0 c)
    (ht : P.underlying t = some (.slice e)) (hi : (P.info? e).isSome = true) (hown : w.ownsRow base e size v n xs)
    (h : wpList P ops Q rest (a.put o.dst v) w) : wpList P ops Q (o :: rest) a w := by
  obtain ⟨i, hi⟩ := Option.isSome_iff_exists.1 hi
  have hrun : (Builtin.append_ #[t, t] o.type #[v, .slice ao 0 c]).run P w = .ok v w := by
    rcases hown.2 with ⟨rfl, rfl⟩ | ⟨g, cap, cur, rfl, _, _, hnc, _⟩
    · cases ao <;> simp [Builtin.append_, run_underlying ht, sizeOf, typeInfo, hi, Builtin.lenOf, Builtin.firstCells, loadCells, loadCellsFrom]
    · cases ao <;> simp [Builtin.append_, run_underlying ht, sizeOf, typeInfo, hi, Builtin.lenOf, Builtin.firstCells, loadCells, loadCellsFrom, hnc, storeCells]
  refine wpList_plain hgd fun _ hK => ?_
  unfold Oper.wp
  simp [execOp, ho, resolve, invoke, builtin, hs, hx, hrun, Result.andThen]
  exact hK _ _ h
/-- a whole row is appended to a row of the call's own -/
theorem appR {P : Program} {w : World} {ops : Array Oper} {rest : List Oper} {o : Oper} {a : Act} {Q : Exit → Act → World → Prop} (s x : Operand) (t e base size bytes : Nat) (zc : Array Value) (v : Value) (n : Nat) (xs : List Value) (ao : Option Addr) (m c : Nat) (news : List Value)
    (ho : o.op = .call { callee := .builtin .append, args := #[s, x], argTypes := #[t, t] }) (hgd : o.guard = none) (hs : a.eval s = v) (hx : a.eval x = .slice ao m c)
    (ht : P.underlying t = some (.slice e)) (hinfo : (P.info? e).map (fun i => (i.zero.map (·.cells), i.size, i.bytes)) = some (some zc, size, bytes)) (hzc : zc.size = size) (hsz : 0 < size) (hown : w.ownsRow base e size v n xs)
    (hl : news.length = m * size) (hc : ∀ j u, news[j]? = some u → ∃ g, ao = some ⟨g, 0, none⟩ ∧ w.cell? ⟨g, j, none⟩ = some u) (h1 : ∀ u ∈ news, u.oneCell' = true) (hn : n + m ≤ 40000000) (hby : bytes ≤ 1000000) (hbase : base ≤ w.heap.size)
    (h : ∀ v' w', w'.ownsRow base e size v' (n + m) (xs ++ news) → Kp (Ob v) w w' → (∀ k, Ob v' k → Ob v k ∨ w.heap.size ≤ k) → wpList P ops Q rest (a.put o.dst v') w') : wpList P ops Q (o :: rest) a w := by
  cases hi : P.info? e with
  | none => rw [hi] at hinfo; cases hinfo
  | some i =>
    by_cases hm : m = 0
    · subst hm
      have hn0 : news = [] := List.eq_nil_of_length_eq_zero (by simpa using hl)
      subst hn0
      exact app0 s x t e base size v n xs ao c ho hgd hs hx ht (by rw [hi]; rfl) hown (h v w (by simpa using hown) (Kp.refl _) (fun k q => .inl q))
    · rw [hi] at hinfo
      simp only [Option.map_some, Option.some.injEq, Prod.mk.injEq] at hinfo
      obtain ⟨g1, g2, g3⟩ := hinfo
      cases hz : i.zero with
      | none => rw [hz] at g1; cases g1
      | some z =>
        rw [hz] at g1
        simp only [Option.map_some, Option.some.injEq] at g1
        have hpos : 0 < news.length := by rw [hl]; exact Nat.mul_pos (by omega) hsz
        obtain ⟨g, rfl, -⟩ := hc 0 _ (List.getElem?_eq_getElem hpos)
        have hmm : (n + m) * bytes ≤ 40000000 * 1000000 := Nat.mul_le_mul hn hby
        refine wpList_append_own_n (P := P) w hgd s x t ho base e i z size bytes ht hi hz g2 g3 (by rw [g1]; exact hzc) hsz v n xs hs hown ⟨g, 0, none⟩ m c news hx hl (fun j u hj => ?_) h1 (by unfold maxLen; omega) (by omega) hbase (fun v' w' h2 h3 h4 => h v' w' h2 (Kp.grown h3) h4)
        obtain ⟨g', e', hc'⟩ := hc j u hj
        injection e' with e'
        injection e' with e'
        subst e'
        have hadd : (⟨g, 0, none⟩ : Addr).add j = ⟨g, j, none⟩ := by unfold Addr.add; split <;> simp_all
        rw [hadd]
        exact hc'
theorem flat_mem_one {K : Type} {ls : List (SubR K)} : ∀ u ∈ flat SubR.cells ls, u.oneCell' = true := fun u hu => by
  simp only [flat, List.mem_flatMap] at hu
  obtain ⟨s, -, hu⟩ := hu
  simp only [SubR.cells, List.mem_cons, List.not_mem_nil, or_false] at hu
  rcases hu with rfl | rfl | rfl <;> rfl
theorem flat_cells {K : Type} {w : World} {a : Option Addr} {ls : List (SubR K)} (h : ∀ i s, ls[i]? = some s → ∃ g, a = some ⟨g, 0, none⟩ ∧ Seg w g (i * 3) s.cells) : ∀ j u, (flat SubR.cells ls)[j]? = some u → ∃ g, a = some ⟨g, 0, none⟩ ∧ w.cell? ⟨g, j, none⟩ = some u := fun j u hj => by
  have hlen := (List.getElem?_eq_some_iff.1 hj).1
  rw [flat_len SubR.cells 3 (fun _ => rfl)] at hlen
  have hi : j / 3 < ls.length := by omega
  obtain ⟨g, e, hs⟩ := h (j / 3) _ (List.getElem?_eq_getElem hi)
  have h3 := flat_at SubR.cells 3 (fun _ => rfl) ls (j / 3) (j % 3) _ (List.getElem?_eq_getElem hi) (by omega)
  have hj2 : j / 3 * 3 + j % 3 = j := by omega
  rw [hj2, hj] at h3
  have := hs (j % 3) u h3.symm
  rw [hj2] at this
  exact ⟨g, e, this⟩
end Go.Proofs.YtjigljpodkfchaaFmt
