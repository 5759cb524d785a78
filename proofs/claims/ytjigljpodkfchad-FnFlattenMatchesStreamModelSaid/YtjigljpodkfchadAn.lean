/- One element appended to a slice of the call's own: the block is the same, or new. -/
import Derived.Test.YtjigljpodkfchadAp
set_option linter.unusedVariables false
set_option linter.unusedSimpArgs false
namespace Go.Proofs.Ytjigljpodkfchad
open Go.RowKit
theorem append_new {P : Program} {w : World} {base t ty e size bytes : Nat} {i : TypeInfo} {z : Value} (ht : P.underlying t = some (.slice e)) (hi : P.info? e = some i) (hz : i.zero = some z)
    (hsize : i.size = size) (hby : i.bytes = bytes) (hzs : z.cells.size = size) (hsz : 0 < size) {v : Value} {n : Nat} {xs : List Value} (hown : w.ownsRow base e size v n xs)
    {a : Addr} {m c : Nat} {news : List Value} (hl : news.length = m * size) (hnews : ∀ j u, news[j]? = some u → w.cell? (a.add j) = some u) (h1 : ∀ u ∈ news, u.oneCell' = true)
    (h63 : n + m ≤ maxLen) (hbytes : (n + m) * bytes ≤ 140737488355328) (hbase : base ≤ w.heap.size) {v' : Value} {w' : World}
    (h : (Builtin.append_ #[t, t] ty #[v, .slice (some a) m c]).run P w = .ok v' w') : ∀ k, v'.ownBlock = some k → v.ownBlock = some k ∨ w.heap.size ≤ k := by
  intro k hk
  rcases hown.2 with ⟨rfl, rfl⟩ | ⟨g, cap, cur, rfl, hbg, hg, hnc, hcm, hcs, htake⟩
  · have hx : xs = [] := List.eq_nil_of_length_eq_zero (by simpa using hown.1)
    subst hx
    obtain ⟨v2, w2, hr, h2, -, -⟩ := run_append_own (P := P) w w.heap.size t ty e i z size bytes ht hi hz hsize hby hzs hsz _ 0 [] (World.ownsRow_nil w _ e size) a m c news hl hnews h1 h63 hbytes (Nat.le_refl _)
    rw [h] at hr
    injection hr with hv hw
    subst hv
    exact .inr (h2.lt k hk).1
  · subst hsize
    subst hby
    by_cases hroom : n + m ≤ cap
    · have hfit : n * i.size + news.length ≤ cur.size := by rw [hl, hcs, ← Nat.add_mul]; exact Nat.mul_le_mul_right _ hroom
      have hr := run_append_room (P := P) w t ty e i ht hi g n cap cur hg a m c news hl hnews h1 hroom hfit
      rw [h] at hr
      injection hr with hv hw
      subst hv
      exact .inl hk
    · have holds : ∀ j u, xs[j]? = some u → w.cell? ((⟨g, 0, none⟩ : Addr).add j) = some u := hown.cells (g := g) rfl
      have hr := run_append_grow (P := P) w t ty e i z ht hi hz ⟨g, 0, none⟩ n cap xs hown.1 holds a m c news hl hnews (by omega) (by simp only [maxLen] at h63; omega) (growslice_fits (by omega) hbytes)
      rw [h] at hr
      injection hr with hv hw
      subst hv
      simp [Value.ownBlock] at hk
      exact .inr (by omega)
theorem wpList_append_own_n {P : Program} (w : World) {ops : Array Oper} {rest : List Oper} {o : Oper} {a : Act} {Q : Exit → Act → World → Prop} (hgd : o.guard = none) (s x : Operand) (t : TypeId)
    (ho : o.op = .call { callee := .builtin .append, args := #[s, x], argTypes := #[t, t] })
    (base : Nat) (e : TypeId) (i : TypeInfo) (z : Value) (size bytes : Nat) (ht : P.underlying t = some (.slice e)) (hi : P.info? e = some i) (hz : i.zero = some z)
    (hsize : i.size = size) (hby : i.bytes = bytes) (hzs : z.cells.size = size) (hsz : 0 < size)
    (v : Value) (n : Nat) (xs : List Value) (hs : a.eval s = v) (hown : w.ownsRow base e size v n xs)
    (ad : Addr) (m c : Nat) (news : List Value) (hx : a.eval x = .slice (some ad) m c) (hl : news.length = m * size) (hnews : ∀ j u, news[j]? = some u → w.cell? (ad.add j) = some u) (h1 : ∀ u ∈ news, u.oneCell' = true)
    (h63 : n + m ≤ maxLen) (hbytes : (n + m) * bytes ≤ 140737488355328) (hbase : base ≤ w.heap.size)
    (h : ∀ v' w', w'.ownsRow base e size v' (n + m) (xs ++ news) → w.grownBy w' v.ownBlock → (∀ k, v'.ownBlock = some k → v.ownBlock = some k ∨ w.heap.size ≤ k) → wpList P ops Q rest (a.put o.dst v') w') : wpList P ops Q (o :: rest) a w := by
  refine wpList_plain hgd fun _ hK => ?_
  obtain ⟨v', w', hr, h2, h3, h4⟩ := run_append_own (P := P) w base t o.type e i z size bytes ht hi hz hsize hby hzs hsz v n xs hown ad m c news hl hnews h1 h63 hbytes hbase
  have h5 := append_new (ty := o.type) ht hi hz hsize hby hzs hsz hown hl hnews h1 h63 hbytes hbase hr
  unfold Oper.wp execOp
  simp only [ho, resolve, invoke, builtin, Sem.run_bind, Sem.run_pure, Result.andThen_ok, List.map_toArray, List.map_cons, List.map_nil, hs, hx, hr]
  exact hK _ _ (h v' w' h2 h3 h5)
/-- one element is appended: what it consists of lies in a block of its own already; the slice's block is the same, or new -/
theorem app1n {P : Program} {w W : World} {ops : Array Oper} {rest : List Oper} {o : Oper} {a : Act} {Q : Exit → Act → World → Prop} (s x : Operand) (t e base size bytes : Nat) (zc : Array Value) (cs : Array Value) (v : Value) (n : Nat) (xs : List Value)
    (ho : o.op = .call { callee := .builtin .append, args := #[s, x], argTypes := #[t, t] }) (hgd : o.guard = none) (hs : a.eval s = v) (hx : a.eval x = .slice (some ⟨w.heap.size, 0, none⟩) 1 1) (hW : W = w.alloc (.cells cs e))
    (ht : P.underlying t = some (.slice e)) (hinfo : (P.info? e).map (fun i => (i.zero.map (·.cells), i.size, i.bytes)) = some (some zc, size, bytes)) (hzc : zc.size = size) (hsz : 0 < size)
    (hown : w.ownsRow base e size v n xs) (hcs : cs.size = size) (h1 : cs.all (·.oneCell') = true) (hn : n ≤ 1048576) (hby : bytes ≤ 100000000) (hbase : base ≤ w.heap.size)
    (h : ∀ v' w', w'.ownsRow base e size v' (n + 1) (xs ++ cs.toList) → Kp (fun b => v.ownBlock = some b) w w' → (∀ k, v'.ownBlock = some k → v.ownBlock = some k ∨ w.heap.size ≤ k) → wpList P ops Q rest (a.put o.dst v') w') : wpList P ops Q (o :: rest) a W := by
  subst hW
  cases hi : P.info? e with
  | none => rw [hi] at hinfo; cases hinfo
  | some i =>
    rw [hi] at hinfo
    simp only [Option.map_some, Option.some.injEq, Prod.mk.injEq] at hinfo
    obtain ⟨g1, g2, g3⟩ := hinfo
    cases hz : i.zero with
    | none => rw [hz] at g1; cases g1
    | some z =>
      rw [hz] at g1
      simp only [Option.map_some, Option.some.injEq] at g1
      have hm : (n + 1) * bytes ≤ 1048577 * 100000000 := Nat.mul_le_mul (by omega) hby
      refine wpList_append_own_n (P := P) (w.alloc (.cells cs e)) hgd s x t ho base e i z size bytes ht hi hz g2 g3 (by rw [g1]; exact hzc) hsz v n xs hs (hown.alloc _) ⟨w.heap.size, 0, none⟩ 1 1 cs.toList hx (by simp [hcs]) ?_ ?_ (by unfold maxLen; omega) (by omega) (by simp; omega) ?_
      · intro j u hu
        have hadd : (⟨w.heap.size, 0, none⟩ : Addr).add j = ⟨w.heap.size, j, none⟩ := by unfold Addr.add; split <;> simp_all
        rw [hadd]
        have := (List.getElem?_eq_some_iff.1 hu)
        obtain ⟨hj, hj'⟩ := this
        simp at hj hj'
        simp [go_sem, hj, hj']
      · intro u hu
        rw [Array.all_eq_true'] at h1
        exact h1 u (by simpa using hu)
      · intro v' w' h2 h3 h4
        exact h v' w' h2 ((Kp.of (ba w _)).trans (Kp.grown h3)) (fun k hk => (h4 k hk).imp id (fun q => by simp at q; omega))
end Go.Proofs.Ytjigljpodkfchad
