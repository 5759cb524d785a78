/- FnFlattenMatchesStreamModel: words on memory. -/
import Derived.Test.YtjigljpodkfchadAn
import Derived.Test.YtjigljpodkfchadArg
import Derived.Test.YtjigljpodkfchadMk
import Derived.Test.YtjigljpodkfchadSeg
import Derived.Test.YtjigljpodkfchadRl
import Derived.Test.YtjigljpodkfchadEN
import Derived.Deep.DeepCutAuto
import Derived.WalkSpells
import Derived.Laws.OwnMore
import Derived.Laws.BitsLemmas
import Derived.OwnWalk
set_option linter.unusedVariables false
set_option linter.unusedSimpArgs false
namespace Go.Proofs.Ytjigljpodkfchad
open Go.RowKit
set_option maxRecDepth 100000
set_option maxHeartbeats 4000000
def RetV (v : Value) (w : World) (e : Ending) (w' : World) : Prop := e = .returned v ∧ Below w.heap.size w w'
def Kc (O : Nat → Prop) (w w' : World) : Prop := ∀ a v, w.cell? a = some v → ¬ O a.block → w'.cell? a = some v
theorem Kc.of_below {O : Nat → Prop} {w w' : World} (h : Below w.heap.size w w') : Kc O w w' := fun a v hc _ => ac h hc
theorem Kc.of_only {O S : Nat → Prop} {w w' : World} (h : Only S w w') (hs : ∀ b, b < w.heap.size → S b → O b) : Kc O w w' := fun a v hc hn => h.keep hc (fun q => hn (hs _ (block_lt_of_cell hc) q))
theorem Kc.of_kp {O S : Nat → Prop} {w w' : World} (h : Kp S w w') (hs : ∀ b, b < w.heap.size → S b → O b) : Kc O w w' := fun a v hc hn => h.cell hc (fun q => hn (hs _ (block_lt_of_cell hc) q))
theorem Seg.lt {w : World} {b o : Nat} {v : Value} {vs : List Value} (h : Seg w b o (v :: vs)) : b < w.heap.size := block_lt_of_cell (h 0 v rfl)
theorem Seg.keep {O : Nat → Prop} {w w' : World} {b o : Nat} {vs : List Value} (h : Seg w b o vs) (hk : Kc O w w') (hx : ¬ O b) : Seg w' b o vs := fun j v hj => hk _ _ (h j v hj) hx
theorem Seg.set {w : World} {b : Nat} {vs : List Value} (h : Seg w b 0 vs) (j : Nat) (v : Value) (hj : j < vs.length) : Seg (w.setCell ⟨b, j, none⟩ v) b 0 (vs.set j v) := fun i u hi => by
  rw [List.getElem?_set] at hi
  rw [Nat.zero_add]
  by_cases e : j = i
  · subst e
    rw [if_pos rfl, if_pos hj] at hi
    have := h j vs[j] (List.getElem?_eq_getElem hj)
    rw [Nat.zero_add] at this
    rw [cs this]
    exact hi
  · rw [if_neg e] at hi
    have := h i u hi
    rw [Nat.zero_add] at this
    rw [co (by intro q; injection q; omega)]
    exact this
theorem segs6 {w : World} {b o : Nat} {v0 v1 v2 v3 v4 v5 : Value} (h : Seg w b o [v0, v1, v2, v3, v4, v5]) : w.cell? ⟨b, o, none⟩ = some v0 ∧ w.cell? ⟨b, o + 1, none⟩ = some v1 ∧ w.cell? ⟨b, o + 2, none⟩ = some v2 ∧ w.cell? ⟨b, o + 3, none⟩ = some v3 ∧ w.cell? ⟨b, o + 4, none⟩ = some v4 ∧ w.cell? ⟨b, o + 5, none⟩ = some v5 :=
  ⟨by simpa using h 0 _ rfl, h 1 _ rfl, h 2 _ rfl, h 3 _ rfl, h 4 _ rfl, h 5 _ rfl⟩
theorem segs3 {w : World} {b o : Nat} {v0 v1 v2 : Value} (h : Seg w b o [v0, v1, v2]) : w.cell? ⟨b, o, none⟩ = some v0 ∧ w.cell? ⟨b, o + 1, none⟩ = some v1 ∧ w.cell? ⟨b, o + 2, none⟩ = some v2 :=
  ⟨by simpa using h 0 _ rfl, h 1 _ rfl, h 2 _ rfl⟩
abbrev Ob (v : Value) (b : Nat) : Prop := v.ownBlock = some b
theorem own_below {w w' : World} {B : Nat} {e : TypeId} {z : Nat} {v : Value} {n : Nat} {xs : List Value} (h : w.ownsRow B e z v n xs) (hb : Below w.heap.size w w') : w'.ownsRow B e z v n xs := (Kp.of (S := fun _ => False) hb).own h (fun _ _ q => q)
theorem segN (w : World) (o : Obj) (vs : List Value) (ty : TypeId) : Seg ((w.alloc o).alloc (.cells vs.toArray ty)) (w.heap.size + 1) 0 vs := by
  have := Seg.new (w.alloc o) vs ty
  simpa using this
theorem own_ty {w : World} {B z n : Nat} {e : TypeId} {v : Value} {xs : List Value} (h : w.ownsRow B e z v n xs) {b : Nat} (hb : Ob v b) : B ≤ b ∧ b < w.heap.size ∧ ∃ cur fr, w.heap[b]? = some (.cells cur e fr) := by
  refine ⟨(h.lt b hb).1, (h.lt b hb).2, ?_⟩
  rcases h.2 with ⟨rfl, _⟩ | ⟨g, cap, cur, rfl, _, hg, _⟩
  · simp [Ob, Value.ownBlock] at hb
  · simp [Ob, Value.ownBlock] at hb
    subst hb
    exact ⟨cur, _, hg⟩
theorem own_ne {w : World} {B z n B' z' n' : Nat} {e e' : TypeId} {v v' : Value} {xs xs' : List Value} (h : w.ownsRow B e z v n xs) (h' : w.ownsRow B' e' z' v' n' xs') (he : e ≠ e') : ∀ b, Ob v b → ¬ Ob v' b := fun b hb hb' => by
  obtain ⟨-, -, cur, fr, q⟩ := own_ty h hb
  obtain ⟨-, -, cur', fr', q'⟩ := own_ty h' hb'
  rw [q] at q'
  injection q' with q'
  injection q' with _ q'
  exact he q'
theorem own_head {w : World} {B z n : Nat} {e : TypeId} {v : Value} {xs : List Value} (h : w.ownsRow B e z v n xs) : ∃ a c, v = .slice a n c := by
  obtain ⟨a, c, e, -⟩ := own_shape h
  exact ⟨a, c, e⟩
theorem room_kept {w w' : World} {T : Nat → Prop} {b n : Nat} (h : Room w b n) (hk : Kp T w w') (hT : ¬ T b) : Room w' b n := fun j hj => by
  obtain ⟨v, h1, h2⟩ := h j hj
  exact ⟨v, hk.cell h1 hT, hk.froz h1 h2 hT⟩
theorem put3 {w : World} {T o : Nat} (v0 v1 v2 : Value) (h : ∀ j, j < 3 → ∃ v, w.cell? ⟨T, o + j, none⟩ = some v) : Seg (((w.setCell ⟨T, o, none⟩ v0).setCell ⟨T, o + 1, none⟩ v1).setCell ⟨T, o + 2, none⟩ v2) T o [v0, v1, v2] ∧ ∀ a v, w.cell? a = some v → (a.block ≠ T ∨ a.off < o ∨ o + 3 ≤ a.off) → (((w.setCell ⟨T, o, none⟩ v0).setCell ⟨T, o + 1, none⟩ v1).setCell ⟨T, o + 2, none⟩ v2).cell? a = some v := by
  obtain ⟨u0, g0⟩ := h 0 (by omega); obtain ⟨u1, g1⟩ := h 1 (by omega); obtain ⟨u2, g2⟩ := h 2 (by omega)
  rw [Nat.add_zero] at g0
  refine ⟨fun j v hj => ?_, fun a v hc hn => ?_⟩
  · match j, hj with
    | 0, hj =>
      show (_ : World).cell? ⟨T, o, none⟩ = some v
      rw [co (by intro q; injection q; omega), co (by intro q; injection q; omega), cs g0]
      exact hj
    | 1, hj =>
      rw [co (by intro q; injection q; omega), cs (u := u1) (by rw [co (by intro q; injection q; omega)]; exact g1)]
      exact hj
    | 2, hj =>
      rw [cs (u := u2) (by rw [co (by intro q; injection q; omega), co (by intro q; injection q; omega)]; exact g2)]
      exact hj
    | j + 3, hj => simp at hj
  · have hne : ∀ k, k < 3 → (⟨T, o + k, none⟩ : Addr) ≠ a := fun k hk e => by
      rw [← e] at hn
      simp only at hn
      omega
    rw [co (hne 2 (by omega)), co (hne 1 (by omega)), co (show (⟨T, o, none⟩ : Addr) ≠ a from hne 0 (by omega))]
    exact hc
theorem put6 {w : World} {T o : Nat} (v0 v1 v2 v3 v4 v5 : Value) (h : ∀ j, j < 6 → ∃ v, w.cell? ⟨T, o + j, none⟩ = some v) : Seg ((((((w.setCell ⟨T, o, none⟩ v0).setCell ⟨T, o + 1, none⟩ v1).setCell ⟨T, o + 2, none⟩ v2).setCell ⟨T, o + 3, none⟩ v3).setCell ⟨T, o + 4, none⟩ v4).setCell ⟨T, o + 5, none⟩ v5) T o [v0, v1, v2, v3, v4, v5] ∧ ∀ a v, w.cell? a = some v → (a.block ≠ T ∨ a.off < o ∨ o + 6 ≤ a.off) → ((((((w.setCell ⟨T, o, none⟩ v0).setCell ⟨T, o + 1, none⟩ v1).setCell ⟨T, o + 2, none⟩ v2).setCell ⟨T, o + 3, none⟩ v3).setCell ⟨T, o + 4, none⟩ v4).setCell ⟨T, o + 5, none⟩ v5).cell? a = some v := by
  have h1 := put3 (w := w) (T := T) (o := o) v0 v1 v2 (fun j hj => h j (by omega))
  have h2 := put3 (w := ((w.setCell ⟨T, o, none⟩ v0).setCell ⟨T, o + 1, none⟩ v1).setCell ⟨T, o + 2, none⟩ v2) (T := T) (o := o + 3) v3 v4 v5 (fun j hj => by
    obtain ⟨v, g⟩ := h (3 + j) (by omega)
    exact ⟨v, h1.2 _ _ (by rw [show o + 3 + j = o + (3 + j) by omega]; exact g) (.inr (.inr (by show o + 3 ≤ o + 3 + j; omega)))⟩)
  refine ⟨fun j v hj => ?_, fun a v hc hn => h2.2 _ _ (h1.2 _ _ hc (by omega)) (by omega)⟩
  by_cases hj3 : j < 3
  · have e : [v0, v1, v2][j]? = some v := by
      match j, hj3, hj with
      | 0, _, hj => exact hj
      | 1, _, hj => exact hj
      | 2, _, hj => exact hj
    exact h2.2 _ _ (h1.1 j v e) (.inr (.inl (by show o + j < o + 3; omega)))
  · have hl : j < 6 := (List.getElem?_eq_some_iff.1 hj).1
    have e : [v3, v4, v5][j - 3]? = some v := by
      match j, hj3, hl, hj with
      | 3, _, _, hj => exact hj
      | 4, _, _, hj => exact hj
      | 5, _, _, hj => exact hj
    have := h2.1 (j - 3) v e
    rw [show o + 3 + (j - 3) = o + j by omega] at this
    exact this
theorem put6z {w W' : World} {T : Nat} (v0 v1 v2 v3 v4 v5 : Value) (h : Room w T 6) (hW : W' = (((((w.setCell ⟨T, 0, none⟩ v0).setCell ⟨T, 1, none⟩ v1).setCell ⟨T, 2, none⟩ v2).setCell ⟨T, 3, none⟩ v3).setCell ⟨T, 4, none⟩ v4).setCell ⟨T, 5, none⟩ v5) : Seg W' T 0 [v0, v1, v2, v3, v4, v5] ∧ Room W' T 6 ∧ Kp (fun b => b = T) w W' := by
  subst hW
  have := (put6 (w := w) (T := T) (o := 0) v0 v1 v2 v3 v4 v5 (fun j hj => by obtain ⟨v, h1, -⟩ := h j hj; exact ⟨v, by rw [Nat.zero_add]; exact h1⟩)).1
  have Z : ∀ (w1 : World) (j : Nat) (v : Value), Kp (fun b => b = T) w w1 → Kp (fun b => b = T) w (w1.setCell ⟨T, j, none⟩ v) := fun w1 j v hh => hh.set _ _ (.inl rfl)
  exact ⟨by simpa only [Nat.zero_add] using this, (((((h.setA _ _).setA _ _).setA _ _).setA _ _).setA _ _).setA _ _, Z _ 5 v5 (Z _ 4 v4 (Z _ 3 v3 (Z _ 2 v2 (Z _ 1 v1 (Z _ 0 v0 (Kp.refl w))))))⟩
theorem put1z {w W' : World} {T : Nat} {a0 a1 a2 b3 b4 b5 : Value} (v1 : Value) (h : Room w T 6) (hs : Seg w T 0 [a0, a1, a2, b3, b4, b5]) (hW : W' = w.setCell ⟨T, 1, none⟩ v1) : Seg W' T 0 [a0, v1, a2, b3, b4, b5] ∧ Room W' T 6 ∧ Kp (fun b => b = T) w W' := by
  subst hW
  exact ⟨hs.set 1 v1 (by simp), h.setA _ _, (Kp.refl w).set _ _ (.inl rfl)⟩
theorem put2cell {w W' : World} {T : Nat} {a0 a1 a2 b3 b4 b5 : Value} (v2 : Value) (h : Room w T 6) (hs : Seg w T 0 [a0, a1, a2, b3, b4, b5]) (hW : W' = w.setCell ⟨T, 2, none⟩ v2) : Seg W' T 0 [a0, a1, v2, b3, b4, b5] ∧ Room W' T 6 ∧ Kp (fun b => b = T) w W' := by
  subst hW
  exact ⟨hs.set 2 v2 (by simp), h.setA _ _, (Kp.refl w).set _ _ (.inl rfl)⟩
theorem segs4 {w : World} {b o : Nat} {v0 v1 v2 v3 : Value} (h : Seg w b o [v0, v1, v2, v3]) : w.cell? ⟨b, o, none⟩ = some v0 ∧ w.cell? ⟨b, o + 1, none⟩ = some v1 ∧ w.cell? ⟨b, o + 2, none⟩ = some v2 ∧ w.cell? ⟨b, o + 3, none⟩ = some v3 :=
  ⟨by simpa using h 0 _ rfl, h 1 _ rfl, h 2 _ rfl, h 3 _ rfl⟩
theorem ob_nil {n c b : Nat} : ¬ Ob (.slice none n c) b := fun q => by simp [Ob, Value.ownBlock] at q
theorem Kp.pre {S : Nat → Prop} {w w1 w2 : World} (h' : Kp S w1 w2) (h : Below w.heap.size w w1) : Kp S w w2 := (Kp.of h).trans h'
theorem own_seg {w : World} {B e z g n c o : Nat} {xs vs : List Value} (h : w.ownsRow B e z (.slice (some ⟨g, 0, none⟩) n c) n xs) (hv : ∀ j v, vs[j]? = some v → xs[o + j]? = some v) : Seg w g o vs := fun j v hj => by
  have := h.cells (g := g) rfl (o + j) v (hv j v hj)
  have ea : (⟨g, 0, none⟩ : Addr).add (o + j) = ⟨g, o + j, none⟩ := by unfold Addr.add; split <;> simp_all
  rw [ea] at this
  exact this
theorem mapt {T K : Type} {f : T → K} {l : List T} {i : Nat} {x : T} (h : l[i]? = some x) : (l.take (i + 1)).map f = (l.take i).map f ++ [f x] := by
  rw [List.take_add_one, h, List.map_append]; rfl
theorem wr64 {x : Int} (h0 : 0 ≤ x) (h1 : x ≤ 1099511627776) : wrap64 x = x := by unfold wrap64; omega
theorem wk64 {x : Int} (h0 : 0 ≤ x) (h1 : x ≤ 1099511627776) : IntKind.i64.wrap x = x := by rw [IntKind.wrap_i64]; omega
theorem all_of {T : Type} {l : List T} {Q : T → Prop} (h : ∀ i' x, i' < l.length → l[i']? = some x → Q x) : ∀ x ∈ l, Q x := fun x hx => by
  obtain ⟨i, hi⟩ := List.getElem?_of_mem hx
  exact h i x (List.getElem?_eq_some_iff.1 hi).1 hi
theorem segs3' {w : World} {b : Nat} {v0 v1 v2 : Value} (h : Seg w b 0 [v0, v1, v2]) : w.cell? ⟨b, 0, none⟩ = some v0 ∧ w.cell? ⟨b, 1, none⟩ = some v1 ∧ w.cell? ⟨b, 2, none⟩ = some v2 := by
  have := segs3 h
  simpa only [Nat.zero_add] using this
theorem app0 {P : Program} {w : World} {ops : Array Oper} {rest : List Oper} {o : Oper} {a : Act} {Q : Exit → Act → World → Prop} (s x : Operand) (t e base size : Nat) (v : Value) (n : Nat) (xs : List Value) (ao : Option Addr) (c : Nat)
    (ho : o.op = .call { callee := .builtin .append, args := #[s, x], argTypes := #[t, t] }) (hgd : o.guard = none) (hs : a.eval s = v) (hx : a.eval x = .slice ao 0 c)
    (ht : P.underlying t = some (.slice e)) (hi : (P.info? e).isSome = true) (hown : w.ownsRow base e size v n xs)
    (h : wpList P ops Q rest (a.put o.dst v) w) : wpList P ops Q (o :: rest) a w := by
  obtain ⟨i, hi⟩ := Option.isSome_iff_exists.1 hi
  have hrun : (Builtin.append_ #[t, t] o.type #[v, .slice ao 0 c]).run P w = .ok v w := by
    rcases hown.2 with ⟨rfl, rfl⟩ | ⟨g, cap, cur, rfl, _, _, hnc, _⟩
    · cases ao <;> simp [Builtin.append_, run_underlying ht, sizeOf, typeInfo, hi, Builtin.lenOf, Builtin.firstCells, loadCells, loadCellsFrom]
    · cases ao <;> simp [Builtin.append_, run_underlying ht, sizeOf, typeInfo, hi, Builtin.lenOf, Builtin.firstCells, loadCells, loadCellsFrom, hnc, storeCells]
  refine wpList_plain hgd fun _ hK => ?_
  unfold Oper.wp
  simp [execOp, ho, resolve, invoke, builtin, hs, hx, hrun, Result.andThen]
  exact hK _ _ h
theorem appR {P : Program} {w : World} {ops : Array Oper} {rest : List Oper} {o : Oper} {a : Act} {Q : Exit → Act → World → Prop} (s x : Operand) (t e base size bytes : Nat) (zc : Array Value) (v : Value) (n : Nat) (xs : List Value) (ao : Option Addr) (m c : Nat) (news : List Value)
    (ho : o.op = .call { callee := .builtin .append, args := #[s, x], argTypes := #[t, t] }) (hgd : o.guard = none) (hs : a.eval s = v) (hx : a.eval x = .slice ao m c)
    (ht : P.underlying t = some (.slice e)) (hinfo : (P.info? e).map (fun i => (i.zero.map (·.cells), i.size, i.bytes)) = some (some zc, size, bytes)) (hzc : zc.size = size) (hsz : 0 < size) (hown : w.ownsRow base e size v n xs)
    (hl : news.length = m * size) (hc : ∀ j u, news[j]? = some u → ∃ g, ao = some ⟨g, 0, none⟩ ∧ w.cell? ⟨g, j, none⟩ = some u) (h1 : ∀ u ∈ news, u.oneCell' = true) (hn : n + m ≤ 40000000) (hby : bytes ≤ 1000000) (hbase : base ≤ w.heap.size)
    (h : ∀ v' w', w'.ownsRow base e size v' (n + m) (xs ++ news) → Kp (Ob v) w w' → (∀ k, Ob v' k → Ob v k ∨ w.heap.size ≤ k) → wpList P ops Q rest (a.put o.dst v') w') : wpList P ops Q (o :: rest) a w := by
  cases hi : P.info? e with
  | none => rw [hi] at hinfo; cases hinfo
  | some i =>
    by_cases hm : m = 0
    · subst hm
      have hn0 : news = [] := List.eq_nil_of_length_eq_zero (by simpa using hl)
      subst hn0
      exact app0 s x t e base size v n xs ao c ho hgd hs hx ht (by rw [hi]; rfl) hown (h v w (by simpa using hown) (Kp.refl _) (fun k q => .inl q))
    · rw [hi] at hinfo
      simp only [Option.map_some, Option.some.injEq, Prod.mk.injEq] at hinfo
      obtain ⟨g1, g2, g3⟩ := hinfo
      cases hz : i.zero with
      | none => rw [hz] at g1; cases g1
      | some z =>
        rw [hz] at g1
        simp only [Option.map_some, Option.some.injEq] at g1
        have hpos : 0 < news.length := by rw [hl]; exact Nat.mul_pos (by omega) hsz
        obtain ⟨g, rfl, -⟩ := hc 0 _ (List.getElem?_eq_getElem hpos)
        have hmm : (n + m) * bytes ≤ 40000000 * 1000000 := Nat.mul_le_mul hn hby
        refine wpList_append_own_n (P := P) w hgd s x t ho base e i z size bytes ht hi hz g2 g3 (by rw [g1]; exact hzc) hsz v n xs hs hown ⟨g, 0, none⟩ m c news hx hl (fun j u hj => ?_) h1 (by unfold maxLen; omega) (by omega) hbase (fun v' w' h2 h3 h4 => h v' w' h2 (Kp.grown h3) h4)
        obtain ⟨g', e', hc'⟩ := hc j u hj
        injection e' with e'
        injection e' with e'
        subst e'
        have hadd : (⟨g, 0, none⟩ : Addr).add j = ⟨g, j, none⟩ := by unfold Addr.add; split <;> simp_all
        rw [hadd]
        exact hc'
theorem NewAt.after {W W' : World} {b : Nat} {cs : Array Value} {t : TypeId} (h : NewAt W b cs t) (hb : Below W.heap.size W W') : NewAt W' b cs t := by
  unfold NewAt at *
  rw [hb.block b (Array.getElem?_eq_some_iff.1 h).1]
  exact h
theorem arr6_one {a b c d e f : Value} (ha : a.oneCell' = true) (hb : b.oneCell' = true) (hc : c.oneCell' = true) (hd : d.oneCell' = true) (he : e.oneCell' = true) (hf : f.oneCell' = true) : #[a, b, c, d, e, f].all (·.oneCell') = true := by simp [ha, hb, hc, hd, he, hf]
/-- it answers v and turns nothing -/
def RetS (v : Value) (w : World) (e : Ending) (w' : World) : Prop := e = .returned v ∧ w = w'
/-- statements on the values of a drawn head, by their number -/
def PsR (ps : List (Value → World → Prop)) (k : Nat) (v : Value) (W : World) : Prop := (ps.getD k (fun _ _ => True)) v W
def PsOk (ps : List (Value → World → Prop)) : Prop := ∀ p ∈ ps, ∀ v W W', Below W.heap.size W W' → p v W → p v W'
theorem PsR.after {ps : List (Value → World → Prop)} (h : PsOk ps) (i : Nat) (v : Value) (W W' : World) (hb : Below W.heap.size W W') (hr : PsR ps i v W) : PsR ps i v W' := by
  unfold PsR at *
  cases hi : ps[i]? with
  | none => rw [List.getD_eq_getElem?_getD, hi]; trivial
  | some p =>
    rw [List.getD_eq_getElem?_getD, hi] at hr ⊢
    exact h p (List.mem_of_getElem? hi) v W W' hb hr
theorem PsOk.nil : PsOk [] := fun p hp => by cases hp
theorem PsOk.cons {p : Value → World → Prop} {ps : List (Value → World → Prop)} (h : ∀ v W W', Below W.heap.size W W' → p v W → p v W') (hs : PsOk ps) : PsOk (p :: ps) := fun q hq => by
  rcases List.mem_cons.1 hq with rfl | hq
  · exact h
  · exact hs q hq
theorem PsOk.eq {x : Value} {ps : List (Value → World → Prop)} (hs : PsOk ps) : PsOk ((fun v _ => v = x) :: ps) := PsOk.cons (fun _ _ _ _ q => q) hs
theorem PsOk.any {ps : List (Value → World → Prop)} (hs : PsOk ps) : PsOk ((fun _ _ => True) :: ps) := PsOk.cons (fun _ _ _ _ q => q) hs
end Go.Proofs.Ytjigljpodkfchad
