/- Words on slices that a call appends to: which blocks may turn (Kp), one element appended (app1), elements of several cells (flat). -/
import Derived.Test.YtjigljpodkfchadWd
import Derived.Laws.AppendOwn
import Derived.Laws.OwnMore
import Derived.OwnWalk
set_option linter.unusedVariables false
set_option linter.unusedSimpArgs false
namespace Go.Proofs.Ytjigljpodkfchad
open Go.RowKit
/-- only blocks in S (and new ones) have turned -/
structure Kp (S : Nat → Prop) (w w' : World) : Prop where
  os : w'.os = w.os
  tape : w'.tape = w.tape
  output : w'.output = w.output
  size : w.heap.size ≤ w'.heap.size
  block : ∀ k, k < w.heap.size → ¬ S k → w'.heap[k]? = w.heap[k]?
section
variable {S S' : Nat → Prop} {w w' w1 w2 : World}
theorem Kp.refl (w : World) : Kp S w w := ⟨rfl, rfl, rfl, Nat.le_refl _, fun _ _ _ => rfl⟩
theorem Kp.trans (h : Kp S w w1) (h' : Kp S w1 w2) : Kp S w w2 := ⟨h'.os.trans h.os, h'.tape.trans h.tape, h'.output.trans h.output, Nat.le_trans h.size h'.size, fun k hk hs => (h'.block k (Nat.lt_of_lt_of_le hk h.size) hs).trans (h.block k hk hs)⟩
/-- .. where the second step may turn blocks that are new -/
theorem Kp.trans' (h : Kp S w w1) (h' : Kp S' w1 w2) (hs : ∀ b, S' b → b < w.heap.size → S b) : Kp S w w2 := ⟨h'.os.trans h.os, h'.tape.trans h.tape, h'.output.trans h.output, Nat.le_trans h.size h'.size, fun k hk hn => (h'.block k (Nat.lt_of_lt_of_le hk h.size) (fun q => hn (hs k q hk))).trans (h.block k hk hn)⟩
theorem Kp.wide (h : Kp S w w') (hs : ∀ b, S b → S' b) : Kp S' w w' := ⟨h.os, h.tape, h.output, h.size, fun k hk hn => h.block k hk (fun q => hn (hs k q))⟩
theorem Kp.of (h : Below w.heap.size w w') : Kp S w w' := ⟨h.os, h.tape, h.output, h.size, fun k hk _ => h.block k hk⟩
theorem Kp.below (h : Kp S w w') {B : Nat} (hB : B ≤ w.heap.size) (hs : ∀ b, S b → B ≤ b) : Below B w w' := ⟨h.os, h.tape, h.output, h.size, fun k hk => h.block k (by omega) (fun q => by have := hs k q; omega)⟩
theorem Kp.drewN (h : Kp S w w') (n : Nat) : Kp S w (w'.drewN n) := h.trans (Kp.of (bdN (Below.refl _ _) n))
theorem Kp.drew (h : Kp S w w') : Kp S w w'.drew := ⟨h.os, h.tape, h.output, h.size, h.block⟩
theorem Kp.alloc (h : Kp S w w') (o : Obj) : Kp S w (w'.alloc o) := h.trans (Kp.of (ba _ _))
theorem Kp.set (h : Kp S w w') (p : Addr) (v : Value) (hp : S p.block ∨ w.heap.size ≤ p.block) : Kp S w (w'.setCell p v) :=
  ⟨h.os, h.tape, h.output, by simpa [World.setCell] using h.size, fun k hk hn => by rw [Below.heap_setCell _ _ _ _ (by rintro rfl; rcases hp with q | q; exact hn q; omega)]; exact h.block k hk hn⟩
theorem Kp.grown {row : Option Nat} (h : w.grownBy w' row) : Kp (fun b => row = some b) w w' := ⟨h.os, h.tape, h.output, h.size, fun k hk hn => h.block k hk (fun e => hn e.symm)⟩
theorem Kp.cell (h : Kp S w w') {a : Addr} {v : Value} (hc : w.cell? a = some v) (hs : ¬ S a.block) : w'.cell? a = some v := by rw [World.cell?_of_block (h.block _ (block_lt_of_cell hc) hs)]; exact hc
theorem Kp.froz (h : Kp S w w') {a : Addr} {v : Value} (hc : w.cell? a = some v) (hf : w.frozen? a = false) (hs : ¬ S a.block) : w'.frozen? a = false := by rw [World.frozen?_of_block (h.block _ (block_lt_of_cell hc) hs)]; exact hf
theorem Kp.own (h : Kp S w w') {B : Nat} {e : TypeId} {z : Nat} {v : Value} {n : Nat} {xs : List Value} (o : w.ownsRow B e z v n xs) (hs : ∀ k, v.ownBlock = some k → ¬ S k) : w'.ownsRow B e z v n xs := by
  refine ⟨o.1, ?_⟩
  rcases o.2 with hn | ⟨g, cap, cur, rfl, hb, hgg, rest⟩
  · exact .inl hn
  · refine .inr ⟨g, cap, cur, rfl, hb, ?_, rest⟩
    rw [h.block g (Array.getElem?_eq_some_iff.1 hgg).1 (hs g rfl)]
    exact hgg
end
theorem own_base {w : World} {B B' : Nat} {e : TypeId} {z : Nat} {v : Value} {n : Nat} {xs : List Value} (h : w.ownsRow B e z v n xs) (hb : B' ≤ B) : w.ownsRow B' e z v n xs := by
  refine ⟨h.1, ?_⟩
  rcases h.2 with hn | ⟨g, cap, cur, rfl, hb', rest⟩
  · exact .inl hn
  · exact .inr ⟨g, cap, cur, rfl, by omega, rest⟩
theorem own_shape {w : World} {B : Nat} {e : TypeId} {z : Nat} {v : Value} {n : Nat} {xs : List Value} (h : w.ownsRow B e z v n xs) : ∃ a c, v = .slice a n c ∧ n ≤ c ∧ c ≤ maxLen := by
  rcases h.2 with ⟨rfl, rfl⟩ | ⟨g, cap, cur, rfl, _, _, h1, h2, _⟩
  · exact ⟨_, _, rfl, Nat.le_refl _, by unfold maxLen; omega⟩
  · exact ⟨_, _, rfl, h1, h2⟩
theorem own_some {w : World} {B : Nat} {e : TypeId} {z : Nat} {v : Value} {n : Nat} {xs : List Value} (h : w.ownsRow B e z v n xs) (hn : 0 < n) : ∃ g c, v = .slice (some ⟨g, 0, none⟩) n c ∧ B ≤ g ∧ g < w.heap.size ∧ n ≤ c ∧ c ≤ maxLen := by
  rcases h.2 with ⟨rfl, rfl⟩ | ⟨g, cap, cur, rfl, hb, hg, h1, h2, _⟩
  · omega
  · exact ⟨g, cap, rfl, hb, (Array.getElem?_eq_some_iff.1 hg).1, h1, h2⟩
/-- one element is appended: what it consists of lies in a block of its own already -/
theorem app1 {P : Program} {w W : World} {ops : Array Oper} {rest : List Oper} {o : Oper} {a : Act} {Q : Exit → Act → World → Prop} (s x : Operand) (t e base size bytes : Nat) (zc : Array Value) (cs : Array Value) (v : Value) (n : Nat) (xs : List Value)
    (ho : o.op = .call { callee := .builtin .append, args := #[s, x], argTypes := #[t, t] }) (hgd : o.guard = none) (hs : a.eval s = v) (hx : a.eval x = .slice (some ⟨w.heap.size, 0, none⟩) 1 1) (hW : W = w.alloc (.cells cs e))
    (ht : P.underlying t = some (.slice e)) (hinfo : (P.info? e).map (fun i => (i.zero.map (·.cells), i.size, i.bytes)) = some (some zc, size, bytes)) (hzc : zc.size = size) (hsz : 0 < size)
    (hown : w.ownsRow base e size v n xs) (hcs : cs.size = size) (h1 : cs.all (·.oneCell') = true) (hn : n ≤ 1048576) (hby : bytes ≤ 100000000) (hbase : base ≤ w.heap.size)
    (h : ∀ v' w', w'.ownsRow base e size v' (n + 1) (xs ++ cs.toList) → Kp (fun b => v.ownBlock = some b) w w' → wpList P ops Q rest (a.put o.dst v') w') : wpList P ops Q (o :: rest) a W := by
  subst hW
  cases hi : P.info? e with
  | none => rw [hi] at hinfo; cases hinfo
  | some i =>
    rw [hi] at hinfo
    simp only [Option.map_some, Option.some.injEq, Prod.mk.injEq] at hinfo
    obtain ⟨g1, g2, g3⟩ := hinfo
    cases hz : i.zero with
    | none => rw [hz] at g1; cases g1
    | some z =>
      rw [hz] at g1
      simp only [Option.map_some, Option.some.injEq] at g1
      have hm : (n + 1) * bytes ≤ 1048577 * 100000000 := Nat.mul_le_mul (by omega) hby
      refine wpList_append_own (P := P) (w.alloc (.cells cs e)) hgd s x t ho base e i z size bytes ht hi hz g2 g3 (by rw [g1]; exact hzc) hsz v n xs hs (hown.alloc _) ⟨w.heap.size, 0, none⟩ 1 1 cs.toList hx (by simp [hcs]) ?_ ?_ (by unfold maxLen; omega) (by omega) (by simp; omega) ?_
      · intro j u hu
        have hadd : (⟨w.heap.size, 0, none⟩ : Addr).add j = ⟨w.heap.size, j, none⟩ := by unfold Addr.add; split <;> simp_all
        rw [hadd]
        have := (List.getElem?_eq_some_iff.1 hu)
        obtain ⟨hj, hj'⟩ := this
        simp at hj hj'
        simp [go_sem, hj, hj']
      · intro u hu
        rw [Array.all_eq_true'] at h1
        exact h1 u (by simpa using hu)
      · intro v' w' h2 h3 _
        exact h v' w' h2 ((Kp.of (ba w _)).trans (Kp.grown h3))
/-- elements of z cells each -/
def flat {T : Type} (f : T → List Value) (l : List T) : List Value := l.flatMap f
theorem flat_nil {T : Type} (f : T → List Value) : flat f [] = [] := rfl
theorem flat_add {T : Type} (f : T → List Value) (l : List T) (x : T) : flat f l ++ f x = flat f (l ++ [x]) := by simp [flat]
theorem flat_at {T : Type} (f : T → List Value) (z : Nat) (hz : ∀ x, (f x).length = z) : ∀ (l : List T) (i j : Nat) (x : T), l[i]? = some x → j < z → (flat f l)[i * z + j]? = (f x)[j]? := by
  intro l
  induction l with
  | nil => intro i j x h; simp at h
  | cons y l ih =>
    intro i j x h hj
    cases i with
    | zero =>
      simp at h; subst h
      simp only [flat, List.flatMap_cons, Nat.zero_mul, Nat.zero_add]
      rw [List.getElem?_append_left (by rw [hz]; exact hj)]
    | succ i =>
      simp at h
      have := ih i j x h hj
      simp only [flat, List.flatMap_cons] at *
      rw [List.getElem?_append_right (by rw [hz, Nat.succ_mul]; omega), hz]
      rw [← this]
      congr 1
      rw [Nat.succ_mul]; omega
theorem flat_len {T : Type} (f : T → List Value) (z : Nat) (hz : ∀ x, (f x).length = z) (l : List T) : (flat f l).length = l.length * z := by
  induction l with
  | nil => simp [flat]
  | cons y l ih => simp only [flat, List.flatMap_cons, List.length_append, List.length_cons] at *; rw [ih, hz, Nat.succ_mul]; omega
/-- cell j of element i -/
theorem own_at {T : Type} {f : T → List Value} {z : Nat} (hz : ∀ x, (f x).length = z) {w : World} {B : Nat} {e : TypeId} {g c n : Nat} {l : List T} (h : w.ownsRow B e z (.slice (some ⟨g, 0, none⟩) n c) n (flat f l)) {i : Nat} {x : T} (hi : l[i]? = some x) {j : Nat} {u : Value} (hj : (f x)[j]? = some u) : w.cell? ⟨g, i * z + j, none⟩ = some u := by
  have hjz : j < z := by rw [← hz x]; exact (List.getElem?_eq_some_iff.1 hj).1
  have hil : i < l.length := (List.getElem?_eq_some_iff.1 hi).1
  have hl := h.1
  rw [flat_len f z hz] at hl
  have hz0 : 0 < z := by omega
  have hn : l.length = n := Nat.eq_of_mul_eq_mul_right hz0 hl
  have hlt : i * z + j < n * z := by
    have : (i + 1) * z ≤ n * z := Nat.mul_le_mul_right _ (by omega)
    rw [Nat.succ_mul] at this; omega
  rw [h.cellAt _ hlt, flat_at f z hz l i j x hi hjz, hj]
end Go.Proofs.Ytjigljpodkfchad
