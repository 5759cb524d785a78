/- FnFlattenMatchesStreamModel: words on the model's items and groups. -/
import Derived.Test.YtjigljpodkfchadFmd
set_option linter.unusedVariables false
set_option linter.unusedSimpArgs false
namespace Go.Proofs.Ytjigljpodkfchad
open Go.RowKit
set_option maxRecDepth 100000
set_option maxHeartbeats 40000000
theorem info119 : (Try.prog.info? 119).map (fun i => (i.zero.map (·.cells), i.size, i.bytes)) = some (some #[.int .u8 0, .int .u8 0, .string ⟨#[]⟩, .int .i64 0], 4, 32) := by kernel_rfl
abbrev It.arr (x : It) : Array Value := #[.int .u8 x.tg, .int .u8 x.cb, .string x.s, .int .i64 x.n]
def It.cells (x : It) : List Value := x.arr.toList
def ItB (v : Value) (its : List It) (W0 w : World) : Prop := w.ownsRow W0.heap.size 119 4 v its.length (flat It.cells its) ∧ Below W0.heap.size W0 w
theorem ItB.nil (w : World) : ItB (.slice none 0 0) [] w w := ⟨World.ownsRow_nil _ _ _ _, Below.refl _ _⟩
theorem ItB.after {v : Value} {l : List It} {W0 w w' : World} (h : ItB v l W0 w) (hb : Below w.heap.size w w') : ItB v l W0 w' := ⟨own_below h.1 hb, h.2.trans (hb.mono h.2.size)⟩
theorem ItB.head {v : Value} {l : List It} {W0 w : World} (h : ItB v l W0 w) : ∃ a c, v = .slice a l.length c := own_head h.1
/-- blocks of cells of other types stay as they are -/
def NewE (e : TypeId) (W w' : World) : Prop := ∀ (b : Nat) (cs : Array Value) (ty : TypeId), ty ≠ e → NewAt W b cs ty → NewAt w' b cs ty
theorem NewE.of_below {e : TypeId} {W w' : World} (h : Below W.heap.size W w') : NewE e W w' := fun b cs ty _ hn => hn.after h
theorem NewE.trans {e : TypeId} {W w1 w2 : World} (h : NewE e W w1) (h' : NewE e w1 w2) : NewE e W w2 := fun b cs ty ht hn => h' b cs ty ht (h b cs ty ht hn)
theorem NewE.of_kp {e : TypeId} {W w' : World} {B z n : Nat} {v : Value} {xs : List Value} (hown : W.ownsRow B e z v n xs) (hk : Kp (Ob v) W w') : NewE e W w' := fun b cs ty ht hn => by
  unfold NewAt at *
  rw [hk.block b (Array.getElem?_eq_some_iff.1 hn).1 (fun q => ?_)]
  · exact hn
  · obtain ⟨-, -, cur, fr, e'⟩ := own_ty hown q
    rw [hn] at e'
    injection e' with e'
    injection e' with _ e'
    exact ht e'
/-- as app1n, for longer rows -/
theorem app1q {P : Program} {W W' : World} {ops : Array Oper} {rest : List Oper} {o : Oper} {a : Act} {Q : Exit → Act → World → Prop} (s x : Operand) (t e base size bytes : Nat) (zc : Array Value) (cs : List Value) (v : Value) (n : Nat) (xs : List Value)
    (ho : o.op = .call { callee := .builtin .append, args := #[s, x], argTypes := #[t, t] }) (hgd : o.guard = none) (hs : a.eval s = v) (hx : a.eval x = .slice (some ⟨W.heap.size, 0, none⟩) 1 1) (hW : W' = W.alloc (.cells cs.toArray e))
    (ht : P.underlying t = some (.slice e)) (hinfo : (P.info? e).map (fun i => (i.zero.map (·.cells), i.size, i.bytes)) = some (some zc, size, bytes)) (hzc : zc.size = size) (hsz : 0 < size)
    (hown : W.ownsRow base e size v n xs) (hcs : cs.length = size) (h1 : ∀ u ∈ cs, u.oneCell' = true) (hn : n ≤ 30000000) (hby : bytes ≤ 1000000) (hbase : base ≤ W.heap.size)
    (h : ∀ v' w', w'.ownsRow base e size v' (n + 1) (xs ++ cs) → Kp (Ob v) W w' → (∀ k, Ob v' k → Ob v k ∨ W.heap.size ≤ k) → wpList P ops Q rest (a.put o.dst v') w') : wpList P ops Q (o :: rest) a W' := by
  subst hW
  have hz : (W.alloc (.cells cs.toArray e)).heap.size = W.heap.size + 1 := by simp
  refine appQ s x t e base size bytes zc v n xs W.heap.size 0 1 1 cs ho hgd hs hx ht hinfo hzc hsz (own_below hown (ba _ _)) (by omega) (fun j u hj => ?_) h1 (by omega) hby (by omega) (fun v' w' h1' h2 h3 => h v' w' h1' ((Kp.of (ba _ _)).trans h2) (fun k q => by
    rcases h3 k q with q | q
    · exact .inl q
    · right; omega))
  have := (Seg.new W cs e) j u hj
  rw [Nat.zero_add] at this ⊢
  exact this
/-- as app1g, for longer rows -/
theorem app1gq {P : Program} {W : World} {ops : Array Oper} {rest : List Oper} {o : Oper} {a : Act} {Q : Exit → Act → World → Prop} (s x : Operand) (t e base size bytes : Nat) (zc : Array Value) (cs : List Value) (b : Nat) (v : Value) (n : Nat) (xs : List Value)
    (ho : o.op = .call { callee := .builtin .append, args := #[s, x], argTypes := #[t, t] }) (hgd : o.guard = none) (hs : a.eval s = v) (hx : a.eval x = .slice (some ⟨b, 0, none⟩) 1 1) (hnew : NewAt W b cs.toArray e)
    (ht : P.underlying t = some (.slice e)) (hinfo : (P.info? e).map (fun i => (i.zero.map (·.cells), i.size, i.bytes)) = some (some zc, size, bytes)) (hzc : zc.size = size) (hsz : 0 < size)
    (hown : W.ownsRow base e size v n xs) (hcs : cs.length = size) (h1 : ∀ u ∈ cs, u.oneCell' = true) (hn : n ≤ 30000000) (hby : bytes ≤ 1000000) (hbase : base ≤ W.heap.size)
    (h : ∀ v' w', w'.ownsRow base e size v' (n + 1) (xs ++ cs) → Kp (Ob v) W w' → (∀ k, Ob v' k → Ob v k ∨ W.heap.size ≤ k) → wpList P ops Q rest (a.put o.dst v') w') : wpList P ops Q (o :: rest) a W :=
  appQ s x t e base size bytes zc v n xs b 0 1 1 cs ho hgd hs hx ht hinfo hzc hsz hown (by omega) (fun j u hj => by
    rw [Nat.zero_add]
    exact hnew.cell (by simpa using hj)) h1 (by omega) hby hbase h
/-- one item more -/
theorem itL1 {W W' : World} {ops : Array Oper} {rest : List Oper} {o : Oper} {act : Act} {Q : Exit → Act → World → Prop} (s x : Operand) (v : Value) (its : List It) (W0 : World) (it : It)
    (ho : o.op = .call { callee := .builtin .append, args := #[s, x], argTypes := #[117, 117] }) (hgd : o.guard = none) (hs : act.eval s = v) (hx : act.eval x = .slice (some ⟨W.heap.size, 0, none⟩) 1 1) (hb : ItB v its W0 W) (hn : its.length ≤ 30000000) (hW : W' = W.alloc (.cells it.arr 119))
    (h : ∀ a' c' n' w', n' = (its ++ [it]).length → ItB (.slice a' n' c') (its ++ [it]) W0 w' → NewE 119 W w' → wpList Try.prog ops Q rest (act.put o.dst (.slice a' n' c')) w') : wpList Try.prog ops Q (o :: rest) act W' :=
  app1q s x 117 119 W0.heap.size 4 32 #[.int .u8 0, .int .u8 0, .string ⟨#[]⟩, .int .i64 0] it.cells v its.length (flat It.cells its) ho hgd hs hx hW Try.underlying117 info119 rfl (by omega) hb.1 rfl (fun u hu => by
    simp only [It.cells, List.mem_cons, List.not_mem_nil, or_false] at hu
    rcases hu with rfl | rfl | rfl | rfl <;> rfl) hn (by omega) hb.2.size (fun v' w' h1 h2 h3 => by
    have hb2 : ItB v' (its ++ [it]) W0 w' := ⟨by rw [List.length_append, show flat It.cells (its ++ [it]) = flat It.cells its ++ it.cells by simp [flat]]; exact h1, hb.2.trans (h2.below hb.2.size (fun b q => (hb.1.lt b q).1))⟩
    obtain ⟨a', c', rfl⟩ := hb2.head
    exact h a' c' _ w' rfl hb2 (NewE.of_kp hb.1 h2))
theorem itL_take {l : List (Ck ByteArray)} {k : Nat} {x : Ck ByteArray} (h : l[k]? = some x) : itL (l.take (k + 1)) = itL (l.take k) ++ itI (decide (k = 0) && decide (x.cb = 0)) x := by
  cases l with
  | nil => cases h
  | cons t r =>
    cases k with
    | zero =>
      injection h with h
      subst h
      simp [itL]
    | succ k =>
      have h' : r[k]? = some x := by simpa using h
      simp only [List.take_succ_cons, itL, List.append_assoc]
      rw [List.take_add_one, h']
      simp
theorem flatIt_take {α : Type} (f : α → List It) {l : List α} {k : Nat} {x : α} (h : l[k]? = some x) : (l.take (k + 1)).flatMap f = (l.take k).flatMap f ++ f x := by
  rw [List.take_add_one, h]; simp
theorem itL_le (l : List (Ck ByteArray)) (k : Nat) : (itL (l.take k)).length ≤ (itL l).length := by
  cases l with
  | nil => simp
  | cons t r =>
    cases k with
    | zero => simp [itL]
    | succ k =>
      simp only [List.take_succ_cons, itL, List.length_append]
      have := flat_le (itI false) r k
      omega
theorem new_segs4' {W : World} {C : Nat} {v0 v1 v2 v3 : Value} {ty : TypeId} (h : NewAt W C #[v0, v1, v2, v3] ty) : W.cell? ⟨C, 0, none⟩ = some v0 ∧ W.cell? ⟨C, 1, none⟩ = some v1 ∧ W.cell? ⟨C, 2, none⟩ = some v2 ∧ W.cell? ⟨C, 3, none⟩ = some v3 := new_segs4 h
end Go.Proofs.Ytjigljpodkfchad
