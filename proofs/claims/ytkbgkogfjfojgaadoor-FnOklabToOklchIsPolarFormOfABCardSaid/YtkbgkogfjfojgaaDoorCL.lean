/- Words for walks of code over wrapped floats: the cells that a call holds, as a list; a region's quiet head and its tail, with what follows behind a variable. -/
import Derived.Test.YtkbgkogfjfojgaaDoorIS
import Derived.Test.YtkbgkogfjfojgaaDoorF64
import Derived.Below
import Derived.BigQuiet
set_option linter.unusedSimpArgs false
set_option linter.unusedVariables false
namespace Go.Proofs.YtkbgkogfjfojgaaDoor
open Go.RowKit Go.Sort
/-- the float variables that a call holds -/
def CL (w0 : World) (cs : List (Nat × Nat)) (W : World) : Prop :=
  Below w0.heap.size w0 W ∧ (cs.map Prod.fst).Nodup ∧ ∀ p v, (p, v) ∈ cs → w0.heap.size ≤ p ∧ W.cell? ⟨p, 0, none⟩ = some (.float .f64 v) ∧ W.frozen? ⟨p, 0, none⟩ = false
namespace CL
variable {w0 W W' : World} {cs : List (Nat × Nat)}
theorem start (w0 : World) : CL w0 [] w0 := ⟨Below.refl _ _, by simp, fun p v h => by cases h⟩
theorem ofB (hb : Below w0.heap.size w0 W) : CL w0 [] W := ⟨hb, by simp, fun p v h => by cases h⟩
theorem bel (H : CL w0 cs W) : Below w0.heap.size w0 W := H.1
theorem at_ (H : CL w0 cs W) (i : Nat) {p v : Nat} (h : cs[i]? = some (p, v)) : W.cell? ⟨p, 0, none⟩ = some (.float .f64 v) := (H.2.2 p v (List.mem_of_getElem? h)).2.1
theorem fz (H : CL w0 cs W) (i : Nat) {p v : Nat} (h : cs[i]? = some (p, v)) : W.frozen? ⟨p, 0, none⟩ = false := (H.2.2 p v (List.mem_of_getElem? h)).2.2
theorem after (H : CL w0 cs W) (hb : Below W.heap.size W W') : CL w0 cs W' :=
  ⟨H.1.trans (hb.mono H.1.size), H.2.1, fun p v h => by
    obtain ⟨h1, h2, h3⟩ := H.2.2 p v h
    exact ⟨h1, by rw [hb.cell (block_lt_of_cell h2)]; exact h2, by rw [hb.frozen (block_lt_of_cell h2)]; exact h3⟩⟩
theorem regrown (H : CL w0 cs W) (h : ∃ p : Regrown, W' = grow (redrawn W p.d) p.os) : CL w0 cs W' := by
  obtain ⟨⟨d, os⟩, rfl⟩ := h
  exact H.after (below_regrown W d os)
/-- a cell that was there before the call -/
theorem old (H : CL w0 cs W) {a : Addr} {v : Value} (h : w0.cell? a = some v) : W.cell? a = some v := by rw [H.1.cell (block_lt_of_cell h)]; exact h
theorem new (H : CL w0 cs W) (v : Nat) (t : TypeId) : CL w0 ((W.heap.size, v) :: cs) (W.alloc (.cells #[.float .f64 v] t)) := by
  have hb : Below W.heap.size W (W.alloc (.cells #[.float .f64 v] t)) := (Below.refl _ _).alloc (Nat.le_refl _) _
  have H' := H.after hb
  refine ⟨H'.1, ?_, fun p u h => ?_⟩
  · rw [List.map_cons, List.nodup_cons]
    refine ⟨fun h => ?_, H.2.1⟩
    obtain ⟨⟨p, u⟩, h1, h2⟩ := List.mem_map.1 h
    have := block_lt_of_cell (H.2.2 p u h1).2.1
    simp only at h2 this
    omega
  · rcases List.mem_cons.1 h with h | h
    · cases h
      exact ⟨H.1.size, by simp [go_sem], by simp [go_sem]⟩
    · exact H'.2.2 p u h
theorem add (H : CL w0 cs W) (hb : Below W.heap.size W W') {b v : Nat} (h1 : W.heap.size ≤ b) (h2 : W'.cell? ⟨b, 0, none⟩ = some (.float .f64 v)) (h3 : W'.frozen? ⟨b, 0, none⟩ = false) : CL w0 ((b, v) :: cs) W' := by
  have H' := H.after hb
  refine ⟨H'.1, ?_, fun p u h => ?_⟩
  · rw [List.map_cons, List.nodup_cons]
    refine ⟨fun h => ?_, H.2.1⟩
    obtain ⟨⟨p, u⟩, g1, g2⟩ := List.mem_map.1 h
    have := block_lt_of_cell (H.2.2 p u g1).2.1
    simp only at g2 this
    omega
  · rcases List.mem_cons.1 h with h | h
    · cases h
      exact ⟨Nat.le_trans H.1.size h1, h2, h3⟩
    · exact H'.2.2 p u h
theorem add2 (H : CL w0 cs W') {b v : Nat} (h0 : w0.heap.size ≤ b) (h1 : ∀ p ∈ cs.map Prod.fst, p ≠ b) (h2 : W'.cell? ⟨b, 0, none⟩ = some (.float .f64 v)) (h3 : W'.frozen? ⟨b, 0, none⟩ = false) : CL w0 ((b, v) :: cs) W' := by
  refine ⟨H.1, ?_, fun p u h => ?_⟩
  · rw [List.map_cons, List.nodup_cons]
    exact ⟨fun h => h1 _ h rfl, H.2.1⟩
  · rcases List.mem_cons.1 h with h | h
    · cases h; exact ⟨h0, h2, h3⟩
    · exact H.2.2 p u h
theorem lt (H : CL w0 cs W) : ∀ p ∈ cs.map Prod.fst, p < W.heap.size := by
  intro p h
  obtain ⟨⟨q, u⟩, g1, g2⟩ := List.mem_map.1 h
  have := block_lt_of_cell (H.2.2 q u g1).2.1
  simp only at g2 this
  omega
theorem set (H : CL w0 cs W) (i : Nat) {p v : Nat} (v' : Nat) (h : cs[i]? = some (p, v)) : CL w0 (cs.set i (p, v')) (W.setCell ⟨p, 0, none⟩ (.float .f64 v')) := by
  have hi : i < cs.length := (List.getElem?_eq_some_iff.1 h).1
  have hci : cs[i] = (p, v) := (List.getElem?_eq_some_iff.1 h).2
  obtain ⟨b1, b2, b3⟩ := H.2.2 p v (List.mem_of_getElem? h)
  have hmap : (cs.set i (p, v')).map Prod.fst = cs.map Prod.fst := by
    apply List.ext_getElem (by simp)
    intro j h1 h2
    simp only [List.getElem_map, List.getElem_set]
    split
    · rename_i e; subst e; rw [hci]
    · rfl
  refine ⟨H.1.setCell b1 _, by rw [hmap]; exact H.2.1, fun q u hq => ?_⟩
  obtain ⟨j, hj, hjq⟩ := List.getElem_of_mem hq
  rw [List.getElem_set] at hjq
  split at hjq
  · cases hjq
    exact ⟨b1, by simp [go_sem, b2], by simp [go_sem, b3]⟩
  · rename_i hne
    have hj' : j < cs.length := by simpa using hj
    obtain ⟨c1, c2, c3⟩ := H.2.2 q u (by rw [← hjq]; exact List.getElem_mem hj')
    have hpq : p ≠ q := by
      intro e
      have hn := H.2.1
      have e1 : (cs.map Prod.fst)[i]'(by simpa using hi) = (cs.map Prod.fst)[j]'(by simpa using hj') := by simp [hci, hjq, e]
      exact hne ((List.getElem_inj hn).1 e1)
    exact ⟨c1, by simp [go_sem, c2, hpq], by simp [go_sem, c3]⟩
end CL
section
variable {P : Program}
theorem wpList_quiet {ops : Array Oper} {C : World → Prop} {Q : Exit → Act → World → Prop} {rest : List Oper} : ∀ (l : List Oper) (a : Act) (w : World), C w → wpQuiet P ops C (fun a' => ∀ w', C w' → wpList P ops Q rest a' w') l a → wpList P ops Q (l ++ rest) a w
  | [], a, w, hw, h => h w hw
  | o :: l, a, w, hw, h => by
    unfold wpQuiet at h
    rw [List.cons_append]
    unfold wpList
    by_cases c : Region.wanted o (yielded ops a.tmps) = true
    · rw [if_pos c] at h
      rw [if_pos c]
      refine Or.inl ?_
      obtain ⟨v, h1, h2⟩ := h
      have h3 := h1 w hw
      unfold Oper.quietAt at h3
      unfold Oper.wp
      generalize (execOp a.eval o).run P w = r at *
      unfold Oper.quietUpon at h3
      unfold Oper.upon
      split at h3
      · obtain ⟨rfl, rfl⟩ := h3
        exact wpList_quiet l _ _ hw h2
      · obtain ⟨rfl, rfl⟩ := h3
        exact wpList_quiet l _ _ hw h2
      · obtain ⟨rfl, h3⟩ := h3
        refine h3.mono ?_
        rintro e w'' ⟨rfl, hc⟩
        exact wpList_quiet l _ _ hc h2
      · exact h3.elim
    · rw [if_neg c] at h
      rw [if_neg c]
      exact wpList_quiet l _ _ hw h
theorem wpQuiet_mono' {ops : Array Oper} {C : World → Prop} {K K' : Act → Prop} : ∀ (l : List Oper) (a : Act), (∀ a, K a → K' a) → wpQuiet P ops C K l a → wpQuiet P ops C K' l a
  | [], a, hK, h => hK a h
  | o :: l, a, hK, h => by
    unfold wpQuiet at *
    by_cases c : Region.wanted o (yielded ops a.tmps) = true
    · rw [if_pos c] at *
      exact Oper.quiet_mono (fun a h => wpQuiet_mono' l a hK h) h
    · rw [if_neg c] at *
      exact wpQuiet_mono' l _ hK h
theorem wpList_normal {ops : Array Oper} {Q : Exit → Act → World → Prop} : ∀ (l : List Oper) (a : Act) (w : World), wpList P ops (fun e a w => e = .normal ∧ Q .normal a w) l a w → wpList P ops Q l a w
  | [], _, _, h => h.2
  | o :: l, a, w, h => by
    unfold wpList at *
    by_cases c : Region.wanted o (yielded ops a.tmps) = true
    · rw [if_pos c] at *
      rcases h with h | ⟨-, a, w, h, -⟩
      · exact Or.inl (QTail.wp_normal (fun e a w h => h.1) (fun a w h => wpList_normal l a w h) h)
      · cases h
    · rw [if_neg c] at *
      exact wpList_normal l _ _ h
theorem _root_.Go.Proofs.YtkbgkogfjfojgaaDoor.QTail.wpList_cons_mono {ops : Array Oper} {Q Q' : Exit → Act → World → Prop} {o : Oper} {a : Act} {w : World} (h : ∀ e a w, (e = .normal ∧ Q e a w) → (e = .normal ∧ Q' e a w)) (hh : wpList P ops (fun e a w => e = .normal ∧ Q e a w) [o] a w) : wpList P ops (fun e a w => e = .normal ∧ Q' e a w) [o] a w := by
  unfold wpList at *
  by_cases c : Region.wanted o (yielded ops a.tmps) = true
  · rw [if_pos c] at *
    rcases hh with hh | ⟨-, a, w, hh, -⟩
    · exact Or.inl (QTail.wp_normal (fun e a w h => h.1) (fun a w h' => h _ _ _ h') hh)
    · cases hh
  · rw [if_neg c] at *
    exact h _ _ _ hh
/-- a region in the text's order: its first n operations quiet, the others behind them; what follows behind a variable -/
theorem seq_tail {id : Nat} {Q : Exit → Act → World → Prop} {a : Act} {w : World} {l : List Oper} (n : Nat)
    (h : ∀ Q' : Act → World → Prop, (∀ a w, Q .normal a w → Q' a w) → wpQuiet P l.toArray (fun w' => ∃ p : Regrown, w' = grow (redrawn w p.d) p.os) (fun a' => ∀ w', (∃ p : Regrown, w' = grow (redrawn w p.d) p.os) → wpList P l.toArray (fun e a w => e = .normal ∧ Q' a w) (l.drop n) a' w') (l.take n) a) : (Code.region id l.toArray false).wp P Q a w := by
  refine wp_region_list ?_
  have key := wpList_quiet (P := P) (ops := l.toArray) (rest := l.drop n) (Q := fun e a w => e = .normal ∧ Q .normal a w) (l.take n) a w ⟨⟨w.drawn, #[]⟩, by rw [grow_empty]; rfl⟩ (h (Q .normal) (fun _ _ h => h))
  rw [List.take_append_drop] at key
  exact wpList_normal _ _ _ key
/-- .. that draws its order -/
theorem drawn_tail {id : Nat} {Q : Exit → Act → World → Prop} {a : Act} {w : World} {l : List Oper} (n : Nat) (hm : P.follows .mixedOrders = true)
    (h1 : Region.lexB .any (l.take n).toArray = true)
    (h2 : (decide (n < l.length) && QTail.backB l n && Region.sinkB .any l.toArray n && Region.chainB .any l.toArray n && Region.seqB .any l.toArray (l.length - n) n (QTail.allListed n l.length)) = true)
    (h : ∀ Q' : Act → World → Prop, (∀ a w, Q .normal a w → Q' a w) → wpQuiet P (l.take n).toArray (fun w' => ∃ p : Regrown, w' = grow (redrawn w p.d) p.os) (fun a' => ∀ w', (∃ p : Regrown, w' = grow (redrawn w p.d) p.os) → wpList P l.toArray (fun e a w => e = .normal ∧ Q' a w) (l.drop n) a' w') (l.take n) a) : (Code.region id l.toArray true).wp P Q a w :=
  QTail.wp_region_below_tail n hm h1 h2 (by
    have key := h (Q .normal) (fun _ _ h => h)
    revert key
    generalize l.take n = m
    intro key
    exact wpQuiet_mono' m a (fun a' h' w' hw' => wpList_normal _ _ _ (h' w' hw')) key)
end
end Go.Proofs.YtkbgkogfjfojgaaDoor
