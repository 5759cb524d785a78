/- Words for walks: a region's quiet head and its tail, with what follows behind a variable. -/
import Derived.Test.YtjigljpodkfchadIT
import Derived.Below
import Derived.BigQuiet
set_option linter.unusedSimpArgs false
set_option linter.unusedVariables false
namespace Go.Proofs.Ytjigljpodkfchad
open Go.RowKit Go.Sort
theorem wp_gen {c : Code} {P : Program} {Q : Exit → Act → World → Prop} {a : Act} {w0 : World} (h : ∀ W, W = w0 → c.wp P Q a W) : c.wp P Q a w0 := h _ rfl
section
variable {P : Program}
theorem wpList_quiet {ops : Array Oper} {C : World → Prop} {Q : Exit → Act → World → Prop} {rest : List Oper} : ∀ (l : List Oper) (a : Act) (w : World), C w → wpQuiet P ops C (fun a' => ∀ w', C w' → wpList P ops Q rest a' w') l a → wpList P ops Q (l ++ rest) a w
  | [], a, w, hw, h => h w hw
  | o :: l, a, w, hw, h => by
    unfold wpQuiet at h
    rw [List.cons_append]
    unfold wpList
    by_cases c : Region.wanted o (yielded ops a.tmps) = true
    · rw [if_pos c] at h
      rw [if_pos c]
      refine Or.inl ?_
      obtain ⟨v, h1, h2⟩ := h
      have h3 := h1 w hw
      unfold Oper.quietAt at h3
      unfold Oper.wp
      generalize (execOp a.eval o).run P w = r at *
      unfold Oper.quietUpon at h3
      unfold Oper.upon
      split at h3
      · obtain ⟨rfl, rfl⟩ := h3
        exact wpList_quiet l _ _ hw h2
      · obtain ⟨rfl, rfl⟩ := h3
        exact wpList_quiet l _ _ hw h2
      · obtain ⟨rfl, h3⟩ := h3
        refine h3.mono ?_
        rintro e w'' ⟨rfl, hc⟩
        exact wpList_quiet l _ _ hc h2
      · exact h3.elim
    · rw [if_neg c] at h
      rw [if_neg c]
      exact wpList_quiet l _ _ hw h
theorem wpQuiet_mono' {ops : Array Oper} {C : World → Prop} {K K' : Act → Prop} : ∀ (l : List Oper) (a : Act), (∀ a, K a → K' a) → wpQuiet P ops C K l a → wpQuiet P ops C K' l a
  | [], a, hK, h => hK a h
  | o :: l, a, hK, h => by
    unfold wpQuiet at *
    by_cases c : Region.wanted o (yielded ops a.tmps) = true
    · rw [if_pos c] at *
      exact Oper.quiet_mono (fun a h => wpQuiet_mono' l a hK h) h
    · rw [if_neg c] at *
      exact wpQuiet_mono' l _ hK h
theorem wpList_normal {ops : Array Oper} {Q : Exit → Act → World → Prop} : ∀ (l : List Oper) (a : Act) (w : World), wpList P ops (fun e a w => e = .normal ∧ Q .normal a w) l a w → wpList P ops Q l a w
  | [], _, _, h => h.2
  | o :: l, a, w, h => by
    unfold wpList at *
    by_cases c : Region.wanted o (yielded ops a.tmps) = true
    · rw [if_pos c] at *
      rcases h with h | ⟨-, a, w, h, -⟩
      · exact Or.inl (QTail.wp_normal (fun e a w h => h.1) (fun a w h => wpList_normal l a w h) h)
      · cases h
    · rw [if_neg c] at *
      exact wpList_normal l _ _ h
theorem _root_.Go.Proofs.Ytjigljpodkfchad.QTail.wpList_cons_mono {ops : Array Oper} {Q Q' : Exit → Act → World → Prop} {o : Oper} {a : Act} {w : World} (h : ∀ e a w, (e = .normal ∧ Q e a w) → (e = .normal ∧ Q' e a w)) (hh : wpList P ops (fun e a w => e = .normal ∧ Q e a w) [o] a w) : wpList P ops (fun e a w => e = .normal ∧ Q' e a w) [o] a w := by
  unfold wpList at *
  by_cases c : Region.wanted o (yielded ops a.tmps) = true
  · rw [if_pos c] at *
    rcases hh with hh | ⟨-, a, w, hh, -⟩
    · exact Or.inl (QTail.wp_normal (fun e a w h => h.1) (fun a w h' => h _ _ _ h') hh)
    · cases hh
  · rw [if_neg c] at *
    exact h _ _ _ hh
/-- a region in the text's order: its first n operations quiet, the others behind them; what follows behind a variable -/
theorem seq_tail {id : Nat} {Q : Exit → Act → World → Prop} {a : Act} {w : World} {l : List Oper} (n : Nat)
    (h : ∀ Q' : Act → World → Prop, (∀ a w, Q .normal a w → Q' a w) → wpQuiet P l.toArray (fun w' => ∃ p : Regrown, w' = grow (redrawn w p.d) p.os) (fun a' => ∀ w', (∃ p : Regrown, w' = grow (redrawn w p.d) p.os) → wpList P l.toArray (fun e a w => e = .normal ∧ Q' a w) (l.drop n) a' w') (l.take n) a) : (Code.region id l.toArray false).wp P Q a w := by
  refine wp_region_list ?_
  have key := wpList_quiet (P := P) (ops := l.toArray) (rest := l.drop n) (Q := fun e a w => e = .normal ∧ Q .normal a w) (l.take n) a w ⟨⟨w.drawn, #[]⟩, by rw [grow_empty]; rfl⟩ (h (Q .normal) (fun _ _ h => h))
  rw [List.take_append_drop] at key
  exact wpList_normal _ _ _ key
/-- .. that draws its order -/
theorem drawn_tail {id : Nat} {Q : Exit → Act → World → Prop} {a : Act} {w : World} {l : List Oper} (n : Nat) (hm : P.follows .mixedOrders = true)
    (h1 : Region.lexB .any (l.take n).toArray = true)
    (h2 : (decide (n < l.length) && QTail.backB l n && Region.sinkB .any l.toArray n && Region.chainB .any l.toArray n && Region.seqB .any l.toArray (l.length - n) n (QTail.allListed n l.length)) = true)
    (h : ∀ Q' : Act → World → Prop, (∀ a w, Q .normal a w → Q' a w) → wpQuiet P (l.take n).toArray (fun w' => ∃ p : Regrown, w' = grow (redrawn w p.d) p.os) (fun a' => ∀ w', (∃ p : Regrown, w' = grow (redrawn w p.d) p.os) → wpList P l.toArray (fun e a w => e = .normal ∧ Q' a w) (l.drop n) a' w') (l.take n) a) : (Code.region id l.toArray true).wp P Q a w :=
  QTail.wp_region_below_tail n hm h1 h2 (by
    have key := h (Q .normal) (fun _ _ h => h)
    revert key
    generalize l.take n = m
    intro key
    exact wpQuiet_mono' m a (fun a' h' w' hw' => wpList_normal _ _ _ (h' w' hw')) key)
end
end Go.Proofs.Ytjigljpodkfchad
