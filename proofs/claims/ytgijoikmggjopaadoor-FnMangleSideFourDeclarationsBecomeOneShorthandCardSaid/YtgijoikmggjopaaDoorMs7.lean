/- FnMangleSide: zzMinimalCount, zzWantWhitespace, zzCheckValue. -/
import Derived.Test.YtgijoikmggjopaaDoorMs3
import Derived.Test.YtgijoikmggjopaaDoorST
set_option linter.unusedVariables false
set_option linter.unusedSimpArgs false
namespace Go.Proofs.YtgijoikmggjopaaDoor
open Go.RowKit
abbrev q4 (a b c d : Int) : Value := .agg #[.int .u8 a, .int .u8 b, .int .u8 c, .int .u8 d]
def Q4 (w : World) (P : Nat) (a b c d : Int) : Prop := w.cell? ⟨P, 0, none⟩ = some (.int .u8 a) ∧ w.cell? ⟨P, 1, none⟩ = some (.int .u8 b) ∧ w.cell? ⟨P, 2, none⟩ = some (.int .u8 c) ∧ w.cell? ⟨P, 3, none⟩ = some (.int .u8 d)
theorem Q4.after {w w' : World} {P : Nat} {a b c d : Int} (h : Q4 w P a b c d) (hb : Below w.heap.size w w') : Q4 w' P a b c d := ⟨ac hb h.1, ac hb h.2.1, ac hb h.2.2.1, ac hb h.2.2.2⟩
def minN (a b c d : Int) : Nat := if b = a ∧ c = a ∧ d = a then 1 else if c = a ∧ d = b then 2 else if d = b then 3 else 4
set_option maxRecDepth 100000 in
set_option maxHeartbeats 4000000 in
theorem ex_1 (a b c d : Int) (w : World) : Calls Tryd.prog 22 #[q4 a b c d, .int .i64 1] w (Gv (.bool (a == b && (a == c && a == d))) w) := by
  cases h1 : a == b <;> cases h2 : a == c <;> cases h3 : a == d
  all_goals
    go_enter Tryd.func22, Tryd.ntmps22
    go_wp2
    go_ret
    exact ⟨rfl, ba _ _⟩
set_option maxRecDepth 100000 in
set_option maxHeartbeats 4000000 in
theorem ex_2 (a b c d : Int) (w : World) : Calls Tryd.prog 22 #[q4 a b c d, .int .i64 2] w (Gv (.bool (a == c && b == d)) w) := by
  cases h1 : a == c <;> cases h2 : b == d
  all_goals
    go_enter Tryd.func22, Tryd.ntmps22
    go_wp2
    go_ret
    exact ⟨rfl, ba _ _⟩
set_option maxRecDepth 100000 in
set_option maxHeartbeats 4000000 in
theorem ex_3 (a b c d : Int) (w : World) : Calls Tryd.prog 22 #[q4 a b c d, .int .i64 3] w (Gv (.bool (b == d)) w) := by
  cases h2 : b == d
  all_goals
    go_enter Tryd.func22, Tryd.ntmps22
    go_wp2
    go_ret
    exact ⟨rfl, ba _ _⟩
set_option maxRecDepth 100000 in
set_option maxHeartbeats 4000000 in
theorem min_c (a b c d : Int) (w : World) : Calls Tryd.prog 14 #[q4 a b c d] w (Gv (.int .i64 (minN a b c d)) w) := by
  go_enter Tryd.func14, Tryd.ntmps14
  go_upto_region 1 with fail
  refine wp_gen (fun W hW => ?_)
  have hb : Hid (Below w.heap.size w W) := Lib.hid (by rw [hW]; exact ba _ _)
  have hQ : Hid (Q4 W w.heap.size a b c d) := Lib.hid (by rw [hW]; exact ⟨by simp [go_sem], by simp [go_sem], by simp [go_sem], by simp [go_sem]⟩)
  clear hW
  generalize w.heap.size = P at hQ ⊢
  go_wp2
  go_loopw [3] (fun v wr => (∃ k : Nat, v = .int .i64 k ∧ (k = 1 ∨ (k = 2 ∧ ¬ (b = a ∧ c = a ∧ d = a)) ∨ (k = 3 ∧ ¬ (b = a ∧ c = a ∧ d = a) ∧ ¬ (c = a ∧ d = b)) ∨ (k = 4 ∧ ¬ (b = a ∧ c = a ∧ d = a) ∧ ¬ (c = a ∧ d = b) ∧ ¬ (d = b)))) ∧ Below W.heap.size W wr) (fun v _ => 4 - (intOf v).toNat)
  case atStart => exact ⟨⟨1, rfl, .inl rfl⟩, Below.refl _ _⟩
  case round =>
    obtain ⟨⟨k, rfl, hk⟩, hB⟩ := hrel
    have QQ := hQ.out.after hB
    have hB' := Lib.hid hB
    clear hB
    rcases hk with rfl | ⟨rfl, H1⟩ | ⟨rfl, H1, H2⟩ | ⟨rfl, H1, H2, H3⟩
    all_goals (try replace H1 := Lib.hid H1); (try replace H2 := Lib.hid H2); (try replace H3 := Lib.hid H3)
    · have E := Lib.hid (fun w => ex_1 a b c d w)
      have y0 := QQ.1
      have y1 := QQ.2.1
      have y2 := QQ.2.2.1
      have y3 := QQ.2.2.2
      cases hc : (a == b && (a == c && a == d))
      · rw [hc] at E
        replace hc := Lib.hid hc
        go_wp2_with (go_at_call 22; (with_reducible refine (E.out _).mono ?_); rintro e w5 ⟨rfl, hb3⟩; replace hb3 := Lib.hid hb3)
        go_roundw
        case rel => exact ⟨⟨2, rfl, .inr (.inl ⟨rfl, by have := hc.out; simp at this; rintro ⟨h1, h2, h3⟩; exact this h1.symm h2.symm h3.symm⟩)⟩, hB'.out.trans (hb3.out.mono hB'.out.size)⟩
        case measure => simp [intOf]
      · rw [hc] at E
        replace hc := Lib.hid hc
        go_wp2_with (go_at_call 22; (with_reducible refine (E.out _).mono ?_); rintro e w5 ⟨rfl, hb3⟩; replace hb3 := Lib.hid hb3)
        go_ret
        exact ⟨by have := hc.out; simp at this; unfold minN; rw [if_pos ⟨this.1.symm, this.2.1.symm, this.2.2.symm⟩]; rfl, hb.out.trans ((hB'.out.trans (hb3.out.mono hB'.out.size)).mono hb.out.size)⟩
    · have E := Lib.hid (fun w => ex_2 a b c d w)
      have y0 := QQ.1
      have y1 := QQ.2.1
      have y2 := QQ.2.2.1
      have y3 := QQ.2.2.2
      cases hc : (a == c && b == d)
      · rw [hc] at E
        replace hc := Lib.hid hc
        go_wp2_with (go_at_call 22; (with_reducible refine (E.out _).mono ?_); rintro e w5 ⟨rfl, hb3⟩; replace hb3 := Lib.hid hb3)
        go_roundw
        case rel => exact ⟨⟨3, rfl, .inr (.inr (.inl ⟨rfl, H1.out, by have := hc.out; simp at this; rintro ⟨h1, h2⟩; exact this h1.symm h2.symm⟩))⟩, hB'.out.trans (hb3.out.mono hB'.out.size)⟩
        case measure => simp [intOf]
      · rw [hc] at E
        replace hc := Lib.hid hc
        go_wp2_with (go_at_call 22; (with_reducible refine (E.out _).mono ?_); rintro e w5 ⟨rfl, hb3⟩; replace hb3 := Lib.hid hb3)
        go_ret
        exact ⟨by have := hc.out; simp at this; unfold minN; rw [if_neg H1.out, if_pos ⟨this.1.symm, this.2.symm⟩]; rfl, hb.out.trans ((hB'.out.trans (hb3.out.mono hB'.out.size)).mono hb.out.size)⟩
    · have E := Lib.hid (fun w => ex_3 a b c d w)
      have y0 := QQ.1
      have y1 := QQ.2.1
      have y2 := QQ.2.2.1
      have y3 := QQ.2.2.2
      cases hc : (b == d)
      · rw [hc] at E
        replace hc := Lib.hid hc
        go_wp2_with (go_at_call 22; (with_reducible refine (E.out _).mono ?_); rintro e w5 ⟨rfl, hb3⟩; replace hb3 := Lib.hid hb3)
        go_roundw
        case rel => exact ⟨⟨4, rfl, .inr (.inr (.inr ⟨rfl, H1.out, H2.out, by have := hc.out; simp at this; exact fun h => this h.symm⟩))⟩, hB'.out.trans (hb3.out.mono hB'.out.size)⟩
        case measure => simp [intOf]
      · rw [hc] at E
        replace hc := Lib.hid hc
        go_wp2_with (go_at_call 22; (with_reducible refine (E.out _).mono ?_); rintro e w5 ⟨rfl, hb3⟩; replace hb3 := Lib.hid hb3)
        go_ret
        exact ⟨by have := hc.out; simp at this; unfold minN; rw [if_neg H1.out, if_neg H2.out, if_pos this.symm]; rfl, hb.out.trans ((hB'.out.trans (hb3.out.mono hB'.out.size)).mono hb.out.size)⟩
    · go_wp2
      go_ret
      exact ⟨by unfold minN; rw [if_neg H1.out, if_neg H2.out, if_neg H3.out]; rfl, hb.out.trans (hB'.out.mono hb.out.size)⟩
set_option maxRecDepth 100000 in
set_option maxHeartbeats 4000000 in
theorem ws_c (i k : Nat) (m : Bool) (hi : i < 4) (hk : k ≤ 4) (w : World) : Calls Tryd.prog 15 #[.int .i64 i, .int .i64 k, .bool m] w (Gv (.int .u8 (wsF i k m)) w) := by
  have i0 : (0 : Int) ≤ i := by omega
  have i1 : (i : Int) < 4 := by omega
  have k1 : (k : Int) ≤ 4 := by omega
  by_cases hp : 0 < i <;> by_cases hl : i + 1 < k <;> cases m
  all_goals (have p1 : decide ((0 : Int) < i) = decide (0 < i) := by simp)
  all_goals (have p2 : decide ((i : Int) + 1 < k) = decide (i + 1 < k) := by simp; omega)
  all_goals
    first | (have q1 : (0 : Int) < i := by omega) | (have q1 : ¬ ((0 : Int) < i) := by omega)
  all_goals
    first | (have q2 : (i : Int) + 1 < k := by omega) | (have q2 : ¬ ((i : Int) + 1 < k) := by omega)
  all_goals
    clear p1 p2
    go_enter Tryd.func15, Tryd.ntmps15
    go_wp2
    go_ret
    exact ⟨by unfold wsF; simp [hp, hl]; try (first | rfl | decide), Below.refl _ _⟩
end Go.Proofs.YtgijoikmggjopaaDoor
