/- Atan2 at a point, at its mirror, at its opposite. -/
import Derived.Test.YtkbgkogfjfojgaaDoorAtw
set_option linter.unusedSimpArgs false
set_option linter.unusedVariables false
set_option maxRecDepth 100000
namespace Go.Proofs.YtkbgkogfjfojgaaDoor
open Go.RowKit
open Flt Ieee
abbrev pP : Rat := 884279719003555 / 281474976710656
theorem cPI : fin 4614256656552045848 ∧ val 4614256656552045848 = pP := const_val (by decide +kernel) (by decide +kernel)
theorem cPI2' : fin 4609753056924675352 ∧ val 4609753056924675352 = pP / 2 := const_val (by decide +kernel) (by decide +kernel)
abbrev eps : Rat := 1 / 10 ^ 13
theorem e15 : er 15 ≤ 1 / 10 ^ 13 / 4 := by unfold er; decide +kernel
/-- what Atan2 says at (y, x), (-y, x), (-y, -x) -/
structure Tri (q1 q2 q3 : Nat) : Prop where
  f1 : fin q1
  f2 : fin q2
  f3 : fin q3
  a1 : Abs (val q1) 20
  a2 : Abs (val q2) 20
  a3 : Abs (val q3) 20
  sum : ∃ k : Rat, (k = -1 ∨ k = 0 ∨ k = 1) ∧ Near (val q1 + val q2) (2 * k * pP) eps
  dif : ∃ k : Rat, (k = -1 ∨ k = 1) ∧ Near (val q3 - val q1) (k * pP) eps
theorem word_c (s : Bool) (r : Nat) (h : r < top) (v : Rat) (hv : val r = v) : fin (F.word s r) ∧ (val (F.word s r) = v ∨ val (F.word s r) = -v) := by
  have e : val (F.word false r) = v := hv
  refine ⟨word_fin s r h, ?_⟩
  cases s
  · exact .inl e
  · have hw := word_val true r h
    rw [if_pos rfl, e] at hw
    exact .inr hw
def C2 (y x q : Nat) : Prop := ∀ w, Calls Tryd.prog 29 #[.float .f64 y, .float .f64 x] w fun e w' => e = .returned (.float .f64 q) ∧ w = w'
theorem near0 {a b e : Rat} (h : a = b) (he : 0 ≤ e) : Near a b e := by unfold Near; constructor <;> grind
theorem wn (s : Bool) (r : Nat) (h : r < top) (v : Rat) (hv : val r = v) : val (F.word (!s) r) = - val (F.word s r) := by
  have h1 := word_val s r h
  have h2 := word_val (!s) r h
  cases s <;> simp at h1 h2 <;> grind
theorem tri_0f (sy sx : Bool) (ry rx : Nat) (hy : ry < top) (hx : rx < top) (h : ry = 0) (hs : sx = false) : ∃ q1 q2 q3, Tri q1 q2 q3 ∧ C2 (F.word sy ry) (F.word sx rx) q1 ∧ C2 (F.word (!sy) ry) (F.word sx rx) q2 ∧ C2 (F.word (!sy) ry) (F.word (!sx) rx) q3 := by
  refine ⟨F.word sy 0, F.word (!sy) 0, F.word (!sy) 4614256656552045848, ?_, fun w => at2_a sy sx ry rx w hy hx h hs, fun w => at2_a (!sy) sx ry rx w hy hx h hs, fun w => ?_⟩
  · obtain ⟨f1, -⟩ := word_c sy 0 (by decide) 0 zero_fin.2
    obtain ⟨f2, -⟩ := word_c (!sy) 0 (by decide) 0 zero_fin.2
    have v1 : val (F.word sy 0) = 0 := (word_zero sy).2
    have v2 : val (F.word (!sy) 0) = 0 := (word_zero (!sy)).2
    obtain ⟨f3, v3⟩ := word_c (!sy) 4614256656552045848 (by decide) pP cPI.2
    refine ⟨f1, f2, f3, by rw [v1]; unfold Abs; constructor <;> grind, by rw [v2]; unfold Abs; constructor <;> grind, by unfold Abs; rcases v3 with v | v <;> rw [v] <;> constructor <;> unfold pP <;> grind, ⟨0, by simp, near0 (by rw [v1, v2]; grind) (by unfold eps; grind)⟩, ?_⟩
    rcases v3 with v | v
    · exact ⟨1, by simp, near0 (by rw [v, v1]; grind) (by unfold eps; grind)⟩
    · exact ⟨-1, by simp, near0 (by rw [v, v1]; grind) (by unfold eps; grind)⟩
  · by_cases hr : rx = 0
    · exact at2_c (!sy) (!sx) ry rx w hy hx h (by rw [hs]; rfl) hr
    · exact at2_b (!sy) (!sx) ry rx w hy hx h (by rw [hs]; rfl) hr
theorem tri_0t (sy sx : Bool) (ry rx : Nat) (hy : ry < top) (hx : rx < top) (h : ry = 0) (hs : sx = true) : ∃ q1 q2 q3, Tri q1 q2 q3 ∧ C2 (F.word sy ry) (F.word sx rx) q1 ∧ C2 (F.word (!sy) ry) (F.word sx rx) q2 ∧ C2 (F.word (!sy) ry) (F.word (!sx) rx) q3 := by
  refine ⟨F.word sy 4614256656552045848, F.word (!sy) 4614256656552045848, F.word (!sy) 0, ?_, fun w => ?_, fun w => ?_, fun w => at2_a (!sy) (!sx) ry rx w hy hx h (by rw [hs]; rfl)⟩
  · obtain ⟨f1, v1⟩ := word_c sy 4614256656552045848 (by decide) pP cPI.2
    obtain ⟨f2, v2⟩ := word_c (!sy) 4614256656552045848 (by decide) pP cPI.2
    have hn := wn sy 4614256656552045848 (by decide) pP cPI.2
    have v3 : val (F.word (!sy) 0) = 0 := (word_zero (!sy)).2
    refine ⟨f1, f2, (word_zero (!sy)).1, by unfold Abs; rcases v1 with v | v <;> rw [v] <;> constructor <;> unfold pP <;> grind, by unfold Abs; rcases v2 with v | v <;> rw [v] <;> constructor <;> unfold pP <;> grind, by rw [v3]; unfold Abs; constructor <;> grind, ⟨0, by simp, near0 (by rw [hn]; grind) (by unfold eps; grind)⟩, ?_⟩
    rcases v1 with v | v
    · exact ⟨-1, by simp, near0 (by rw [v, v3]; grind) (by unfold eps; grind)⟩
    · exact ⟨1, by simp, near0 (by rw [v, v3]; grind) (by unfold eps; grind)⟩
  · by_cases hr : rx = 0
    · exact at2_c sy sx ry rx w hy hx h hs hr
    · exact at2_b sy sx ry rx w hy hx h hs hr
  · by_cases hr : rx = 0
    · exact at2_c (!sy) sx ry rx w hy hx h hs hr
    · exact at2_b (!sy) sx ry rx w hy hx h hs hr
theorem tri_x0 (sy sx : Bool) (ry rx : Nat) (hy : ry < top) (hx : rx < top) (h : ry ≠ 0) (hr : rx = 0) : ∃ q1 q2 q3, Tri q1 q2 q3 ∧ C2 (F.word sy ry) (F.word sx rx) q1 ∧ C2 (F.word (!sy) ry) (F.word sx rx) q2 ∧ C2 (F.word (!sy) ry) (F.word (!sx) rx) q3 := by
  refine ⟨F.word sy 4609753056924675352, F.word (!sy) 4609753056924675352, F.word (!sy) 4609753056924675352, ?_, fun w => at2_d sy sx ry rx w hy hx h hr, fun w => at2_d (!sy) sx ry rx w hy hx h hr, fun w => at2_d (!sy) (!sx) ry rx w hy hx h hr⟩
  obtain ⟨f1, v1⟩ := word_c sy 4609753056924675352 (by decide) (pP / 2) cPI2'.2
  obtain ⟨f2, v2⟩ := word_c (!sy) 4609753056924675352 (by decide) (pP / 2) cPI2'.2
  have hn := wn sy 4609753056924675352 (by decide) (pP / 2) cPI2'.2
  have b2 : Abs (val (F.word (!sy) 4609753056924675352)) 20 := by unfold Abs; rcases v2 with v | v <;> rw [v] <;> constructor <;> unfold pP <;> grind
  refine ⟨f1, f2, f2, by unfold Abs; rcases v1 with v | v <;> rw [v] <;> constructor <;> unfold pP <;> grind, b2, b2, ⟨0, by simp, near0 (by rw [hn]; grind) (by unfold eps; grind)⟩, ?_⟩
  rcases v1 with v | v
  · exact ⟨-1, by simp, near0 (by rw [hn, v]; grind) (by unfold eps; grind)⟩
  · exact ⟨1, by simp, near0 (by rw [hn, v]; grind) (by unfold eps; grind)⟩
theorem at0_val (s : Bool) (rr t : Nat) (ht : rr ≠ 0 → fin t ∧ Abs (val t) 11 ∧ t < 2 ^ 64) : fin (at0 s rr t) ∧ Abs (val (at0 s rr t)) 11 ∧ val (at0 (!s) rr t) = - val (at0 s rr t) := by
  unfold at0
  by_cases h : rr = 0
  · rw [if_pos h, if_pos h]
    have v1 := word_zero s
    have v2 := word_zero (!s)
    refine ⟨v1.1, by rw [v1.2]; unfold Abs; constructor <;> grind, by rw [v1.2, v2.2]; grind⟩
  · obtain ⟨f, b, l⟩ := ht h
    obtain ⟨nf, nv⟩ := negB_val l f
    rw [if_neg h, if_neg h]
    cases s
    · exact ⟨f, b, nv⟩
    · refine ⟨nf, ?_, ?_⟩
      · show Abs (val (negB t)) 11
        rw [nv]; unfold Abs at *; constructor <;> grind
      · show val t = - val (negB t)
        rw [nv]; grind
theorem aPI : Abs (val 4614256656552045848) 4 := by rw [cPI.2]; unfold Abs pP; constructor <;> grind
/-- q0 moved by pi, towards the other side -/
theorem turn {q0 : Nat} (f : fin q0) (b : Abs (val q0) 11) : ∃ q, fin q ∧ Abs (val q) 20 ∧ ((leB q0 0 = true ∧ val q0 ≤ 0 ∧ floatBits .add .f64 q0 4614256656552045848 = some q ∧ Near (val q) (val q0 + pP) (er 15)) ∨ (leB q0 0 = false ∧ 0 < val q0 ∧ floatBits .sub .f64 q0 4614256656552045848 = some q ∧ Near (val q) (val q0 - pP) (er 15))) := by
  cases hl : leB q0 0
  · obtain ⟨q, H⟩ := sub_b f cPI.1 b aPI (by grind)
    have hp : 0 < val q0 := by
      by_cases c : val q0 ≤ 0
      · have := (leB_iff f zero_fin.1).2 (by rw [zero_fin.2]; exact c)
        rw [hl] at this; cases this
      · grind
    have hn := H.near
    rw [cPI.2] at hn
    exact ⟨q, H.fin, abs_le H.abs (by grind), .inr ⟨rfl, hp, H.bits, near_mono hn (er_le (by grind))⟩⟩
  · obtain ⟨q, H⟩ := add_b f cPI.1 b aPI (by grind)
    have hp : val q0 ≤ 0 := by have := (leB_iff f zero_fin.1).1 hl; rw [zero_fin.2] at this; exact this
    have hn := H.near
    rw [cPI.2] at hn
    exact ⟨q, H.fin, abs_le H.abs (by grind), .inl ⟨rfl, hp, H.bits, near_mono hn (er_le (by grind))⟩⟩
theorem tri_gen (sy sx : Bool) (ry rx : Nat) (hy : ry < top) (hx : rx < top) (h : ry ≠ 0) (hr : rx ≠ 0) : ∃ q1 q2 q3, Tri q1 q2 q3 ∧ C2 (F.word sy ry) (F.word sx rx) q1 ∧ C2 (F.word (!sy) ry) (F.word sx rx) q2 ∧ C2 (F.word (!sy) ry) (F.word (!sx) rx) q3 := by
  have hvx : val (F.word sx rx) ≠ 0 := by
    have h1 := word_val sx rx hx
    have h2 := word_pos rx (by omega) hx
    cases sx <;> simp at h1 <;> grind
  obtain ⟨s, rr, hrr, d1, d2, d3⟩ := quo_signs (word_lt sy ry (by omega)) (word_lt sx rx (by omega)) (word_fin sy ry hy) (word_fin sx rx hx) hvx
  rw [neg_word sy ry (by omega)] at d2 d3
  rw [neg_word sx rx (by omega)] at d3
  obtain ⟨t, ht⟩ : ∃ t, rr ≠ 0 → (fin t ∧ Abs (val t) 11 ∧ SatP (F.word false rr) t) := by
    by_cases c : rr = 0
    · exact ⟨0, fun h => absurd c h⟩
    · obtain ⟨t, a, b, c⟩ := sat_ex rr (by omega) hrr
      exact ⟨t, fun _ => ⟨a, b, c⟩⟩
  have hS : rr ≠ 0 → SatP (F.word false rr) t := fun h => (ht h).2.2
  obtain ⟨f0, b0, v0⟩ := at0_val s rr t (fun h => ⟨(ht h).1, (ht h).2.1, sat_lt (ht h).2.2⟩)
  obtain ⟨f0', b0', -⟩ := at0_val (!s) rr t (fun h => ⟨(ht h).1, (ht h).2.1, sat_lt (ht h).2.2⟩)
  have E := e15
  cases sx
  · obtain ⟨q3, f3, a3, h3⟩ := turn f0 b0
    refine ⟨at0 s rr t, at0 (!s) rr t, q3, ⟨f0, f0', f3, abs_le b0 (by grind), abs_le b0' (by grind), a3, ⟨0, by simp, near0 (by rw [v0]; grind) (by unfold eps; grind)⟩, ?_⟩, fun w => at2_e sy false ry rx w hy hx h hr s rr t hrr d1 hS rfl, fun w => at2_e (!sy) false ry rx w hy hx h hr (!s) rr t hrr d2 hS rfl, fun w => ?_⟩
    · rcases h3 with ⟨-, -, -, hn⟩ | ⟨-, -, -, hn⟩
      · exact ⟨1, by simp, by unfold Near eps at *; constructor <;> grind⟩
      · exact ⟨-1, by simp, by unfold Near eps at *; constructor <;> grind⟩
    · rcases h3 with ⟨hl, -, hb, -⟩ | ⟨hl, -, hb, -⟩
      · exact at2_f (!sy) true ry rx w hy hx h hr s rr t hrr d3 hS rfl q3 hl hb
      · exact at2_g (!sy) true ry rx w hy hx h hr s rr t hrr d3 hS rfl q3 hl hb
  · obtain ⟨q1, f1, a1, h1⟩ := turn f0 b0
    obtain ⟨q2, f2, a2, h2⟩ := turn f0' b0'
    refine ⟨q1, q2, at0 s rr t, ⟨f1, f2, f0, a1, a2, abs_le b0 (by grind), ?_, ?_⟩, fun w => ?_, fun w => ?_, fun w => at2_e (!sy) false ry rx w hy hx h hr s rr t hrr d3 hS rfl⟩
    · rcases h1 with ⟨-, p1, -, n1⟩ | ⟨-, p1, -, n1⟩ <;> rcases h2 with ⟨-, p2, -, n2⟩ | ⟨-, p2, -, n2⟩
      · exact ⟨1, by simp, by unfold Near eps at *; constructor <;> grind⟩
      · exact ⟨0, by simp, by unfold Near eps at *; constructor <;> grind⟩
      · exact ⟨0, by simp, by unfold Near eps at *; constructor <;> grind⟩
      · exfalso; grind
    · rcases h1 with ⟨-, p1, -, n1⟩ | ⟨-, p1, -, n1⟩
      · exact ⟨-1, by simp, by unfold Near eps at *; constructor <;> grind⟩
      · exact ⟨1, by simp, by unfold Near eps at *; constructor <;> grind⟩
    · rcases h1 with ⟨hl, -, hb, -⟩ | ⟨hl, -, hb, -⟩
      · exact at2_f sy true ry rx w hy hx h hr s rr t hrr d1 hS rfl q1 hl hb
      · exact at2_g sy true ry rx w hy hx h hr s rr t hrr d1 hS rfl q1 hl hb
    · rcases h2 with ⟨hl, -, hb, -⟩ | ⟨hl, -, hb, -⟩
      · exact at2_f (!sy) true ry rx w hy hx h hr (!s) rr t hrr d2 hS rfl q2 hl hb
      · exact at2_g (!sy) true ry rx w hy hx h hr (!s) rr t hrr d2 hS rfl q2 hl hb
theorem tri_ex (y x : Nat) (wy : y < 2 ^ 64) (wx : x < 2 ^ 64) (fy : fin y) (fx : fin x) : ∃ q1 q2 q3, Tri q1 q2 q3 ∧ C2 y x q1 ∧ C2 (negB y) x q2 ∧ C2 (negB y) (negB x) q3 := by
  obtain ⟨sy, ry, hy, rfl⟩ := fin_word wy fy
  obtain ⟨sx, rx, hx, rfl⟩ := fin_word wx fx
  rw [neg_word sy ry (by omega), neg_word sx rx (by omega)]
  by_cases h : ry = 0
  · cases hs : sx
    · exact tri_0f sy false ry rx hy hx h rfl
    · exact tri_0t sy true ry rx hy hx h rfl
  · by_cases hr : rx = 0
    · exact tri_x0 sy sx ry rx hy hx h hr
    · exact tri_gen sy sx ry rx hy hx h hr
end Go.Proofs.YtkbgkogfjfojgaaDoor
