/- FnParseRangeMediaFeatureShape returns true at every argument (no condition). -/
import Derived.Test.YtpnfllnnbinbjaaRng
import Derived.Deep.DeepCutAuto
import Derived.WalkSpells
namespace Go.Proofs.Ytpnfllnnbinbjaa.fnParseRangeMediaFeatureShape
open Go.ChangeShapes Go.WideShapes Go.ChangeAt Go.RowKit
open Go.ChangeMaps (open_string shut_string)
set_option linter.unusedVariables false
set_option linter.unusedSimpArgs false
def zOf (g : Nat → Nat → Value) (i : Nat) : ZT := ⟨intOf (g i 0), strV (g i 1), intOf (g i 2), intOf (g i 3)⟩
theorem argT_zl {w : World} {a : Option Addr} {n c : Nat} {g : Nat → Nat → Value} (h : ArgT [.int .u8, .str, .int .u8, .int .i32] w a n c g) : ZL w a n (zOf g) ∧ ∀ i, i < n → (zOf g i).tx.size ≤ maxLen := by
  refine ⟨fun i hi => ?_, fun i hi => ?_⟩
  · obtain ⟨x, e, hx⟩ := h.row i hi
    obtain ⟨h0, v0, e0, -⟩ := hx 0 _ rfl
    obtain ⟨h1, v1, e1, -⟩ := hx 1 _ rfl
    obtain ⟨h2, v2, e2, -⟩ := hx 2 _ rfl
    obtain ⟨h3, v3, e3, -⟩ := hx 3 _ rfl
    refine ⟨x, e, ?_, ?_, ?_, ?_⟩
    · rw [show x.add (i * 4) = x.add (i * [FK.int .u8, .str, .int .u8, .int .i32].length + 0) from rfl, h0]; unfold zOf; rw [e0]; rfl
    · rw [show x.add (i * 4 + 1) = x.add (i * [FK.int .u8, .str, .int .u8, .int .i32].length + 1) from rfl, h1]; unfold zOf; rw [e1]; rfl
    · rw [show x.add (i * 4 + 2) = x.add (i * [FK.int .u8, .str, .int .u8, .int .i32].length + 2) from rfl, h2]; unfold zOf; rw [e2]; rfl
    · rw [show x.add (i * 4 + 3) = x.add (i * [FK.int .u8, .str, .int .u8, .int .i32].length + 3) from rfl, h3]; unfold zOf; rw [e3]; rfl
  · obtain ⟨x, e, hx⟩ := h.row i hi
    obtain ⟨h1, v1, e1, hs⟩ := hx 1 _ rfl
    unfold zOf
    rw [e1]; exact hs
set_option maxRecDepth 100000 in
set_option maxHeartbeats 4000000 in
theorem bytes20_c (A0 : Option Addr) (n c0 : Nat) (Z0 : Nat → ZT) (w : World) (h0 : n ≤ maxLen) (r0 : ZL w A0 n Z0) :
    Calls Try.prog 20 #[.slice A0 n c0] w (SomeB w) := by
  unfold maxLen at h0
  have R0 := Lib.hid r0
  clear r0
  go_enter Try.func20, Try.ntmps20
  go_wp2
  any_goals (go_ret; exact ⟨_, rfl, rfl⟩)
  go_loop [3, 4] (fun s i => ∃ k m : Nat, k ≤ n ∧ m ≤ 1048576 ∧ s = .int .i64 m ∧ i = .int .i64 k) (fun _ i => n - (intOf i).toNat)
  case atStart => exact ⟨0, n, by omega, by omega, rfl, rfl⟩
  case round =>
    obtain ⟨k, m, hk, hm, rfl, rfl⟩ := hrel
    by_cases hlt : k < n
    · obtain ⟨x, rfl, d0, d1, d2, d3⟩ := R0.out.at_ k hlt
      have i0 : (0 : Int) ≤ k := by omega
      have i1 : (k : Int) < n := by omega
      by_cases hb : 1048576 < (Z0 k).tx.size
      · go_wp2
        go_ret
        exact ⟨_, rfl, rfl⟩
      · by_cases hb2 : 1048576 < m + (Z0 k).tx.size
        · go_wp2
          go_ret
          exact ⟨_, rfl, rfl⟩
        · go_wp2
          go_round
          case rel => exact ⟨k + 1, m + (Z0 k).tx.size, by omega, by omega, by go_num, by go_num⟩
          case measure => simp [intOf]; omega
    · go_wp2
      go_ret
      exact ⟨_, rfl, rfl⟩
def isCb (k : Int) : Bool := k == 18 || k == 21 || k == 20
set_option maxRecDepth 100000 in
set_option maxHeartbeats 4000000 in
theorem cmpk23_c (k : Int) (w : World) : Calls Try.prog 23 #[.int .u8 k] w fun e w' => e = .returned (.bool (isCb k)) ∧ w = w' := by
  cases e1 : (k == 18)
  · cases e2 : (k == 21)
    · cases e3 : (k == 20)
      all_goals
        have hr : Hid (isCb k = _) := Lib.hid (show isCb k = (k == 18 || k == 21 || k == 20) from rfl)
        go_enter Try.func23, Try.ntmps23
        go_wp2
        go_ret
        exact ⟨by rw [hr.out, e1, e2, e3]; rfl, rfl⟩
    · have hr : Hid (isCb k = _) := Lib.hid (show isCb k = (k == 18 || k == 21 || k == 20) from rfl)
      go_enter Try.func23, Try.ntmps23
      go_wp2
      go_ret
      exact ⟨by rw [hr.out, e1, e2]; rfl, rfl⟩
  · have hr : Hid (isCb k = _) := Lib.hid (show isCb k = (k == 18 || k == 21 || k == 20) from rfl)
    go_enter Try.func23, Try.ntmps23
    go_wp2
    go_ret
    exact ⟨by rw [hr.out, e1]; rfl, rfl⟩
set_option maxRecDepth 100000 in
set_option maxHeartbeats 4000000 in
theorem range21_c (A : Option Addr) (T n : Nat) (F : Nat → Tk) (w : World) (hm : n ≤ 1048576) (hA : 0 < n → A = some ⟨T, 0, none⟩) (hA0 : A = none → n = 0) (h : TokB w T 0 n F) (hw : ∀ i, i < n → 0 ≤ (F i).ws ∧ (F i).ws ≤ 255) : Calls Try.prog 21 #[.slice A n n] w (RangeP T n F w) := by
  have C := Lib.hid (range32_c A T n F w hm hA hA0 h hw)
  clear h hA hA0 hw
  go_enter Try.func21, Try.ntmps21
  go_wp2_with (go_at_call 32; (with_reducible refine C.out.mono ?_); rintro e w' ⟨rfl | ⟨q, B, nb, cb, Aa, na, ca, bc, ac, rfl, h⟩, hO⟩; replace hO := Lib.hid hO; rotate_left; replace hO := Lib.hid hO; replace h := Lib.hid h; rotate_left)
  · go_ret2
    exact ⟨.inl rfl, hO.out⟩
  · go_ret2
    exact ⟨.inr ⟨q, B, nb, cb, Aa, na, ca, bc, ac, rfl, h.out⟩, hO.out⟩
/-- is there a comparison among the first k? -/
def anyC (Z : Nat → ZT) : Nat → Bool
  | 0 => false
  | k + 1 => anyC Z k || isCb (Z k).k
theorem anyC_of {Z : Nat → ZT} {n i : Nat} (hi : i < n) (h : isC (Z i).k) : anyC Z n = true := by
  induction n with
  | zero => omega
  | succ n ih =>
    unfold anyC
    by_cases e : i = n
    · subst e
      have : isCb (Z i).k = true := by unfold isCb; rcases h with h | h | h <;> simp [h]
      rw [this]; simp
    · rw [ih (by omega)]; rfl
theorem argT_ws {w : World} {a : Option Addr} {n c : Nat} {g : Nat → Nat → Value} (h : ArgT [.int .u8, .str, .int .u8, .int .i32] w a n c g) : ∀ i, i < n → 0 ≤ (zOf g i).ws ∧ (zOf g i).ws ≤ 255 := fun i hi => by
  obtain ⟨x, e, hx⟩ := h.row i hi
  obtain ⟨h2, v2, e2, hw⟩ := hx 2 _ rfl
  have e3 : (zOf g i).ws = v2 := by unfold zOf; rw [e2]; rfl
  have a1 : IntKind.u8.min = 0 := by decide
  have a2 : IntKind.u8.max = 255 := by decide
  rw [e3]
  simp [Lit.wf] at hw; omega
theorem clone9_c (A : Option Addr) (n c : Nat) (Z : Nat → ZT) (w : World) (hn : n ≤ 1048576) (h0 : A = none → n = 0 ∧ c = 0) (h : ZL w A n Z) : Calls Try.prog 9 #[.slice A n c] w (CloneP w A n Z) := by
  cases A with
  | none => obtain ⟨rfl, rfl⟩ := h0 rfl; exact clone9_nil Z w
  | some y => exact clone9_some y n c Z w hn h
theorem tok11_c (A : Option Addr) (n c : Nat) (Z : Nat → ZT) (w : World) (hn : n ≤ 1048576) (h0 : A = none → n = 0 ∧ c = 0) (h : ZL w A n Z) : Calls Try.prog 11 #[.slice A n c] w (FeatP w n (zF Z)) := by
  cases A with
  | none => obtain ⟨rfl, rfl⟩ := h0 rfl; exact tok11_nil Z w
  | some y => exact tok11_some y n c Z w hn h
theorem block_add (a : Addr) (n : Nat) : (a.add n).block = a.block := by unfold Addr.add; split <;> rfl
theorem zl_only {w w' : World} {S : Nat → Prop} {x : Addr} {n : Nat} {Z : Nat → ZT} (h : ZL w (some x) n Z) (ho : Only S w w') (hs : ¬ S x.block) : ZL w' (some x) n Z := fun i hi => by
  obtain ⟨y, e, h0, h1, h2, h3⟩ := h i hi
  cases e
  exact ⟨_, rfl, ho.keep h0 (by rw [block_add]; exact hs), ho.keep h1 (by rw [block_add]; exact hs), ho.keep h2 (by rw [block_add]; exact hs), ho.keep h3 (by rw [block_add]; exact hs)⟩
theorem val_b {w : World} {B : Option Addr} {nb : Nat} (h : Val w B nb) : nb = 0 ∨ (nb = 1 ∧ ∃ T o x y, B = some ⟨T, o, none⟩ ∧ w.cell? ⟨T, o + 6, none⟩ = some (.int .u8 x) ∧ w.cell? ⟨T, o + (nb - 1) * 7 + 6, none⟩ = some (.int .u8 y) ∧ and8 x 1 = 0 ∧ and8 y 2 = 0) ∨ (nb = 3 ∧ ∃ T o x y, B = some ⟨T, o, none⟩ ∧ w.cell? ⟨T, o + 6, none⟩ = some (.int .u8 x) ∧ w.cell? ⟨T, o + (nb - 1) * 7 + 6, none⟩ = some (.int .u8 y) ∧ and8 x 1 = 0 ∧ and8 y 2 = 0) := by
  rcases h with h | ⟨h | h, h'⟩
  · exact .inl h
  · exact .inr (.inl ⟨h, h'⟩)
  · exact .inr (.inr ⟨h, h'⟩)
set_option maxRecDepth 100000 in
set_option maxHeartbeats 4000000 in
theorem main (A0 : Option Addr) (n c0 : Nat) (Z : Nat → ZT) (w : World) (m0 : n ≤ maxLen) (nil0 : A0 = none → n = 0 ∧ c0 = 0) (r0 : ZL w A0 n Z) (s0 : ∀ i, i < n → (Z i).tx.size ≤ maxLen) (hws : ∀ i, i < n → 0 ≤ (Z i).ws ∧ (Z i).ws ≤ 255) :
    Calls Try.prog 6 #[.slice A0 n c0] w fun e w' => e = .returned (.bool true) ∧ Below w.heap.size w w' := by
  have C20 := Lib.hid (bytes20_c A0 n c0 Z w m0 r0)
  have C8 := Lib.hid (zsize8_c A0 n c0 Z w r0 m0 s0)
  have R0 := Lib.hid r0; have HN := Lib.hid nil0; have HW := Lib.hid hws
  clear r0 nil0 s0 hws
  unfold maxLen at m0
  go_enter Try.func6, Try.ntmps6
  go_upto_region 5 with (first | (go_at_call 20; (with_reducible refine C20.out.mono ?_); rintro e w' ⟨b, rfl, rfl⟩; cases b) | (go_at_call 8; (with_reducible refine C8.out.mono ?_); rintro e w' ⟨x, rfl, x0, x1, x2, rfl⟩; replace x2 := Lib.hid x2))
  any_goals (go_ret; exact ⟨rfl, Below.refl _ _⟩)
  have hn0 : n ≤ 16384 := x2.out (by omega)
  clear x2 C20 C8
  have C9 := Lib.hid (clone9_c A0 n c0 Z w (by omega) HN.out R0.out)
  go_upto_region 6 with (go_at_call 9; (with_reducible refine C9.out.mono ?_); rintro e w1 ⟨B0, rfl, hB0, hB0', zl, hb⟩; replace zl := Lib.hid zl; replace hb := Lib.hid hb; replace hB0 := Lib.hid hB0; replace hB0' := Lib.hid hB0')
  clear C9
  have C11 := Lib.hid (tok11_c B0 n n Z w1 (by omega) (fun h => by have := (HN.out (hB0.out.1 h)).1; exact ⟨this, this⟩) zl.out)
  have hz1 := hb.out.size
  have hbl : Hid (∀ p, B0 = some p → 0 < n → p.block < w1.heap.size) := Lib.hid (fun p hp hn => by subst hp; obtain ⟨x, e, c, -⟩ := zl.out 0 hn; cases e; have := block_lt_of_cell c; rw [block_add] at this; exact this)
  go_upto_region 7 with (first | (go_at_call 11; (with_reducible refine C11.out.mono ?_); rintro e w2 ⟨A, T, rfl, g1, g2, g3, g4, htk, hb2⟩; have C21 := Lib.hid (range21_c A T n (zF Z) w2 (by omega) g1 g2 htk HW.out); replace zl := Lib.hid (zl.out.after hb2); replace hb := Lib.hid (hb.out.trans (hb2.mono hb.out.size)); clear g1 g2 g4 htk hb2) | (go_at_call 21; (with_reducible refine C21.out.mono ?_); rintro e w3 ⟨rfl | ⟨q, B, nb, cb, Aa, na, ca, bc, ac, rfl, D0, D2, D4, D5, VB, VA, Sh⟩, hO⟩; replace hO := Lib.hid hO; rotate_left; replace hO := Lib.hid hO; rotate_left))
  · go_wp2
    go_ret
    exact ⟨rfl, hb.out.trans (hO.out.below _ hb.out.size (fun b e => by subst e; omega))⟩
  · have hB : Hid (Below w.heap.size w w3) := Lib.hid (hb.out.trans (hO.out.below _ hb.out.size (fun b e => by subst e; omega)))
    have hn3 := Sh.lo
    obtain ⟨p, hp, cp, -⟩ := zl.out 0 (by omega)
    subst hp
    have hTl := hbl.out p rfl (by omega)
    replace zl := Lib.hid (zl_only zl.out hO.out (show ¬ p.block = T by omega))
    have ANY : Hid (anyC Z n = true) := Lib.hid (by obtain ⟨i, hi, hc⟩ := Sh.cmp; exact anyC_of hi hc)
    clear cp hb hO hbl hB0 hB0' C11 C21 hTl
    rcases val_b VB with rfl | ⟨rfl, TB, oB, xB, yB, rfl, cxB, cyB, axB, ayB⟩ | ⟨rfl, TB, oB, xB, yB, rfl, cxB, cyB, axB, ayB⟩ <;> rcases val_b VA with rfl | ⟨rfl, TA, oA, xA, yA, rfl, cxA, cyA, axA, ayA⟩ | ⟨rfl, TA, oA, xA, yA, rfl, cxA, cyA, axA, ayA⟩ <;> clear VB VA
    · exact absurd ⟨Sh.bn.1 rfl, Sh.an.1 rfl⟩ Sh.some
    · obtain rfl : bc = 0 := Sh.bn.1 rfl
      have ha0 : ¬ ac = 0 := fun h => absurd (Sh.an.2 h) (by omega)
      have ha1 : (ac != 0) = true := by simp [ha0]
      have ha2 : (ac == 0) = false := by simp [ha0]
      have nxA : (and8 xA 1 != 0) = false := by rw [axA]; rfl
      have nyA : (and8 yA 2 != 0) = false := by rw [ayA]; rfl
      obtain ⟨b0, b5, a0, a5, -, -, -, -, lo, hi, -⟩ := Sh
      clear ha0 axA ayA
      simp only [Nat.reduceSub, Nat.reduceMul, Nat.zero_mul, Nat.add_zero] at cyA
      obtain rfl : yA = xA := by rw [cxA] at cyA; cases cyA; rfl
      clear cyA
      go_upto_region 13 with (fail)
      go_quiet (fail)
      go_upto_region 15 with (fail)
      go_quiet (fail)
      go_wp2_with (go_at_call 22; (with_reducible refine (dir22_c _ _).mono ?_); rintro e w' ⟨rfl, rfl⟩)
      go_loop [8, 9] (fun s i => ∃ k : Nat, k ≤ n ∧ i = .int .i64 k ∧ s = .bool (anyC Z k)) (fun _ i => n - (intOf i).toNat)
      case atStart => exact ⟨0, by omega, rfl, rfl⟩
      case round =>
        obtain ⟨k, hk, rfl, rfl⟩ := hrel
        by_cases hlt : k < n
        · obtain ⟨x, hx, d0, -⟩ := zl.out k hlt
          cases hx
          have i0 : (0 : Int) ≤ k := by omega
          have i1 : (k : Int) < n := by omega
          cases hc : isCb (Z k).k
          · have HE : Hid (anyC Z (k + 1) = anyC Z k) := Lib.hid (by show (anyC Z k || isCb (Z k).k) = _; rw [hc]; simp)
            go_wp2_with (go_at_call 23; (with_reducible refine (cmpk23_c _ _).mono ?_); rintro e w' ⟨rfl, rfl⟩)
            go_round
            case rel => exact ⟨k + 1, by omega, by go_num, by rw [HE.out]⟩
            case measure => simp [intOf]; omega
          · have HE : Hid (anyC Z (k + 1) = true) := Lib.hid (by show (anyC Z k || isCb (Z k).k) = _; rw [hc]; simp)
            go_wp2_with (go_at_call 23; (with_reducible refine (cmpk23_c _ _).mono ?_); rintro e w' ⟨rfl, rfl⟩)
            go_round
            case rel => exact ⟨k + 1, by omega, by go_num, by rw [HE.out]⟩
            case measure => simp [intOf]; omega
        · obtain rfl : k = n := by omega
          go_wp2
          go_ret
          exact ⟨(show Ending.returned (.bool (anyC Z k)) = .returned (.bool true) by rw [ANY.out]), by first | exact bdN hB.out _ | exact bdN (bdN hB.out _) _⟩
    · obtain rfl : bc = 0 := Sh.bn.1 rfl
      have ha0 : ¬ ac = 0 := fun h => absurd (Sh.an.2 h) (by omega)
      have ha1 : (ac != 0) = true := by simp [ha0]
      have ha2 : (ac == 0) = false := by simp [ha0]
      have nxA : (and8 xA 1 != 0) = false := by rw [axA]; rfl
      have nyA : (and8 yA 2 != 0) = false := by rw [ayA]; rfl
      obtain ⟨b0, b5, a0, a5, -, -, -, -, lo, hi, -⟩ := Sh
      clear ha0 axA ayA
      simp only [Nat.reduceSub, Nat.reduceMul, Nat.add_zero] at cyA
      go_upto_region 13 with (fail)
      go_quiet (fail)
      go_upto_region 15 with (fail)
      go_quiet (fail)
      go_wp2_with (go_at_call 22; (with_reducible refine (dir22_c _ _).mono ?_); rintro e w' ⟨rfl, rfl⟩)
      go_loop [8, 9] (fun s i => ∃ k : Nat, k ≤ n ∧ i = .int .i64 k ∧ s = .bool (anyC Z k)) (fun _ i => n - (intOf i).toNat)
      case atStart => exact ⟨0, by omega, rfl, rfl⟩
      case round =>
        obtain ⟨k, hk, rfl, rfl⟩ := hrel
        by_cases hlt : k < n
        · obtain ⟨x, hx, d0, -⟩ := zl.out k hlt
          cases hx
          have i0 : (0 : Int) ≤ k := by omega
          have i1 : (k : Int) < n := by omega
          cases hc : isCb (Z k).k
          · have HE : Hid (anyC Z (k + 1) = anyC Z k) := Lib.hid (by show (anyC Z k || isCb (Z k).k) = _; rw [hc]; simp)
            go_wp2_with (go_at_call 23; (with_reducible refine (cmpk23_c _ _).mono ?_); rintro e w' ⟨rfl, rfl⟩)
            go_round
            case rel => exact ⟨k + 1, by omega, by go_num, by rw [HE.out]⟩
            case measure => simp [intOf]; omega
          · have HE : Hid (anyC Z (k + 1) = true) := Lib.hid (by show (anyC Z k || isCb (Z k).k) = _; rw [hc]; simp)
            go_wp2_with (go_at_call 23; (with_reducible refine (cmpk23_c _ _).mono ?_); rintro e w' ⟨rfl, rfl⟩)
            go_round
            case rel => exact ⟨k + 1, by omega, by go_num, by rw [HE.out]⟩
            case measure => simp [intOf]; omega
        · obtain rfl : k = n := by omega
          go_wp2
          go_ret
          exact ⟨(show Ending.returned (.bool (anyC Z k)) = .returned (.bool true) by rw [ANY.out]), by first | exact bdN hB.out _ | exact bdN (bdN hB.out _) _⟩
    · have hb0 : ¬ bc = 0 := fun h => absurd (Sh.bn.2 h) (by omega)
      have hb1 : (bc != 0) = true := by simp [hb0]
      have hb2 : (bc == 0) = false := by simp [hb0]
      have nxB : (and8 xB 1 != 0) = false := by rw [axB]; rfl
      have nyB : (and8 yB 2 != 0) = false := by rw [ayB]; rfl
      obtain rfl : ac = 0 := Sh.an.1 rfl
      obtain ⟨b0, b5, a0, a5, -, -, -, -, lo, hi, -⟩ := Sh
      clear hb0 axB ayB
      simp only [Nat.reduceSub, Nat.reduceMul, Nat.zero_mul, Nat.add_zero] at cyB
      obtain rfl : yB = xB := by rw [cxB] at cyB; cases cyB; rfl
      clear cyB
      go_upto_region 13 with (fail)
      go_quiet (fail)
      go_upto_region 15 with (fail)
      go_quiet (fail)
      go_wp2_with (go_at_call 22; (with_reducible refine (dir22_c _ _).mono ?_); rintro e w' ⟨rfl, rfl⟩)
      go_loop [8, 9] (fun s i => ∃ k : Nat, k ≤ n ∧ i = .int .i64 k ∧ s = .bool (anyC Z k)) (fun _ i => n - (intOf i).toNat)
      case atStart => exact ⟨0, by omega, rfl, rfl⟩
      case round =>
        obtain ⟨k, hk, rfl, rfl⟩ := hrel
        by_cases hlt : k < n
        · obtain ⟨x, hx, d0, -⟩ := zl.out k hlt
          cases hx
          have i0 : (0 : Int) ≤ k := by omega
          have i1 : (k : Int) < n := by omega
          cases hc : isCb (Z k).k
          · have HE : Hid (anyC Z (k + 1) = anyC Z k) := Lib.hid (by show (anyC Z k || isCb (Z k).k) = _; rw [hc]; simp)
            go_wp2_with (go_at_call 23; (with_reducible refine (cmpk23_c _ _).mono ?_); rintro e w' ⟨rfl, rfl⟩)
            go_round
            case rel => exact ⟨k + 1, by omega, by go_num, by rw [HE.out]⟩
            case measure => simp [intOf]; omega
          · have HE : Hid (anyC Z (k + 1) = true) := Lib.hid (by show (anyC Z k || isCb (Z k).k) = _; rw [hc]; simp)
            go_wp2_with (go_at_call 23; (with_reducible refine (cmpk23_c _ _).mono ?_); rintro e w' ⟨rfl, rfl⟩)
            go_round
            case rel => exact ⟨k + 1, by omega, by go_num, by rw [HE.out]⟩
            case measure => simp [intOf]; omega
        · obtain rfl : k = n := by omega
          go_wp2
          go_ret
          exact ⟨(show Ending.returned (.bool (anyC Z k)) = .returned (.bool true) by rw [ANY.out]), by first | exact bdN hB.out _ | exact bdN (bdN hB.out _) _⟩
    · have hb0 : ¬ bc = 0 := fun h => absurd (Sh.bn.2 h) (by omega)
      have hb1 : (bc != 0) = true := by simp [hb0]
      have hb2 : (bc == 0) = false := by simp [hb0]
      have nxB : (and8 xB 1 != 0) = false := by rw [axB]; rfl
      have nyB : (and8 yB 2 != 0) = false := by rw [ayB]; rfl
      have ha0 : ¬ ac = 0 := fun h => absurd (Sh.an.2 h) (by omega)
      have ha1 : (ac != 0) = true := by simp [ha0]
      have ha2 : (ac == 0) = false := by simp [ha0]
      have nxA : (and8 xA 1 != 0) = false := by rw [axA]; rfl
      have nyA : (and8 yA 2 != 0) = false := by rw [ayA]; rfl
      obtain ⟨dd1, dd2⟩ := Sh.dir hb0 ha0
      have dd3 : (dirF bc == 0) = false := by simp [dd1]
      have dd4 : (dirF bc != dirF ac) = false := by simp [dd2]
      clear dd1 dd2
      obtain ⟨b0, b5, a0, a5, -, -, -, -, lo, hi, -⟩ := Sh
      clear hb0 axB ayB
      clear ha0 axA ayA
      simp only [Nat.reduceSub, Nat.reduceMul, Nat.zero_mul, Nat.add_zero] at cyB
      obtain rfl : yB = xB := by rw [cxB] at cyB; cases cyB; rfl
      clear cyB
      simp only [Nat.reduceSub, Nat.reduceMul, Nat.zero_mul, Nat.add_zero] at cyA
      obtain rfl : yA = xA := by rw [cxA] at cyA; cases cyA; rfl
      clear cyA
      go_upto_region 13 with (fail)
      go_quiet (fail)
      go_upto_region 15 with (fail)
      go_quiet (fail)
      go_wp2_with (go_at_call 22; (with_reducible refine (dir22_c _ _).mono ?_); rintro e w' ⟨rfl, rfl⟩)
      go_loop [8, 9] (fun s i => ∃ k : Nat, k ≤ n ∧ i = .int .i64 k ∧ s = .bool (anyC Z k)) (fun _ i => n - (intOf i).toNat)
      case atStart => exact ⟨0, by omega, rfl, rfl⟩
      case round =>
        obtain ⟨k, hk, rfl, rfl⟩ := hrel
        by_cases hlt : k < n
        · obtain ⟨x, hx, d0, -⟩ := zl.out k hlt
          cases hx
          have i0 : (0 : Int) ≤ k := by omega
          have i1 : (k : Int) < n := by omega
          cases hc : isCb (Z k).k
          · have HE : Hid (anyC Z (k + 1) = anyC Z k) := Lib.hid (by show (anyC Z k || isCb (Z k).k) = _; rw [hc]; simp)
            go_wp2_with (go_at_call 23; (with_reducible refine (cmpk23_c _ _).mono ?_); rintro e w' ⟨rfl, rfl⟩)
            go_round
            case rel => exact ⟨k + 1, by omega, by go_num, by rw [HE.out]⟩
            case measure => simp [intOf]; omega
          · have HE : Hid (anyC Z (k + 1) = true) := Lib.hid (by show (anyC Z k || isCb (Z k).k) = _; rw [hc]; simp)
            go_wp2_with (go_at_call 23; (with_reducible refine (cmpk23_c _ _).mono ?_); rintro e w' ⟨rfl, rfl⟩)
            go_round
            case rel => exact ⟨k + 1, by omega, by go_num, by rw [HE.out]⟩
            case measure => simp [intOf]; omega
        · obtain rfl : k = n := by omega
          go_wp2
          go_ret
          exact ⟨(show Ending.returned (.bool (anyC Z k)) = .returned (.bool true) by rw [ANY.out]), by first | exact bdN hB.out _ | exact bdN (bdN hB.out _) _⟩
    · have hb0 : ¬ bc = 0 := fun h => absurd (Sh.bn.2 h) (by omega)
      have hb1 : (bc != 0) = true := by simp [hb0]
      have hb2 : (bc == 0) = false := by simp [hb0]
      have nxB : (and8 xB 1 != 0) = false := by rw [axB]; rfl
      have nyB : (and8 yB 2 != 0) = false := by rw [ayB]; rfl
      have ha0 : ¬ ac = 0 := fun h => absurd (Sh.an.2 h) (by omega)
      have ha1 : (ac != 0) = true := by simp [ha0]
      have ha2 : (ac == 0) = false := by simp [ha0]
      have nxA : (and8 xA 1 != 0) = false := by rw [axA]; rfl
      have nyA : (and8 yA 2 != 0) = false := by rw [ayA]; rfl
      obtain ⟨dd1, dd2⟩ := Sh.dir hb0 ha0
      have dd3 : (dirF bc == 0) = false := by simp [dd1]
      have dd4 : (dirF bc != dirF ac) = false := by simp [dd2]
      clear dd1 dd2
      obtain ⟨b0, b5, a0, a5, -, -, -, -, lo, hi, -⟩ := Sh
      clear hb0 axB ayB
      clear ha0 axA ayA
      simp only [Nat.reduceSub, Nat.reduceMul, Nat.zero_mul, Nat.add_zero] at cyB
      obtain rfl : yB = xB := by rw [cxB] at cyB; cases cyB; rfl
      clear cyB
      simp only [Nat.reduceSub, Nat.reduceMul, Nat.add_zero] at cyA
      go_upto_region 13 with (fail)
      go_quiet (fail)
      go_upto_region 15 with (fail)
      go_quiet (fail)
      go_wp2_with (go_at_call 22; (with_reducible refine (dir22_c _ _).mono ?_); rintro e w' ⟨rfl, rfl⟩)
      go_loop [8, 9] (fun s i => ∃ k : Nat, k ≤ n ∧ i = .int .i64 k ∧ s = .bool (anyC Z k)) (fun _ i => n - (intOf i).toNat)
      case atStart => exact ⟨0, by omega, rfl, rfl⟩
      case round =>
        obtain ⟨k, hk, rfl, rfl⟩ := hrel
        by_cases hlt : k < n
        · obtain ⟨x, hx, d0, -⟩ := zl.out k hlt
          cases hx
          have i0 : (0 : Int) ≤ k := by omega
          have i1 : (k : Int) < n := by omega
          cases hc : isCb (Z k).k
          · have HE : Hid (anyC Z (k + 1) = anyC Z k) := Lib.hid (by show (anyC Z k || isCb (Z k).k) = _; rw [hc]; simp)
            go_wp2_with (go_at_call 23; (with_reducible refine (cmpk23_c _ _).mono ?_); rintro e w' ⟨rfl, rfl⟩)
            go_round
            case rel => exact ⟨k + 1, by omega, by go_num, by rw [HE.out]⟩
            case measure => simp [intOf]; omega
          · have HE : Hid (anyC Z (k + 1) = true) := Lib.hid (by show (anyC Z k || isCb (Z k).k) = _; rw [hc]; simp)
            go_wp2_with (go_at_call 23; (with_reducible refine (cmpk23_c _ _).mono ?_); rintro e w' ⟨rfl, rfl⟩)
            go_round
            case rel => exact ⟨k + 1, by omega, by go_num, by rw [HE.out]⟩
            case measure => simp [intOf]; omega
        · obtain rfl : k = n := by omega
          go_wp2
          go_ret
          exact ⟨(show Ending.returned (.bool (anyC Z k)) = .returned (.bool true) by rw [ANY.out]), by first | exact bdN hB.out _ | exact bdN (bdN hB.out _) _⟩
    · have hb0 : ¬ bc = 0 := fun h => absurd (Sh.bn.2 h) (by omega)
      have hb1 : (bc != 0) = true := by simp [hb0]
      have hb2 : (bc == 0) = false := by simp [hb0]
      have nxB : (and8 xB 1 != 0) = false := by rw [axB]; rfl
      have nyB : (and8 yB 2 != 0) = false := by rw [ayB]; rfl
      obtain rfl : ac = 0 := Sh.an.1 rfl
      obtain ⟨b0, b5, a0, a5, -, -, -, -, lo, hi, -⟩ := Sh
      clear hb0 axB ayB
      simp only [Nat.reduceSub, Nat.reduceMul, Nat.add_zero] at cyB
      go_upto_region 13 with (fail)
      go_quiet (fail)
      go_upto_region 15 with (fail)
      go_quiet (fail)
      go_wp2_with (go_at_call 22; (with_reducible refine (dir22_c _ _).mono ?_); rintro e w' ⟨rfl, rfl⟩)
      go_loop [8, 9] (fun s i => ∃ k : Nat, k ≤ n ∧ i = .int .i64 k ∧ s = .bool (anyC Z k)) (fun _ i => n - (intOf i).toNat)
      case atStart => exact ⟨0, by omega, rfl, rfl⟩
      case round =>
        obtain ⟨k, hk, rfl, rfl⟩ := hrel
        by_cases hlt : k < n
        · obtain ⟨x, hx, d0, -⟩ := zl.out k hlt
          cases hx
          have i0 : (0 : Int) ≤ k := by omega
          have i1 : (k : Int) < n := by omega
          cases hc : isCb (Z k).k
          · have HE : Hid (anyC Z (k + 1) = anyC Z k) := Lib.hid (by show (anyC Z k || isCb (Z k).k) = _; rw [hc]; simp)
            go_wp2_with (go_at_call 23; (with_reducible refine (cmpk23_c _ _).mono ?_); rintro e w' ⟨rfl, rfl⟩)
            go_round
            case rel => exact ⟨k + 1, by omega, by go_num, by rw [HE.out]⟩
            case measure => simp [intOf]; omega
          · have HE : Hid (anyC Z (k + 1) = true) := Lib.hid (by show (anyC Z k || isCb (Z k).k) = _; rw [hc]; simp)
            go_wp2_with (go_at_call 23; (with_reducible refine (cmpk23_c _ _).mono ?_); rintro e w' ⟨rfl, rfl⟩)
            go_round
            case rel => exact ⟨k + 1, by omega, by go_num, by rw [HE.out]⟩
            case measure => simp [intOf]; omega
        · obtain rfl : k = n := by omega
          go_wp2
          go_ret
          exact ⟨(show Ending.returned (.bool (anyC Z k)) = .returned (.bool true) by rw [ANY.out]), by first | exact bdN hB.out _ | exact bdN (bdN hB.out _) _⟩
    · have hb0 : ¬ bc = 0 := fun h => absurd (Sh.bn.2 h) (by omega)
      have hb1 : (bc != 0) = true := by simp [hb0]
      have hb2 : (bc == 0) = false := by simp [hb0]
      have nxB : (and8 xB 1 != 0) = false := by rw [axB]; rfl
      have nyB : (and8 yB 2 != 0) = false := by rw [ayB]; rfl
      have ha0 : ¬ ac = 0 := fun h => absurd (Sh.an.2 h) (by omega)
      have ha1 : (ac != 0) = true := by simp [ha0]
      have ha2 : (ac == 0) = false := by simp [ha0]
      have nxA : (and8 xA 1 != 0) = false := by rw [axA]; rfl
      have nyA : (and8 yA 2 != 0) = false := by rw [ayA]; rfl
      obtain ⟨dd1, dd2⟩ := Sh.dir hb0 ha0
      have dd3 : (dirF bc == 0) = false := by simp [dd1]
      have dd4 : (dirF bc != dirF ac) = false := by simp [dd2]
      clear dd1 dd2
      obtain ⟨b0, b5, a0, a5, -, -, -, -, lo, hi, -⟩ := Sh
      clear hb0 axB ayB
      clear ha0 axA ayA
      simp only [Nat.reduceSub, Nat.reduceMul, Nat.add_zero] at cyB
      simp only [Nat.reduceSub, Nat.reduceMul, Nat.zero_mul, Nat.add_zero] at cyA
      obtain rfl : yA = xA := by rw [cxA] at cyA; cases cyA; rfl
      clear cyA
      go_upto_region 13 with (fail)
      go_quiet (fail)
      go_upto_region 15 with (fail)
      go_quiet (fail)
      go_wp2_with (go_at_call 22; (with_reducible refine (dir22_c _ _).mono ?_); rintro e w' ⟨rfl, rfl⟩)
      go_loop [8, 9] (fun s i => ∃ k : Nat, k ≤ n ∧ i = .int .i64 k ∧ s = .bool (anyC Z k)) (fun _ i => n - (intOf i).toNat)
      case atStart => exact ⟨0, by omega, rfl, rfl⟩
      case round =>
        obtain ⟨k, hk, rfl, rfl⟩ := hrel
        by_cases hlt : k < n
        · obtain ⟨x, hx, d0, -⟩ := zl.out k hlt
          cases hx
          have i0 : (0 : Int) ≤ k := by omega
          have i1 : (k : Int) < n := by omega
          cases hc : isCb (Z k).k
          · have HE : Hid (anyC Z (k + 1) = anyC Z k) := Lib.hid (by show (anyC Z k || isCb (Z k).k) = _; rw [hc]; simp)
            go_wp2_with (go_at_call 23; (with_reducible refine (cmpk23_c _ _).mono ?_); rintro e w' ⟨rfl, rfl⟩)
            go_round
            case rel => exact ⟨k + 1, by omega, by go_num, by rw [HE.out]⟩
            case measure => simp [intOf]; omega
          · have HE : Hid (anyC Z (k + 1) = true) := Lib.hid (by show (anyC Z k || isCb (Z k).k) = _; rw [hc]; simp)
            go_wp2_with (go_at_call 23; (with_reducible refine (cmpk23_c _ _).mono ?_); rintro e w' ⟨rfl, rfl⟩)
            go_round
            case rel => exact ⟨k + 1, by omega, by go_num, by rw [HE.out]⟩
            case measure => simp [intOf]; omega
        · obtain rfl : k = n := by omega
          go_wp2
          go_ret
          exact ⟨(show Ending.returned (.bool (anyC Z k)) = .returned (.bool true) by rw [ANY.out]), by first | exact bdN hB.out _ | exact bdN (bdN hB.out _) _⟩
    · have hb0 : ¬ bc = 0 := fun h => absurd (Sh.bn.2 h) (by omega)
      have hb1 : (bc != 0) = true := by simp [hb0]
      have hb2 : (bc == 0) = false := by simp [hb0]
      have nxB : (and8 xB 1 != 0) = false := by rw [axB]; rfl
      have nyB : (and8 yB 2 != 0) = false := by rw [ayB]; rfl
      have ha0 : ¬ ac = 0 := fun h => absurd (Sh.an.2 h) (by omega)
      have ha1 : (ac != 0) = true := by simp [ha0]
      have ha2 : (ac == 0) = false := by simp [ha0]
      have nxA : (and8 xA 1 != 0) = false := by rw [axA]; rfl
      have nyA : (and8 yA 2 != 0) = false := by rw [ayA]; rfl
      obtain ⟨dd1, dd2⟩ := Sh.dir hb0 ha0
      have dd3 : (dirF bc == 0) = false := by simp [dd1]
      have dd4 : (dirF bc != dirF ac) = false := by simp [dd2]
      clear dd1 dd2
      obtain ⟨b0, b5, a0, a5, -, -, -, -, lo, hi, -⟩ := Sh
      clear hb0 axB ayB
      clear ha0 axA ayA
      simp only [Nat.reduceSub, Nat.reduceMul, Nat.add_zero] at cyB
      simp only [Nat.reduceSub, Nat.reduceMul, Nat.add_zero] at cyA
      go_upto_region 13 with (fail)
      go_quiet (fail)
      go_upto_region 15 with (fail)
      go_quiet (fail)
      go_wp2_with (go_at_call 22; (with_reducible refine (dir22_c _ _).mono ?_); rintro e w' ⟨rfl, rfl⟩)
      go_loop [8, 9] (fun s i => ∃ k : Nat, k ≤ n ∧ i = .int .i64 k ∧ s = .bool (anyC Z k)) (fun _ i => n - (intOf i).toNat)
      case atStart => exact ⟨0, by omega, rfl, rfl⟩
      case round =>
        obtain ⟨k, hk, rfl, rfl⟩ := hrel
        by_cases hlt : k < n
        · obtain ⟨x, hx, d0, -⟩ := zl.out k hlt
          cases hx
          have i0 : (0 : Int) ≤ k := by omega
          have i1 : (k : Int) < n := by omega
          cases hc : isCb (Z k).k
          · have HE : Hid (anyC Z (k + 1) = anyC Z k) := Lib.hid (by show (anyC Z k || isCb (Z k).k) = _; rw [hc]; simp)
            go_wp2_with (go_at_call 23; (with_reducible refine (cmpk23_c _ _).mono ?_); rintro e w' ⟨rfl, rfl⟩)
            go_round
            case rel => exact ⟨k + 1, by omega, by go_num, by rw [HE.out]⟩
            case measure => simp [intOf]; omega
          · have HE : Hid (anyC Z (k + 1) = true) := Lib.hid (by show (anyC Z k || isCb (Z k).k) = _; rw [hc]; simp)
            go_wp2_with (go_at_call 23; (with_reducible refine (cmpk23_c _ _).mono ?_); rintro e w' ⟨rfl, rfl⟩)
            go_round
            case rel => exact ⟨k + 1, by omega, by go_num, by rw [HE.out]⟩
            case measure => simp [intOf]; omega
        · obtain rfl : k = n := by omega
          go_wp2
          go_ret
          exact ⟨(show Ending.returned (.bool (anyC Z k)) = .returned (.bool true) by rw [ANY.out]), by first | exact bdN hB.out _ | exact bdN (bdN hB.out _) _⟩
theorem walk (a0 : Option Addr) (n0 : Nat) (c0 : Nat) (g0 : Nat → Nat → Value) (w : World) (w0 : ArgT [.int .u8, .str, .int .u8, .int .i32] w a0 n0 c0 g0) :
    Calls Try.prog 6 #[.slice a0 n0 c0] w fun e w' => e = .returned (.bool true) ∧ Below w.heap.size w w' := by
  obtain ⟨r0, s0⟩ := argT_zl w0
  exact main a0 n0 c0 _ w (Nat.le_trans w0.le w0.max) w0.nil r0 s0 (argT_ws w0)
theorem own : ownKnob Try.prog.godebug = none := by kernel_rfl
theorem laidOut : laidOutB Try.prog = true := by kernel_rfl
set_option maxRecDepth 100000 in
theorem lifted (os : Os) (started : os.Started) (H : Type) (enc : TypeId × Value → H) :
    ReturnsInHanded {} Try.checked os 6 .any (Rows.fnParseRangeMediaFeatureShapeSpec.pre6 enc Try.prog Try.f6 Rows.fnParseRangeMediaFeatureShapeRow.domain false) (Rows.fnParseRangeMediaFeatureShapeSpec.post enc Try.prog Try.f6 false true false false) := by
  refine returnsInHanded_of_change (C := Try.checked) own started (by kernel_rfl) Try.func6
    (ChangeSpec.witness6 (enc := enc) (C := Try.checked) false ⟨#[], #[.slice none 0 0], []⟩ 8 (by kernel_rfl) (by kernel_rfl) (by kernel_rfl) (by kernel_rfl)) ?_
  intro W base args ds gs before hval0 hW hcnd _
  have hval : ∀ (j : Nat) t v, Try.f6.params[j]? = some t → args[j]? = some v → Value.okWide Try.prog W .any base t v := hval0
  have hW' := hW
  obtain ⟨p, q, hA0, hV, rfl, hfz, hnd⟩ := hW
  have hA : DataW.TrodAll enc Try.prog W 0 (fun _ => true) true Try.f6.params.toList args.toList ds p := hA0
  rw [Try.params6] at hA hval
  obtain ⟨v0, vs0, d0, ds0, p0, q0, hargs, rfl, rfl, h0, r0⟩ := trodAll_cons hA
  obtain ⟨rfl, rfl, rfl⟩ := trodAll_nil r0
  obtain rfl : args = #[v0] := by cases args; simp_all
  obtain ⟨rfl, rfl⟩ := trodVars_none hV
  have k0 := h0
  have lt0 : ∀ x ∈ p0, x.block < W.heap.size := by obtain ⟨m, hm⟩ := k0; exact DataW.trod_lt m _ _ _ hm
  obtain ⟨a0, n0, c0, g0, rfl, w0⟩ := arg_structs [.int .u8, .str, .int .u8, .int .i32] Try.underlying22 Try.underlying64 (by kernel_rfl) (by kernel_rfl) rfl (by
    intro j f k hf hk
    match j with
    | 0 => cases hf; cases hk; exact Try.underlying5
    | 1 => cases hf; cases hk; exact Try.underlying9
    | 2 => cases hf; cases hk; exact Try.underlying5
    | 3 => cases hf; cases hk; exact Try.underlying21
    | j + 4 => simp at hk) (hval 0 22 v0 rfl rfl) h0
  clear hA0 hval0
  refine (walk a0 n0 c0 g0 W w0).mono fun e W' ⟨he, bel⟩ => ?_
  subst he
  exact ⟨_, rfl, _, _, _, [], _, [], hW', trodAll_mk1 (shut_bool Try.underlying4 _), (trodAll_cons_mk (Below.trod laidOut (by kernel_rfl) (of_decide_eq_true (by kernel_rfl)) k0 bel lt0) trodAll_mk0), rfl, bel.frame _, fun h => by cases h⟩

theorem over : Rows.fnParseRangeMediaFeatureShapeRow.holds Try.pinned (OpenSpec.ofChange Rows.fnParseRangeMediaFeatureShapeSpec) :=
  OpenClaim.holds_of_wide 6 Try.f6 rfl rfl rfl rfl rfl rfl rfl ⟨rfl, rfl, rfl, rfl, rfl⟩ rfl rfl rfl rfl rfl (by kernel_rfl) Try.func6 (by kernel_rfl)
    (of_decide_eq_true (by kernel_rfl)) (by unfold Func.isWrapper; first | (rw [if_pos (by decide +kernel)]; kernel_rfl) | (rw [if_neg (by decide +kernel)]; exact ⟨rfl, rfl⟩))
    (fun os started H enc _ => lifted os started H enc)

theorem proved : Rows.FnParseRangeMediaFeatureShapeSaid :=
  over
#print axioms proved
end Go.Proofs.Ytpnfllnnbinbjaa.fnParseRangeMediaFeatureShape
