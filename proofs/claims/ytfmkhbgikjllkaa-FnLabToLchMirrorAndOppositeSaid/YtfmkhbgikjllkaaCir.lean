/- The law's own functions: zzIn, zzAbs, zzCirc; hues. -/
import Derived.Test.YtfmkhbgikjllkaaLch
import Derived.LoopTactic
import Derived.Deep.DeepCutAuto
set_option linter.unusedSimpArgs false
set_option linter.unusedVariables false
namespace Go.Proofs.Ytfmkhbgikjllkaa
open Go.RowKit
open Flt Ieee
theorem k180 : fin 4640537203540230144 ∧ val 4640537203540230144 = 180 := const_val (by decide +kernel) (by decide +kernel)
theorem km180 : fin 13863909240395005952 ∧ val 13863909240395005952 = -180 := const_val (by decide +kernel) (by decide +kernel)
theorem k360 : fin 4645040803167600640 ∧ val 4645040803167600640 = 360 := const_val (by decide +kernel) (by decide +kernel)
theorem k1e9 : fin 4472406533629990549 ∧ val 4472406533629990549 = 4835703278458517 / 4835703278458516698824704 := const_val (by decide +kernel) (by decide +kernel)
theorem k1e7 : fin 4711630319722168320 ∧ val 4711630319722168320 = 10000000 := const_val (by decide +kernel) (by decide +kernel)
theorem km1e7 : fin 13935002356576944128 ∧ val 13935002356576944128 = -10000000 := const_val (by decide +kernel) (by decide +kernel)
theorem kK : fin 4633260481411531256 ∧ val 4633260481411531256 = 1007958012753983 / 17592186044416 := const_val (by decide +kernel) (by decide +kernel)
theorem k1e6 : fin 4696837146684686336 ∧ val 4696837146684686336 = 1000000 := const_val (by decide +kernel) (by decide +kernel)
theorem km1e6 : fin 13920209183539462144 ∧ val 13920209183539462144 = -1000000 := const_val (by decide +kernel) (by decide +kernel)
set_option maxRecDepth 100000 in
set_option maxHeartbeats 2000000 in
theorem in4_c (v lo hi : Nat) (w : World) : Calls Try.prog 4 #[.float .f64 v, .float .f64 lo, .float .f64 hi] w fun e w' => e = .returned (.bool (geB v lo && leB v hi)) ∧ w = w' := by
  cases h1 : geB v lo
  · have e1 : (FloatKind.f64.format.order v lo == some .gt || FloatKind.f64.format.order v lo == some .eq) = false := h1
    clear h1
    go_enter Try.func4, Try.ntmps4
    go_wp2
    go_ret
    exact ⟨rfl, rfl⟩
  · have e1 : (FloatKind.f64.format.order v lo == some .gt || FloatKind.f64.format.order v lo == some .eq) = true := h1
    cases h2 : leB v hi
    · have e2 : (FloatKind.f64.format.order v hi == some .lt || FloatKind.f64.format.order v hi == some .eq) = false := h2
      clear h1 h2
      go_enter Try.func4, Try.ntmps4
      go_wp2
      go_ret
      exact ⟨rfl, rfl⟩
    · have e2 : (FloatKind.f64.format.order v hi == some .lt || FloatKind.f64.format.order v hi == some .eq) = true := h2
      clear h1 h2
      go_enter Try.func4, Try.ntmps4
      go_wp2
      go_ret
      exact ⟨rfl, rfl⟩
set_option maxRecDepth 100000 in
set_option maxHeartbeats 2000000 in
theorem abs10_c (v : Nat) (w : World) : Calls Try.prog 10 #[.float .f64 v] w fun e w' => e = .returned (.float .f64 (absB v)) ∧ w = w' := by
  have kn := neg_fl
  cases h : ltB v 0
  · have e1 : (FloatKind.f64.format.order v 0 == some .lt) = false := h
    have E : Hid (absB v = v) := Lib.hid (by unfold absB; rw [h]; rfl)
    clear h
    go_enter Try.func10, Try.ntmps10
    go_wp2
    go_ret
    exact ⟨by rw [E.out]; rfl, rfl⟩
  · have e1 : (FloatKind.f64.format.order v 0 == some .lt) = true := h
    have E : Hid (absB v = negB v) := Lib.hid (by unfold absB; rw [h]; rfl)
    clear h
    go_enter Try.func10, Try.ntmps10
    go_wp2
    go_ret
    exact ⟨by rw [E.out]; rfl, rfl⟩
/-- a number near a multiple of 360 -/
structure Mul (x : Nat) (E : Rat) : Prop where
  lt : x < 2 ^ 64
  fin : fin x
  abs : Abs (val x) 5000
  near : ∃ m : Int, Near (val x) (360 * (m : Rat)) E
def E1 (x : Nat) : Rat := 2 / 10 ^ 10 - val x * (2 / 10 ^ 14)
def E2 (x : Nat) : Rat := 5 / 10 ^ 10 + val x * (2 / 10 ^ 14)
theorem er5360 : er 5360 ≤ 6 / 10 ^ 12 := by unfold er; decide +kernel
theorem a360 : Abs (val 4645040803167600640) 360 := by rw [k360.2]; unfold Abs; constructor <;> grind
theorem down1 {x : Nat} (h : Mul x (E1 x)) (hg : 180 < val x) : ∃ y, floatBits .sub .f64 x 4645040803167600640 = some y ∧ Mul y (E1 y) ∧ val y ≤ val x - 1 := by
  obtain ⟨-, f, a, m, hn⟩ := h
  obtain ⟨y, H⟩ := sub_b f k360.1 a a360 (by grind)
  have n1 := near_mono H.near (show er (5000 + 360) ≤ 6 / 10 ^ 12 by have := er5360; rw [show (5000 : Rat) + 360 = 5360 by grind]; exact this)
  rw [k360.2] at n1
  refine ⟨y, H.bits, ⟨bits_lt H.bits, H.fin, ?_, m - 1, ?_⟩, ?_⟩
  · unfold Near at n1; unfold Abs at *; constructor <;> grind
  · rw [show ((m - 1 : Int) : Rat) = (m : Rat) - 1 by push_cast; rfl]
    unfold E1 Near at *; constructor <;> grind
  · unfold Near at n1; grind
theorem up1 {x : Nat} (h : Mul x (E2 x)) (hg : val x < -180) : ∃ y, floatBits .add .f64 x 4645040803167600640 = some y ∧ Mul y (E2 y) ∧ val x + 1 ≤ val y ∧ val y ≤ 181 := by
  obtain ⟨-, f, a, m, hn⟩ := h
  obtain ⟨y, H⟩ := add_b f k360.1 a a360 (by grind)
  have n1 := near_mono H.near (show er (5000 + 360) ≤ 6 / 10 ^ 12 by have := er5360; rw [show (5000 : Rat) + 360 = 5360 by grind]; exact this)
  rw [k360.2] at n1
  refine ⟨y, H.bits, ⟨bits_lt H.bits, H.fin, ?_, m + 1, ?_⟩, ?_, ?_⟩
  · unfold Near at n1; unfold Abs at *; constructor <;> grind
  · rw [show ((m + 1 : Int) : Rat) = (m : Rat) + 1 by push_cast; rfl]
    unfold E2 Near at *; constructor <;> grind
  · unfold Near at n1; grind
  · unfold Near at n1; grind
theorem swap {x : Nat} (h : Mul x (E1 x)) : Mul x (E2 x) := by
  obtain ⟨l, f, a, m, hn⟩ := h
  exact ⟨l, f, a, m, near_mono hn (by unfold E1 E2; unfold Abs at a; grind)⟩
theorem last {x : Nat} (h : Mul x (E2 x)) (h1 : -180 ≤ val x) (h2 : val x ≤ 181) : leB (absB x) 4472406533629990549 = true := by
  obtain ⟨l, f, a, m, hn⟩ := h
  obtain ⟨fa, -, -, hv⟩ := absB_val l f
  have hm : m = 0 := by
    unfold E2 Near at hn
    by_cases c : 1 ≤ m
    · have : (1 : Rat) ≤ (m : Rat) := by exact_mod_cast c
      grind
    · by_cases c2 : m ≤ -1
      · have h1 : (1 : Rat) ≤ ((-m : Int) : Rat) := by exact_mod_cast (show 1 ≤ -m by omega)
        rw [Rat.intCast_neg] at h1
        grind
      · omega
  subst hm
  refine (leB_iff fa k1e9.1).2 ?_
  rw [k1e9.2]
  unfold E2 Near at hn
  simp at hn
  rcases hv with hv | hv <;> rw [hv] <;> grind
def ms1 (v : Value) : Nat := match v with | .float _ x => (val x).floor.toNat | _ => 0
def ms2 (v : Value) : Nat := match v with | .float _ x => (-(val x)).floor.toNat | _ => 0
theorem ms_lt {a b : Rat} (h : b ≤ a - 1) (ha : 1 ≤ a) : b.floor.toNat < a.floor.toNat := by
  have h1 := Rat.floor_monotone h
  rw [Rat.floor_sub_one] at h1
  have h2 : (1 : Int) ≤ a.floor := Rat.le_floor_iff.2 (by exact_mod_cast ha)
  omega
def LeP (w : World) (e : Ending) (w' : World) : Prop := ∃ r, e = .returned (.float .f64 r) ∧ leB r 4472406533629990549 = true ∧ w = w'
set_option maxRecDepth 100000 in
set_option maxHeartbeats 2000000 in
theorem circ6_c (d : Nat) (w : World) (h : Mul d (E1 d)) : Calls Try.prog 6 #[.float .f64 d] w (LeP w) := by
  have hin : (geB d 13935002356576944128 && leB d 4711630319722168320) = true := by
    obtain ⟨l, f, a, -⟩ := h
    unfold Abs at a
    rw [Bool.and_eq_true]
    exact ⟨(geB_iff f km1e7.1).2 (by rw [km1e7.2]; grind), (leB_iff f k1e7.1).2 (by rw [k1e7.2]; grind)⟩
  have C4 := Lib.hid (in4_c d 13935002356576944128 4711630319722168320 w)
  rw [hin] at C4
  have H := Lib.hid h
  clear h hin
  go_enter Try.func6, Try.ntmps6
  go_wp2_with (go_at_call 4; (with_reducible refine C4.out.mono ?_); rintro e w' ⟨rfl, rfl⟩)
  go_loop [0] (fun v => ∃ x, v = .float .f64 x ∧ Mul x (E1 x)) (fun v => ms1 v)
  case atStart => exact ⟨d, rfl, H.out⟩
  case round =>
    obtain ⟨x, rfl, hM⟩ := hrel
    clear H C4
    by_cases hg : 180 < val x
    · obtain ⟨y, hb, hM', hv⟩ := down1 hM hg
      have e1 : (FloatKind.f64.format.order x 4640537203540230144 == some .gt) = true := (gtB_iff hM.fin k180.1).2 (by rw [k180.2]; exact hg)
      have kb := fun w => run_float_arith (P := Try.prog) w .sub 22 .f64 x 4645040803167600640 y hb
      have HM := Lib.hid hM'
      have hms : Hid (ms1 (.float .f64 y) < ms1 (.float .f64 x)) := Lib.hid (ms_lt hv (by grind))
      clear hb hM hM' hv hg
      go_wp2
      go_round
      case rel => exact ⟨y, rfl, HM.out⟩
      case measure => exact hms.out
    · have e1 : (FloatKind.f64.format.order x 4640537203540230144 == some .gt) = false := by
        cases e : gtB x 4640537203540230144
        · exact e
        · have := (gtB_iff hM.fin k180.1).1 e
          rw [k180.2] at this
          exact absurd this hg
      have H2 : Hid (Mul x (E2 x) ∧ val x ≤ 181) := Lib.hid ⟨swap hM, by grind⟩
      clear hM hg
      go_wp2
      go_loop [0] (fun v => ∃ x, v = .float .f64 x ∧ Mul x (E2 x) ∧ val x ≤ 181) (fun v => ms2 v)
      case atStart => exact ⟨x, rfl, H2.out⟩
      case round =>
        obtain ⟨z, rfl, hM, hz⟩ := hrel
        clear H2
        by_cases hg : val z < -180
        · obtain ⟨y, hb, hM', hv, hv2⟩ := up1 hM hg
          have e2 : (FloatKind.f64.format.order z 13863909240395005952 == some .lt) = true := (ltB_iff hM.fin km180.1).2 (by rw [km180.2]; exact hg)
          have kb := fun w => run_float_arith (P := Try.prog) w .add 22 .f64 z 4645040803167600640 y hb
          have HM := Lib.hid hM'
          have HV := Lib.hid hv2
          have hms : Hid (ms2 (.float .f64 y) < ms2 (.float .f64 z)) := Lib.hid (ms_lt (by grind) (by grind))
          clear hb hM hM' hv hg hv2 hz
          go_wp2
          go_round
          case rel => exact ⟨y, rfl, HM.out, HV.out⟩
          case measure => exact hms.out
        · have e2 : (FloatKind.f64.format.order z 13863909240395005952 == some .lt) = false := by
            cases e : ltB z 13863909240395005952
            · exact e
            · have := (ltB_iff hM.fin km180.1).1 e
              rw [km180.2] at this
              exact absurd this hg
          have L := Lib.hid (last hM (by grind) hz)
          clear hM hg hz
          go_wp2_with (go_at_call 10; (with_reducible refine (abs10_c _ _).mono ?_); rintro e w' ⟨rfl, rfl⟩)
          go_ret
          exact ⟨_, rfl, L.out, rfl⟩
theorem eq_self {s : Bool} {r : Nat} (h : r ≤ top) : eqB (F.word s r) (F.word s r) = true := by
  by_cases c : r = top
  · subst c; cases s <;> decide +kernel
  · exact eqB_self (word_fin s r (by omega))
theorem sqrt_some {x : Nat} (fx : fin x) (h : 0 ≤ val x) : ∃ r, F.sqrt x = some r ∧ eqB r r = true := by
  obtain ⟨s, m, i, e, hm, -⟩ := fin_num fx
  by_cases h0 : m = 0
  · obtain ⟨r, h1, -, h3⟩ := rung_of m i
    refine ⟨F.word s r, ?_, eq_self h1⟩
    show ((F.read x).root 54).map F.write = _
    rw [e]
    show (if m = 0 then some (Datum.number s m i) else _ : Option Datum).map F.write = _
    rw [if_pos h0]
    exact congrArg some (h3 s)
  · have hs : s = false := by
      cases s
      · rfl
      · have hv : val x = sg true * (m : Rat) * two i := by unfold val; rw [e]; rfl
        have h1 : (0 : Rat) < (m : Rat) := by exact_mod_cast Nat.pos_of_ne_zero h0
        have h2 := Rat.mul_pos h1 (two_pos i)
        rw [hv] at h
        simp only [sg, if_true] at h
        grind
    subst hs
    have hr : ∃ n q, (F.read x).root 54 = some (.number false n q) := by
      rw [e]
      show ∃ n q, (if m = 0 then some (Datum.number false m i) else if false = true then none else _ : Option Datum) = _
      rw [if_neg h0, if_neg (by decide)]
      exact ⟨_, _, rfl⟩
    obtain ⟨n, q, hr⟩ := hr
    obtain ⟨r, h1, -, h3⟩ := rung_of n q
    refine ⟨F.word false r, ?_, eq_self h1⟩
    show ((F.read x).root 54).map F.write = _
    rw [hr]
    exact congrArg some (h3 false)
theorem aK : Abs (val 4633260481411531256) 58 := by rw [kK.2]; unfold Abs; constructor <;> grind
theorem er_s {B : Rat} (h : B ≤ 2000) : er B ≤ 3 / 10 ^ 12 := by
  have h1 := er_le h
  have h2 : er 2000 ≤ 3 / 10 ^ 12 := by unfold er; decide +kernel
  grind
/-- the hue of an angle -/
structure HueR (q t h : Nat) : Prop where
  mul : floatBits .mul .f64 q 4633260481411531256 = some t
  way : (ltB t 0 = false ∧ h = t) ∨ (ltB t 0 = true ∧ floatBits .add .f64 t 4645040803167600640 = some h)
  fin : fin h
  lt : h < 2 ^ 64
  abs : Abs (val h) 1700
  near : ∃ j : Int, Near (val h) (val q * val 4633260481411531256 + 360 * (j : Rat)) (1 / 10 ^ 11)
theorem hue_ex {q : Nat} (f : fin q) (a : Abs (val q) 20) : ∃ t h, HueR q t h := by
  obtain ⟨t, H⟩ := mul_b f kK.1 a aK (by grind)
  have nt := near_mono H.near (er_s (B := 20 * 58) (by grind))
  have at_ := abs_le H.abs (show (20 : Rat) * 58 + 1 ≤ 1161 by grind)
  cases hl : ltB t 0
  · refine ⟨t, t, H.bits, .inl ⟨hl, rfl⟩, H.fin, bits_lt H.bits, abs_le at_ (by grind), 0, ?_⟩
    unfold Near at *
    constructor <;> simp <;> grind
  · obtain ⟨h, H2⟩ := add_b H.fin k360.1 at_ a360 (by grind)
    have nh := near_mono H2.near (er_s (B := 1161 + 360) (by grind))
    rw [k360.2] at nh
    refine ⟨t, h, H.bits, .inr ⟨hl, H2.bits⟩, H2.fin, bits_lt H2.bits, abs_le H2.abs (by grind), 1, ?_⟩
    unfold Near at *
    constructor <;> simp <;> grind
theorem KP : Abs (val 4633260481411531256 * pP - 180) (1 / 10 ^ 12) := by rw [kK.2]; unfold Abs pP; constructor <;> grind
theorem er_m {B : Rat} (h : B ≤ 5360) : er B ≤ 6 / 10 ^ 12 := by have := er_le h; have := er5360; grind
theorem kp_near {k v : Rat} (hk : k = -1 ∨ k = 0 ∨ k = 1) : Abs (2 * k * pP * val 4633260481411531256 - 360 * k) (2 / 10 ^ 12) := by
  have h := KP
  unfold Abs at *
  rcases hk with rfl | rfl | rfl <;> constructor <;> grind
theorem sum_mul {q1 q2 q3 t1 t2 h1 h2 : Nat} (T : Tri q1 q2 q3) (H1 : HueR q1 t1 h1) (H2 : HueR q2 t2 h2) : ∃ d, floatBits .add .f64 h1 h2 = some d ∧ Mul d (E1 d) := by
  obtain ⟨d, D⟩ := add_b H1.fin H2.fin H1.abs H2.abs (by grind)
  have nd := near_mono D.near (er_m (B := 1700 + 1700) (by grind))
  have ad := abs_le D.abs (show (1700 : Rat) + 1700 + 1 ≤ 5000 by grind)
  refine ⟨d, D.bits, bits_lt D.bits, D.fin, ad, ?_⟩
  obtain ⟨j1, n1⟩ := H1.near
  obtain ⟨j2, n2⟩ := H2.near
  obtain ⟨k, hk, nk⟩ := T.sum
  have hkp := kp_near (v := 0) hk
  have hK := aK
  have h5 : Near ((val q1 + val q2) * val 4633260481411531256) (2 * k * pP * val 4633260481411531256) (6 / 10 ^ 12) := by
    have hk0 : 0 ≤ val 4633260481411531256 := by rw [kK.2]; grind
    unfold Near eps at nk
    have m1 := Rat.mul_le_mul_of_nonneg_right nk.1 hk0
    have m2 := Rat.mul_le_mul_of_nonneg_right nk.2 hk0
    unfold Abs at hK
    unfold Near
    constructor <;> grind
  obtain ⟨ki, hki⟩ : ∃ ki : Int, (ki : Rat) = k := by
    rcases hk with rfl | rfl | rfl
    · exact ⟨-1, by simp⟩
    · exact ⟨0, by simp⟩
    · exact ⟨1, by simp⟩
  refine ⟨j1 + j2 + ki, ?_⟩
  rw [show ((j1 + j2 + ki : Int) : Rat) = (j1 : Rat) + (j2 : Rat) + k by push_cast; rw [hki]]
  unfold E1 Near Abs at *
  constructor <;> grind
theorem dif_mul {q1 q2 q3 t1 t3 h1 h3 : Nat} (T : Tri q1 q2 q3) (H1 : HueR q1 t1 h1) (H3 : HueR q3 t3 h3) : ∃ c d, floatBits .sub .f64 h3 h1 = some c ∧ floatBits .sub .f64 c 4640537203540230144 = some d ∧ Mul d (E1 d) := by
  obtain ⟨c, Cc⟩ := sub_b H3.fin H1.fin H3.abs H1.abs (by grind)
  have nc := near_mono Cc.near (er_m (B := 1700 + 1700) (by grind))
  have ac := abs_le Cc.abs (show (1700 : Rat) + 1700 + 1 ≤ 3401 by grind)
  have a180 : Abs (val 4640537203540230144) 180 := by rw [k180.2]; unfold Abs; constructor <;> grind
  obtain ⟨d, D⟩ := sub_b Cc.fin k180.1 ac a180 (by grind)
  have nd := near_mono D.near (er_m (B := 3401 + 180) (by grind))
  rw [k180.2] at nd
  have ad := abs_le D.abs (show (3401 : Rat) + 180 + 1 ≤ 5000 by grind)
  refine ⟨c, d, Cc.bits, D.bits, bits_lt D.bits, D.fin, ad, ?_⟩
  obtain ⟨j1, n1⟩ := H1.near
  obtain ⟨j3, n3⟩ := H3.near
  obtain ⟨k, hk, nk⟩ := T.dif
  have hkp := KP
  have hK := aK
  have h5 : Near ((val q3 - val q1) * val 4633260481411531256) (k * pP * val 4633260481411531256) (6 / 10 ^ 12) := by
    have hk0 : 0 ≤ val 4633260481411531256 := by rw [kK.2]; grind
    unfold Near eps at nk
    have m1 := Rat.mul_le_mul_of_nonneg_right nk.1 hk0
    have m2 := Rat.mul_le_mul_of_nonneg_right nk.2 hk0
    unfold Abs at hK
    unfold Near
    constructor <;> grind
  rcases hk with rfl | rfl
  · refine ⟨j3 - j1 - 1, ?_⟩
    rw [show ((j3 - j1 - 1 : Int) : Rat) = (j3 : Rat) - (j1 : Rat) - 1 by push_cast; rfl]
    unfold E1 Near Abs at *
    constructor <;> grind
  · refine ⟨j3 - j1, ?_⟩
    rw [show ((j3 - j1 : Int) : Rat) = (j3 : Rat) - (j1 : Rat) by push_cast; rfl]
    unfold E1 Near Abs at *
    constructor <;> grind
end Go.Proofs.Ytfmkhbgikjllkaa
