/- FnLabToLchMirrorAndOpposite returns true at every argument (no condition). -/
import Derived.Test.YtfmkhbgikjllkaaCir
import Derived.Deep.DeepCutAuto
import Derived.WalkSpells
import Derived.ChangeOld
import Derived.OpenShut
import Derived.Laws.Cover2
namespace Go.Proofs.Ytfmkhbgikjllkaa.fnLabToLchMirrorAndOpposite
open Go.ChangeShapes Go.WideShapes Go.ChangeAt Go.RowKit Go.Sort
open Go.ChangeMaps (open_string shut_string)
open Flt Ieee
set_option linter.unusedVariables false
set_option linter.unusedSimpArgs false
def L7 (l a b c h : Nat) : Prop := ∀ w, Calls Try.prog 7 #[fl l, fl a, fl b] w fun e w' => e = .returned (.tuple #[fl l, fl c, fl h]) ∧ Below w.heap.size w w'
set_option maxRecDepth 100000 in
set_option maxHeartbeats 2000000 in
theorem zz5_c (l a b c h : Nat) (w : World) (hL : L7 l a b c h) : Calls Try.prog 5 #[.float .f64 l, .float .f64 a, .float .f64 b] w fun e w' => e = .returned (.tuple #[.float .f64 l, .float .f64 c, .float .f64 h]) ∧ Below w.heap.size w w' := by
  have st := st_fl
  have C := Lib.hid (show ∀ w, Calls Try.prog 7 #[fl l, fl a, fl b] w fun e w' => e = .returned (.tuple #[fl l, fl c, fl h]) ∧ Below w.heap.size w w' from hL)
  clear hL
  have hB : Hid (Below w.heap.size w w) := Lib.hid (Below.refl _ _)
  go_enter Try.func5, Try.ntmps5
  go_upto_region 2 with (first | (go_at_call 8; (with_reducible refine (newB_c _ _).mono ?_); rintro e u ⟨rfl, hb⟩; replace hB := Lib.hid (hB.out.trans (hb.mono hB.out.size)); clear hb) | (go_at_call 7; (with_reducible refine (C.out _).mono ?_); rintro e u ⟨rfl, hb⟩; replace hB := Lib.hid (hB.out.trans (hb.mono hB.out.size)); clear hb))
  refine wp_gen (fun W hW => ?_)
  have c9 : W.cell? ⟨u.heap.size, 0, none⟩ = some (.float .f64 l) := by rw [hW]; simp [go_sem]
  have c10 : W.cell? ⟨u.heap.size + 1, 0, none⟩ = some (.float .f64 c) := by rw [hW]; simp [go_sem]
  have c11 : W.cell? ⟨u.heap.size + 1 + 1, 0, none⟩ = some (.float .f64 h) := by rw [hW]; simp [go_sem]
  have hBW : Below w.heap.size w W := by
    rw [hW]
    have h0 := hB.out.size
    exact ((hB.out.alloc h0 _).alloc (by simp; omega) _).alloc (by simp; omega) _
  clear hW hB
  generalize u.heap.size = p at *
  refine QTail.wp_region_each (fun i v _ => v = ([fl l, .float .f64 l, fl c, .float .f64 c, fl h, .float .f64 h, .float .f64 l, .float .f64 c, .float .f64 h] : List Value).getD i undef) (fun W' => W'.cell? ⟨p, 0, none⟩ = some (.float .f64 l) ∧ W'.cell? ⟨p + 1, 0, none⟩ = some (.float .f64 c) ∧ W'.cell? ⟨p + 1 + 1, 0, none⟩ = some (.float .f64 h) ∧ Below w.heap.size w W') (by kernel_rfl) (by kernel_rfl) ⟨c9, c10, c11, hBW.drew⟩ ?_ ?_
  · refine ⟨?_, ?_⟩
    · intro vs W' hC hd
      clear hd
      have HC := Lib.hid hC
      simp only [QTail.putA]
      obtain ⟨x1, x2, x3, -⟩ := hC
      go_wp2
      exact HC.out.2.2.2
    refine ⟨?_, ?_⟩
    · intro vs W' hC hd
      have d0 : vs 0 = fl l := hd { on := 0, ground := Ground.data } (by simp) rfl
      clear hd
      have HC := Lib.hid hC
      simp only [QTail.putA]
      clear hC
      go_wp2_with (refine (valB_c _ _).mono ?_; rintro e u ⟨rfl, hb⟩)
      obtain ⟨x1, x2, x3, x4⟩ := HC.out
      exact ⟨after_call hb x1, after_call hb x2, after_call hb x3, x4.trans (hb.mono x4.size)⟩
    refine ⟨?_, ?_⟩
    · intro vs W' hC hd
      clear hd
      have HC := Lib.hid hC
      simp only [QTail.putA]
      obtain ⟨x1, x2, x3, -⟩ := hC
      go_wp2
      exact HC.out.2.2.2
    refine ⟨?_, ?_⟩
    · intro vs W' hC hd
      have d2 : vs 2 = fl c := hd { on := 2, ground := Ground.data } (by simp) rfl
      clear hd
      have HC := Lib.hid hC
      simp only [QTail.putA]
      clear hC
      go_wp2_with (refine (valB_c _ _).mono ?_; rintro e u ⟨rfl, hb⟩)
      obtain ⟨x1, x2, x3, x4⟩ := HC.out
      exact ⟨after_call hb x1, after_call hb x2, after_call hb x3, x4.trans (hb.mono x4.size)⟩
    refine ⟨?_, ?_⟩
    · intro vs W' hC hd
      clear hd
      have HC := Lib.hid hC
      simp only [QTail.putA]
      obtain ⟨x1, x2, x3, -⟩ := hC
      go_wp2
      exact HC.out.2.2.2
    refine ⟨?_, ?_⟩
    · intro vs W' hC hd
      have d4 : vs 4 = fl h := hd { on := 4, ground := Ground.data } (by simp) rfl
      clear hd
      have HC := Lib.hid hC
      simp only [QTail.putA]
      clear hC
      go_wp2_with (refine (valB_c _ _).mono ?_; rintro e u ⟨rfl, hb⟩)
      obtain ⟨x1, x2, x3, x4⟩ := HC.out
      exact ⟨after_call hb x1, after_call hb x2, after_call hb x3, x4.trans (hb.mono x4.size)⟩
    refine ⟨?_, ?_⟩
    · intro vs W' hC hd
      have d1 : vs 1 = .float .f64 l := hd { on := 1, ground := Ground.data } (by simp) rfl
      clear hd
      have HC := Lib.hid hC
      simp only [QTail.putA]
      clear hC
      go_wp2
      exact HC.out
    refine ⟨?_, ?_⟩
    · intro vs W' hC hd
      have d3 : vs 3 = .float .f64 c := hd { on := 3, ground := Ground.data } (by simp) rfl
      clear hd
      have HC := Lib.hid hC
      simp only [QTail.putA]
      clear hC
      go_wp2
      exact HC.out
    refine ⟨?_, ?_⟩
    · intro vs W' hC hd
      have d5 : vs 5 = .float .f64 h := hd { on := 5, ground := Ground.data } (by simp) rfl
      clear hd
      have HC := Lib.hid hC
      simp only [QTail.putA]
      clear hC
      go_wp2
      exact HC.out
    trivial
  · intro vs W' hC hA
    have d6 : vs 6 = .float .f64 l := hA 6 (by simp)
    have d7 : vs 7 = .float .f64 c := hA 7 (by simp)
    have d8 : vs 8 = .float .f64 h := hA 8 (by simp)
    have hB' := Lib.hid hC.2.2.2
    clear hA hC c9 c10 c11 hBW
    simp only [QTail.putA]
    go_wp2
    exact bodyPost_ret (v := .tuple #[.float .f64 l, .float .f64 c, .float .f64 h]) (by simp [results, Try.results5, go_sem, d6, d7, d8]) rfl ⟨rfl, hB'.out⟩
set_option maxRecDepth 100000 in
set_option maxHeartbeats 2000000 in
theorem o1 (l a b : Nat) (w : World) (hl : (geB l 13920209183539462144 && leB l 4696837146684686336) = false) : Calls Try.prog 3 #[.float .f64 l, .float .f64 a, .float .f64 b] w fun e w' => e = .returned (.bool true) ∧ Below w.heap.size w w' := by
  have Cl := in4_c l 13920209183539462144 4696837146684686336 w
  rw [hl] at Cl
  replace Cl := Lib.hid Cl
  clear hl
  go_enter Try.func3, Try.ntmps3
  go_wp2_with (first | (go_at_call 4; (with_reducible refine Cl.out.mono ?_); rintro e w' ⟨rfl, rfl⟩))
  go_ret
  exact ⟨rfl, Below.refl _ _⟩
set_option maxRecDepth 100000 in
set_option maxHeartbeats 2000000 in
theorem o2 (l a b : Nat) (w : World) (hl : (geB l 13920209183539462144 && leB l 4696837146684686336) = true) (ha : (geB a 13920209183539462144 && leB a 4696837146684686336) = false) : Calls Try.prog 3 #[.float .f64 l, .float .f64 a, .float .f64 b] w fun e w' => e = .returned (.bool true) ∧ Below w.heap.size w w' := by
  have Cl := in4_c l 13920209183539462144 4696837146684686336 w
  rw [hl] at Cl
  replace Cl := Lib.hid Cl
  have Ca := in4_c a 13920209183539462144 4696837146684686336 w
  rw [ha] at Ca
  replace Ca := Lib.hid Ca
  clear hl ha
  go_enter Try.func3, Try.ntmps3
  go_wp2_with (first | (go_at_call 4; (with_reducible refine Cl.out.mono ?_); rintro e w' ⟨rfl, rfl⟩) | (go_at_call 4; (with_reducible refine Ca.out.mono ?_); rintro e w' ⟨rfl, rfl⟩))
  go_ret
  exact ⟨rfl, Below.refl _ _⟩
set_option maxRecDepth 100000 in
set_option maxHeartbeats 2000000 in
theorem o3 (l a b : Nat) (w : World) (hl : (geB l 13920209183539462144 && leB l 4696837146684686336) = true) (ha : (geB a 13920209183539462144 && leB a 4696837146684686336) = true) (hb : (geB b 13920209183539462144 && leB b 4696837146684686336) = false) : Calls Try.prog 3 #[.float .f64 l, .float .f64 a, .float .f64 b] w fun e w' => e = .returned (.bool true) ∧ Below w.heap.size w w' := by
  have Cl := in4_c l 13920209183539462144 4696837146684686336 w
  rw [hl] at Cl
  replace Cl := Lib.hid Cl
  have Ca := in4_c a 13920209183539462144 4696837146684686336 w
  rw [ha] at Ca
  replace Ca := Lib.hid Ca
  have Cb := in4_c b 13920209183539462144 4696837146684686336 w
  rw [hb] at Cb
  replace Cb := Lib.hid Cb
  clear hl ha hb
  go_enter Try.func3, Try.ntmps3
  go_wp2_with (first | (go_at_call 4; (with_reducible refine Cl.out.mono ?_); rintro e w' ⟨rfl, rfl⟩) | (go_at_call 4; (with_reducible refine Ca.out.mono ?_); rintro e w' ⟨rfl, rfl⟩) | (go_at_call 4; (with_reducible refine Cb.out.mono ?_); rintro e w' ⟨rfl, rfl⟩))
  go_ret
  exact ⟨rfl, Below.refl _ _⟩
theorem mul_neg_self {b : Nat} (wb : b < 2 ^ 64) : floatBits .mul .f64 (negB b) (negB b) = floatBits .mul .f64 b b := by
  show ((F.read (negB b)).product (F.read (negB b))).map F.write = ((F.read b).product (F.read b)).map F.write
  rw [neg_read wb]
  cases F.read b with
  | nan => rfl
  | infinity s => cases s <;> rfl
  | number s m i => cases s <;> rfl
theorem nonneg_sq (x : Rat) : 0 ≤ x * x := by
  rcases Rat.le_total (a := 0) (b := x) with h | h
  · exact Rat.mul_nonneg h h
  · have := Rat.mul_nonneg (show 0 ≤ -x by grind) (show 0 ≤ -x by grind); grind
theorem big1022 : (10 : Rat) ^ 14 ≤ two 1022 := by have := small_lt (B := (10 : Rat) ^ 14) (by grind); grind
theorem l7_of {l a b q t h a2 b2 s c : Nat} (F1 : C2 b a q) (H : HueR q t h) (F3 : floatBits .mul .f64 a a = some a2) (F4 : floatBits .mul .f64 b b = some b2) (F5 : floatBits .add .f64 a2 b2 = some s) (F6 : F.sqrt s = some c) : L7 l a b c h := by
  rcases H.way with ⟨h1, e⟩ | ⟨h1, h2⟩
  · rw [e]; exact fun w => lch_pos l a b q t a2 b2 s c w F1 H.mul F3 F4 F5 F6 h1
  · exact fun w => lch_neg l a b q t a2 b2 s c h w F1 H.mul F3 F4 F5 F6 h2 h1
theorem all_ex (l a b : Nat) (wa : a < 2 ^ 64) (wb : b < 2 ^ 64) (fa : fin a) (fb : fin b) (ha : Abs (val a) 1000000) (hb : Abs (val b) 1000000) :
    ∃ c h1 h2 h3 d c3 d3, L7 l a b c h1 ∧ L7 l a (negB b) c h2 ∧ L7 l (negB a) (negB b) c h3 ∧ eqB c c = true ∧ floatBits .add .f64 h1 h2 = some d ∧ Mul d (E1 d) ∧ floatBits .sub .f64 h3 h1 = some c3 ∧ floatBits .sub .f64 c3 4640537203540230144 = some d3 ∧ Mul d3 (E1 d3) := by
  obtain ⟨q1, q2, q3, T, x1, x2, x3⟩ := tri_ex b a wb wa fb fa
  obtain ⟨t1, h1, H1⟩ := hue_ex T.f1 T.a1
  obtain ⟨t2, h2, H2⟩ := hue_ex T.f2 T.a2
  obtain ⟨t3, h3, H3⟩ := hue_ex T.f3 T.a3
  have hB := big1022
  have sa := abs_mul ha ha
  have sb := abs_mul hb hb
  obtain ⟨a2, A2, fa2, ma⟩ := mul_mono a a fa fa (abs_le sa (by grind))
  obtain ⟨b2, B2, fb2, mb⟩ := mul_mono b b fb fb (abs_le sb (by grind))
  have pa : 0 ≤ val a2 := by have := (ma 0 zero_fin.1).2 (by rw [zero_fin.2]; exact nonneg_sq _); rw [zero_fin.2] at this; exact this
  have pb : 0 ≤ val b2 := by have := (mb 0 zero_fin.1).2 (by rw [zero_fin.2]; exact nonneg_sq _); rw [zero_fin.2] at this; exact this
  obtain ⟨a2', H⟩ := mul_b fa fa ha ha (by grind)
  obtain ⟨b2', H'⟩ := mul_b fb fb hb hb (by grind)
  have ea : a2' = a2 := by have := H.bits.symm.trans A2; cases this; rfl
  have eb : b2' = b2 := by have := H'.bits.symm.trans B2; cases this; rfl
  subst ea eb
  obtain ⟨s, S, fs, msn⟩ := add_mono _ _ fa2 fb2 (abs_le (abs_add H.abs H'.abs) (by grind))
  have ps : 0 ≤ val s := by have := (msn 0 zero_fin.1).2 (by rw [zero_fin.2]; grind); rw [zero_fin.2] at this; exact this
  obtain ⟨c, Cs, ec⟩ := sqrt_some fs ps
  obtain ⟨d, D, Dm⟩ := sum_mul T H1 H2
  obtain ⟨c3, d3, D3, D4, Dm3⟩ := dif_mul T H1 H3
  have B2' := (mul_neg_self wb).trans B2
  have A2' := (mul_neg_self wa).trans A2
  exact ⟨c, h1, h2, h3, d, c3, d3, l7_of x1 H1 A2 B2 S Cs, l7_of x2 H2 A2 B2' S Cs, l7_of x3 H3 A2' B2' S Cs, ec, D, Dm, D3, D4, Dm3⟩
set_option maxRecDepth 100000 in
set_option maxHeartbeats 2000000 in
theorem main (l a b : Nat) (w : World) (hl : (geB l 13920209183539462144 && leB l 4696837146684686336) = true) (ha : (geB a 13920209183539462144 && leB a 4696837146684686336) = true) (hb : (geB b 13920209183539462144 && leB b 4696837146684686336) = true) (wa : a < 2 ^ 64) (wb : b < 2 ^ 64) : Calls Try.prog 3 #[.float .f64 l, .float .f64 a, .float .f64 b] w fun e w' => e = .returned (.bool true) ∧ Below w.heap.size w w' := by
  have Cl := in4_c l 13920209183539462144 4696837146684686336 w
  rw [hl] at Cl
  replace Cl := Lib.hid Cl
  have Ca := in4_c a 13920209183539462144 4696837146684686336 w
  rw [ha] at Ca
  replace Ca := Lib.hid Ca
  have Cb := in4_c b 13920209183539462144 4696837146684686336 w
  rw [hb] at Cb
  replace Cb := Lib.hid Cb
  have kn := neg_fl
  rw [Bool.and_eq_true] at ha hb
  have fa := fin_of_between km1e6.1 k1e6.1 ha.1 ha.2
  have fb := fin_of_between km1e6.1 k1e6.1 hb.1 hb.2
  have a1 := (geB_iff fa km1e6.1).1 ha.1
  have a2 := (leB_iff fa k1e6.1).1 ha.2
  have b1 := (geB_iff fb km1e6.1).1 hb.1
  have b2 := (leB_iff fb k1e6.1).1 hb.2
  rw [km1e6.2] at a1 b1
  rw [k1e6.2] at a2 b2
  obtain ⟨c, h1, h2, h3, d, c3, d3, L1, L2, L3, ec, D, Dm, D3, D4, Dm3⟩ := all_ex l a b wa wb fa fb (by unfold Abs; constructor <;> grind) (by unfold Abs; constructor <;> grind)
  have e1 : (FloatKind.f64.format.order c c != some .eq) = false := by
    have : (FloatKind.f64.format.order c c == some .eq) = true := ec
    simp [bne, this]
  have k1 := fun w => run_float_arith (P := Try.prog) w .add 22 .f64 h1 h2 d D
  have k2 := fun w => run_float_arith (P := Try.prog) w .sub 22 .f64 h3 h1 c3 D3
  have k3 := fun w => run_float_arith (P := Try.prog) w .sub 22 .f64 c3 4640537203540230144 d3 D4
  have K1 := Lib.hid (fun w => zz5_c l a b c h1 w L1)
  have K2 := Lib.hid (fun w => zz5_c l a (negB b) c h2 w L2)
  have K3 := Lib.hid (fun w => zz5_c l (negB a) (negB b) c h3 w L3)
  have Q1 := Lib.hid (fun w => circ6_c d w Dm)
  have Q2 := Lib.hid (fun w => circ6_c d3 w Dm3)
  clear hl ha hb fa fb a1 a2 b1 b2 L1 L2 L3 ec D Dm D3 D4 Dm3 wa wb
  have hB : Hid (Below w.heap.size w w) := Lib.hid (Below.refl _ _)
  go_enter Try.func3, Try.ntmps3
  go_wp2_with (first | (go_at_call 4; (with_reducible refine Cl.out.mono ?_); rintro e w' ⟨rfl, rfl⟩) | (go_at_call 4; (with_reducible refine Ca.out.mono ?_); rintro e w' ⟨rfl, rfl⟩) | (go_at_call 4; (with_reducible refine Cb.out.mono ?_); rintro e w' ⟨rfl, rfl⟩) | (go_at_call 5; (with_reducible refine (K1.out _).mono ?_); rintro e u ⟨rfl, hb⟩; replace hB := Lib.hid (hB.out.trans (hb.mono hB.out.size)); clear hb) | (go_at_call 5; (with_reducible refine (K2.out _).mono ?_); rintro e u ⟨rfl, hb⟩; replace hB := Lib.hid (hB.out.trans (hb.mono hB.out.size)); clear hb) | (go_at_call 5; (with_reducible refine (K3.out _).mono ?_); rintro e u ⟨rfl, hb⟩; replace hB := Lib.hid (hB.out.trans (hb.mono hB.out.size)); clear hb) | (go_at_call 6; (with_reducible refine (Q1.out _).mono ?_); rintro e u ⟨r, rfl, hr1, rfl⟩; have hr1' : (FloatKind.f64.format.order r 4472406533629990549 == some .lt || FloatKind.f64.format.order r 4472406533629990549 == some .eq) = true := hr1; clear hr1) | (go_at_call 6; (with_reducible refine (Q2.out _).mono ?_); rintro e u ⟨r', rfl, hr2, rfl⟩; have hr2' : (FloatKind.f64.format.order r' 4472406533629990549 == some .lt || FloatKind.f64.format.order r' 4472406533629990549 == some .eq) = true := hr2; clear hr2))
  go_ret
  exact ⟨rfl, hB.out⟩
theorem walk (a0 : Nat) (a1 : Nat) (a2 : Nat) (w : World) (w0 : (Lit.float .f64 a0).wf = true) (w1 : (Lit.float .f64 a1).wf = true) (w2 : (Lit.float .f64 a2).wf = true) :
    Calls Try.prog 3 #[.float .f64 a0, .float .f64 a1, .float .f64 a2] w fun e w' => e = .returned (.bool true) ∧ Below w.heap.size w w' := by
  cases hl : (geB a0 13920209183539462144 && leB a0 4696837146684686336)
  · exact o1 a0 a1 a2 w hl
  cases ha : (geB a1 13920209183539462144 && leB a1 4696837146684686336)
  · exact o2 a0 a1 a2 w hl ha
  cases hb : (geB a2 13920209183539462144 && leB a2 4696837146684686336)
  · exact o3 a0 a1 a2 w hl ha hb
  exact main a0 a1 a2 w hl ha hb (wf_lt w1) (wf_lt w2)
theorem own : ownKnob Try.prog.godebug = none := by kernel_rfl
set_option maxRecDepth 100000 in
theorem lifted (os : Os) (started : os.Started) (H : Type) (enc : TypeId × Value → H) :
    ReturnsInHanded {} Try.checked os 3 .any (Rows.fnLabToLchMirrorAndOppositeSpec.pre6 enc Try.prog Try.f3 Rows.fnLabToLchMirrorAndOppositeRow.domain false) (Rows.fnLabToLchMirrorAndOppositeSpec.post enc Try.prog Try.f3 false true false false) := by
  refine returnsInHanded_of_change (C := Try.checked) own started (by kernel_rfl) Try.func3
    (ChangeSpec.witness6 (enc := enc) (C := Try.checked) false ⟨#[], #[.float .f64 0, .float .f64 0, .float .f64 0], []⟩ 8 (by kernel_rfl) (by kernel_rfl) (by kernel_rfl) (by kernel_rfl)) ?_
  intro W base args ds gs before hval0 hW hcnd _
  have hval : ∀ (j : Nat) t v, Try.f3.params[j]? = some t → args[j]? = some v → Value.okWide Try.prog W .any base t v := hval0
  have hW' := hW
  obtain ⟨p, q, hA0, hV, rfl, hfz, hnd⟩ := hW
  have hA : DataW.TrodAll enc Try.prog W 0 (fun _ => true) true Try.f3.params.toList args.toList ds p := hA0
  rw [Try.params3] at hA hval
  obtain ⟨v0, vs0, d0, ds0, p0, q0, hargs, rfl, rfl, h0, r0⟩ := trodAll_cons hA
  obtain ⟨v1, vs1, d1, ds1, p1, q1, rfl, rfl, rfl, h1, r1⟩ := trodAll_cons r0
  obtain ⟨v2, vs2, d2, ds2, p2, q2, rfl, rfl, rfl, h2, r2⟩ := trodAll_cons r1
  obtain ⟨rfl, rfl, rfl⟩ := trodAll_nil r2
  obtain rfl : args = #[v0, v1, v2] := by cases args; simp_all
  obtain ⟨rfl, rfl⟩ := trodVars_none hV
  obtain ⟨a0, rfl, rfl, rfl, w0⟩ := open_float Try.underlying22 (hval 0 22 v0 rfl rfl) h0
  obtain ⟨a1, rfl, rfl, rfl, w1⟩ := open_float Try.underlying22 (hval 1 22 v1 rfl rfl) h1
  obtain ⟨a2, rfl, rfl, rfl, w2⟩ := open_float Try.underlying22 (hval 2 22 v2 rfl rfl) h2
  clear hA0 hval0
  simp only [List.append_nil] at hW'
  refine (walk a0 a1 a2 W w0 w1 w2).mono fun e W' ⟨he, bel⟩ => ?_
  subst he
  exact ⟨_, rfl, _, _, _, [], [], [], hW', trodAll_mk1 (shut_bool Try.underlying4 _), (trodAll_cons_mk (shut_float Try.underlying22 w0) (trodAll_cons_mk (shut_float Try.underlying22 w1) (trodAll_cons_mk (shut_float Try.underlying22 w2) trodAll_mk0))), rfl, bel.frame _, fun h => by cases h⟩

theorem over : Rows.fnLabToLchMirrorAndOppositeRow.holds Try.pinned (OpenSpec.ofChange Rows.fnLabToLchMirrorAndOppositeSpec) :=
  OpenClaim.holds_of_wide 3 Try.f3 rfl rfl rfl rfl rfl rfl rfl ⟨rfl, rfl, rfl, rfl, rfl⟩ rfl rfl rfl rfl rfl (by kernel_rfl) Try.func3 (by kernel_rfl)
    (of_decide_eq_true (by kernel_rfl)) (by unfold Func.isWrapper; first | (rw [if_pos (by decide +kernel)]; kernel_rfl) | (rw [if_neg (by decide +kernel)]; exact ⟨rfl, rfl⟩))
    (fun os started H enc _ => lifted os started H enc)

theorem proved : Rows.FnLabToLchMirrorAndOppositeSaid :=
  over
#print axioms proved
end Go.Proofs.Ytfmkhbgikjllkaa.fnLabToLchMirrorAndOpposite
