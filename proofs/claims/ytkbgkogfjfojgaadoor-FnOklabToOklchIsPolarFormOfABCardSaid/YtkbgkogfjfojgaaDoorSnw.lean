/- math.cos and math.sin: what they give, step by step. -/
import Derived.Test.YtkbgkogfjfojgaaDoorAtw
import Derived.Test.YtkbgkogfjfojgaaDoorCv
set_option linter.unusedSimpArgs false
set_option linter.unusedVariables false
namespace Go.Proofs.YtkbgkogfjfojgaaDoor
open Go.RowKit
open Flt Ieee
def SinE (z zz r : Nat) : Prop := ∃ m p1 a1 p2 a2 p3 a3 p4 a4 p5 a5 t : Nat, floatBits .mul .f64 z zz = some m ∧ floatBits .mul .f64 4460209587652500685 zz = some p1 ∧ floatBits .add .f64 p1 13716528389658582877 = some a1 ∧ floatBits .mul .f64 a1 zz = some p2 ∧ floatBits .add .f64 p2 4523617212962785441 = some a2 ∧ floatBits .mul .f64 a2 zz = some p3 ∧ floatBits .add .f64 p3 13774824197404483331 = some a3 ∧ floatBits .mul .f64 a3 zz = some p4 ∧ floatBits .add .f64 p4 4575957461383575504 = some a4 ∧ floatBits .mul .f64 a4 zz = some p5 ∧ floatBits .add .f64 p5 13818544856648471880 = some a5 ∧ floatBits .mul .f64 m a5 = some t ∧ floatBits .add .f64 z t = some r
def CosE (z zz r : Nat) : Prop := ∃ h b m p1 a1 p2 a2 p3 a3 p4 a4 p5 a5 t : Nat, floatBits .mul .f64 4602678819172646912 zz = some h ∧ floatBits .sub .f64 4607182418800017408 h = some b ∧ floatBits .mul .f64 zz zz = some m ∧ floatBits .mul .f64 13666448263388469915 zz = some p1 ∧ floatBits .add .f64 p1 4477121864728985349 = some a1 ∧ floatBits .mul .f64 a1 zz = some p2 ∧ floatBits .add .f64 p2 13732177093698800582 = some a2 ∧ floatBits .mul .f64 a2 zz = some p3 ∧ floatBits .add .f64 p3 4537941361668146421 = some a3 ∧ floatBits .mul .f64 a3 zz = some p4 ∧ floatBits .add .f64 p4 13787419979223748497 = some a4 ∧ floatBits .mul .f64 a4 zz = some p5 ∧ floatBits .add .f64 p5 4586165620538955083 = some a5 ∧ floatBits .mul .f64 m a5 = some t ∧ floatBits .add .f64 b t = some r
def RedE (x y z : Nat) : Prop := ∃ e1 d1 e2 d2 e3 : Nat, floatBits .mul .f64 y 4605249456957292544 = some e1 ∧ floatBits .sub .f64 x e1 = some d1 ∧ floatBits .mul .f64 y 4495793288086814720 = some e2 ∧ floatBits .sub .f64 d1 e2 = some d2 ∧ floatBits .mul .f64 y 4388835458085048688 = some e3 ∧ floatBits .sub .f64 d2 e3 = some z
/-- the tables -/
def Tab (w : World) : Prop := w.cell? ⟨1, 0, none⟩ = some (.float .f64 4460209587652500685) ∧ w.cell? ⟨1, 1, none⟩ = some (.float .f64 13716528389658582877) ∧ w.cell? ⟨1, 2, none⟩ = some (.float .f64 4523617212962785441) ∧ w.cell? ⟨1, 3, none⟩ = some (.float .f64 13774824197404483331) ∧ w.cell? ⟨1, 4, none⟩ = some (.float .f64 4575957461383575504) ∧ w.cell? ⟨1, 5, none⟩ = some (.float .f64 13818544856648471880) ∧ w.cell? ⟨2, 0, none⟩ = some (.float .f64 13666448263388469915) ∧ w.cell? ⟨2, 1, none⟩ = some (.float .f64 4477121864728985349) ∧ w.cell? ⟨2, 2, none⟩ = some (.float .f64 13732177093698800582) ∧ w.cell? ⟨2, 3, none⟩ = some (.float .f64 4537941361668146421) ∧ w.cell? ⟨2, 4, none⟩ = some (.float .f64 13787419979223748497) ∧ w.cell? ⟨2, 5, none⟩ = some (.float .f64 4586165620538955083)
set_option maxRecDepth 100000 in
set_option maxHeartbeats 4000000 in
theorem cos_0 (x mm z zz r : Nat) (w : World) (hx : x < top) (hT : Tab w) (hg : geB x 4737786807993761792 = false) (hm : floatBits .mul .f64 x 4608412980311869571 = some mm) (hj : floatToIntVal .f64 mm .u64 = some 0) (hr : RedE x 0 z) (hz : floatBits .mul .f64 z z = some zz) (hE : CosE z zz r) : Calls Tryd.prog 32 #[.float .f64 x] w fun e w' => e = .returned (.float .f64 r) ∧ w = w' := by
  obtain ⟨e1, d1, e2, d2, e3, r0, r1, r2, r3, r4, r5⟩ := hr
  obtain ⟨h, b, m, p1, a1, p2, a2, p3, a3, p4, a4, p5, a5, t, q0, q1, q2, q3, q4, q5, q6, q7, q8, q9, q10, q11, q12, q13, q14⟩ := hE
  obtain ⟨g0, g1, g2, g3, g4, g5, f0, f1, f2, f3, f4, f5⟩ := hT
  have rk0 := fun w => run_float_arith (P := Tryd.prog) w .mul 22 .f64 0 4605249456957292544 e1 r0
  have rk1 := fun w => run_float_arith (P := Tryd.prog) w .sub 22 .f64 x e1 d1 r1
  have rk2 := fun w => run_float_arith (P := Tryd.prog) w .mul 22 .f64 0 4495793288086814720 e2 r2
  have rk3 := fun w => run_float_arith (P := Tryd.prog) w .sub 22 .f64 d1 e2 d2 r3
  have rk4 := fun w => run_float_arith (P := Tryd.prog) w .mul 22 .f64 0 4388835458085048688 e3 r4
  have rk5 := fun w => run_float_arith (P := Tryd.prog) w .sub 22 .f64 d2 e3 z r5
  clear r0 r1 r2 r3 r4 r5
  have qk0 := fun w => run_float_arith (P := Tryd.prog) w .mul 22 .f64 4602678819172646912 zz h q0
  have qk1 := fun w => run_float_arith (P := Tryd.prog) w .sub 22 .f64 4607182418800017408 h b q1
  have qk2 := fun w => run_float_arith (P := Tryd.prog) w .mul 22 .f64 zz zz m q2
  have qk3 := fun w => run_float_arith (P := Tryd.prog) w .mul 22 .f64 13666448263388469915 zz p1 q3
  have qk4 := fun w => run_float_arith (P := Tryd.prog) w .add 22 .f64 p1 4477121864728985349 a1 q4
  have qk5 := fun w => run_float_arith (P := Tryd.prog) w .mul 22 .f64 a1 zz p2 q5
  have qk6 := fun w => run_float_arith (P := Tryd.prog) w .add 22 .f64 p2 13732177093698800582 a2 q6
  have qk7 := fun w => run_float_arith (P := Tryd.prog) w .mul 22 .f64 a2 zz p3 q7
  have qk8 := fun w => run_float_arith (P := Tryd.prog) w .add 22 .f64 p3 4537941361668146421 a3 q8
  have qk9 := fun w => run_float_arith (P := Tryd.prog) w .mul 22 .f64 a3 zz p4 q9
  have qk10 := fun w => run_float_arith (P := Tryd.prog) w .add 22 .f64 p4 13787419979223748497 a4 q10
  have qk11 := fun w => run_float_arith (P := Tryd.prog) w .mul 22 .f64 a4 zz p5 q11
  have qk12 := fun w => run_float_arith (P := Tryd.prog) w .add 22 .f64 p5 4586165620538955083 a5 q12
  have qk13 := fun w => run_float_arith (P := Tryd.prog) w .mul 22 .f64 m a5 t q13
  have qk14 := fun w => run_float_arith (P := Tryd.prog) w .add 22 .f64 b t r q14
  clear q0 q1 q2 q3 q4 q5 q6 q7 q8 q9 q10 q11 q12 q13 q14
  have km := fun w => run_float_arith (P := Tryd.prog) w .mul 22 .f64 x 4608412980311869571 mm hm
  have kz := fun w => run_float_arith (P := Tryd.prog) w .mul 22 .f64 z z zz hz
  have kj := fun w => run_convert_float_int (P := Tryd.prog) w 22 39 .f64 .u64 mm 0 (by kernel_rfl) (by kernel_rfl) hj
  have ki : floatOfInt .f64 0 = 0 := by decide +kernel
  have wx : F.word false x = x := rfl
  have C35 := Lib.hid (fun w => nan23_c x w (by have := word_fin false x hx; rwa [wx] at this))
  have C39 := Lib.hid (fun w => inf27_c false x w hx)
  rw [wx] at C39
  have C41 := Lib.hid (fun w => abs31_c false x w hx)
  rw [wx] at C41
  have v1 : (FloatKind.f64.format.order x 4737786807993761792 == some .gt || FloatKind.f64.format.order x 4737786807993761792 == some .eq) = false := hg
  clear hm hj hz hx wx hg
  go_enter Tryd.func32, Tryd.ntmps32
  go_wp2_with first | (go_at_call 35; (with_reducible refine (C35.out _).mono ?_); rintro e w7 ⟨rfl, rfl⟩) | (go_at_call 39; (with_reducible refine (C39.out _).mono ?_); rintro e w7 ⟨rfl, rfl⟩) | (go_at_call 41; (with_reducible refine (C41.out _).mono ?_); rintro e w7 ⟨rfl, rfl⟩)
  go_ret
  exact ⟨rfl, rfl⟩
set_option maxRecDepth 100000 in
set_option maxHeartbeats 4000000 in
theorem cos_1 (x mm z zz r : Nat) (w : World) (hx : x < top) (hT : Tab w) (hg : geB x 4737786807993761792 = false) (hm : floatBits .mul .f64 x 4608412980311869571 = some mm) (hj : floatToIntVal .f64 mm .u64 = some 1) (hr : RedE x 4611686018427387904 z) (hz : floatBits .mul .f64 z z = some zz) (hE : SinE z zz r) : Calls Tryd.prog 32 #[.float .f64 x] w fun e w' => e = .returned (.float .f64 (negB r)) ∧ w = w' := by
  obtain ⟨e1, d1, e2, d2, e3, r0, r1, r2, r3, r4, r5⟩ := hr
  obtain ⟨m, p1, a1, p2, a2, p3, a3, p4, a4, p5, a5, t, q0, q1, q2, q3, q4, q5, q6, q7, q8, q9, q10, q11, q12⟩ := hE
  obtain ⟨g0, g1, g2, g3, g4, g5, f0, f1, f2, f3, f4, f5⟩ := hT
  have rk0 := fun w => run_float_arith (P := Tryd.prog) w .mul 22 .f64 4611686018427387904 4605249456957292544 e1 r0
  have rk1 := fun w => run_float_arith (P := Tryd.prog) w .sub 22 .f64 x e1 d1 r1
  have rk2 := fun w => run_float_arith (P := Tryd.prog) w .mul 22 .f64 4611686018427387904 4495793288086814720 e2 r2
  have rk3 := fun w => run_float_arith (P := Tryd.prog) w .sub 22 .f64 d1 e2 d2 r3
  have rk4 := fun w => run_float_arith (P := Tryd.prog) w .mul 22 .f64 4611686018427387904 4388835458085048688 e3 r4
  have rk5 := fun w => run_float_arith (P := Tryd.prog) w .sub 22 .f64 d2 e3 z r5
  clear r0 r1 r2 r3 r4 r5
  have qk0 := fun w => run_float_arith (P := Tryd.prog) w .mul 22 .f64 z zz m q0
  have qk1 := fun w => run_float_arith (P := Tryd.prog) w .mul 22 .f64 4460209587652500685 zz p1 q1
  have qk2 := fun w => run_float_arith (P := Tryd.prog) w .add 22 .f64 p1 13716528389658582877 a1 q2
  have qk3 := fun w => run_float_arith (P := Tryd.prog) w .mul 22 .f64 a1 zz p2 q3
  have qk4 := fun w => run_float_arith (P := Tryd.prog) w .add 22 .f64 p2 4523617212962785441 a2 q4
  have qk5 := fun w => run_float_arith (P := Tryd.prog) w .mul 22 .f64 a2 zz p3 q5
  have qk6 := fun w => run_float_arith (P := Tryd.prog) w .add 22 .f64 p3 13774824197404483331 a3 q6
  have qk7 := fun w => run_float_arith (P := Tryd.prog) w .mul 22 .f64 a3 zz p4 q7
  have qk8 := fun w => run_float_arith (P := Tryd.prog) w .add 22 .f64 p4 4575957461383575504 a4 q8
  have qk9 := fun w => run_float_arith (P := Tryd.prog) w .mul 22 .f64 a4 zz p5 q9
  have qk10 := fun w => run_float_arith (P := Tryd.prog) w .add 22 .f64 p5 13818544856648471880 a5 q10
  have qk11 := fun w => run_float_arith (P := Tryd.prog) w .mul 22 .f64 m a5 t q11
  have qk12 := fun w => run_float_arith (P := Tryd.prog) w .add 22 .f64 z t r q12
  clear q0 q1 q2 q3 q4 q5 q6 q7 q8 q9 q10 q11 q12
  have km := fun w => run_float_arith (P := Tryd.prog) w .mul 22 .f64 x 4608412980311869571 mm hm
  have kz := fun w => run_float_arith (P := Tryd.prog) w .mul 22 .f64 z z zz hz
  have kj := fun w => run_convert_float_int (P := Tryd.prog) w 22 39 .f64 .u64 mm 1 (by kernel_rfl) (by kernel_rfl) hj
  have ki : floatOfInt .f64 1 = 4607182418800017408 := by decide +kernel
  have ko := fun w => run_float_arith (P := Tryd.prog) w .add 22 .f64 4607182418800017408 4607182418800017408 4611686018427387904 (by decide +kernel)
  have kn := neg_fl
  have wx : F.word false x = x := rfl
  have C35 := Lib.hid (fun w => nan23_c x w (by have := word_fin false x hx; rwa [wx] at this))
  have C39 := Lib.hid (fun w => inf27_c false x w hx)
  rw [wx] at C39
  have C41 := Lib.hid (fun w => abs31_c false x w hx)
  rw [wx] at C41
  have v1 : (FloatKind.f64.format.order x 4737786807993761792 == some .gt || FloatKind.f64.format.order x 4737786807993761792 == some .eq) = false := hg
  clear hm hj hz hx wx hg
  go_enter Tryd.func32, Tryd.ntmps32
  go_wp2_with first | (go_at_call 35; (with_reducible refine (C35.out _).mono ?_); rintro e w7 ⟨rfl, rfl⟩) | (go_at_call 39; (with_reducible refine (C39.out _).mono ?_); rintro e w7 ⟨rfl, rfl⟩) | (go_at_call 41; (with_reducible refine (C41.out _).mono ?_); rintro e w7 ⟨rfl, rfl⟩)
  go_ret
  exact ⟨rfl, rfl⟩
set_option maxRecDepth 100000 in
set_option maxHeartbeats 4000000 in
theorem cos_2 (x mm z zz r : Nat) (w : World) (hx : x < top) (hT : Tab w) (hg : geB x 4737786807993761792 = false) (hm : floatBits .mul .f64 x 4608412980311869571 = some mm) (hj : floatToIntVal .f64 mm .u64 = some 2) (hr : RedE x 4611686018427387904 z) (hz : floatBits .mul .f64 z z = some zz) (hE : SinE z zz r) : Calls Tryd.prog 32 #[.float .f64 x] w fun e w' => e = .returned (.float .f64 (negB r)) ∧ w = w' := by
  obtain ⟨e1, d1, e2, d2, e3, r0, r1, r2, r3, r4, r5⟩ := hr
  obtain ⟨m, p1, a1, p2, a2, p3, a3, p4, a4, p5, a5, t, q0, q1, q2, q3, q4, q5, q6, q7, q8, q9, q10, q11, q12⟩ := hE
  obtain ⟨g0, g1, g2, g3, g4, g5, f0, f1, f2, f3, f4, f5⟩ := hT
  have rk0 := fun w => run_float_arith (P := Tryd.prog) w .mul 22 .f64 4611686018427387904 4605249456957292544 e1 r0
  have rk1 := fun w => run_float_arith (P := Tryd.prog) w .sub 22 .f64 x e1 d1 r1
  have rk2 := fun w => run_float_arith (P := Tryd.prog) w .mul 22 .f64 4611686018427387904 4495793288086814720 e2 r2
  have rk3 := fun w => run_float_arith (P := Tryd.prog) w .sub 22 .f64 d1 e2 d2 r3
  have rk4 := fun w => run_float_arith (P := Tryd.prog) w .mul 22 .f64 4611686018427387904 4388835458085048688 e3 r4
  have rk5 := fun w => run_float_arith (P := Tryd.prog) w .sub 22 .f64 d2 e3 z r5
  clear r0 r1 r2 r3 r4 r5
  have qk0 := fun w => run_float_arith (P := Tryd.prog) w .mul 22 .f64 z zz m q0
  have qk1 := fun w => run_float_arith (P := Tryd.prog) w .mul 22 .f64 4460209587652500685 zz p1 q1
  have qk2 := fun w => run_float_arith (P := Tryd.prog) w .add 22 .f64 p1 13716528389658582877 a1 q2
  have qk3 := fun w => run_float_arith (P := Tryd.prog) w .mul 22 .f64 a1 zz p2 q3
  have qk4 := fun w => run_float_arith (P := Tryd.prog) w .add 22 .f64 p2 4523617212962785441 a2 q4
  have qk5 := fun w => run_float_arith (P := Tryd.prog) w .mul 22 .f64 a2 zz p3 q5
  have qk6 := fun w => run_float_arith (P := Tryd.prog) w .add 22 .f64 p3 13774824197404483331 a3 q6
  have qk7 := fun w => run_float_arith (P := Tryd.prog) w .mul 22 .f64 a3 zz p4 q7
  have qk8 := fun w => run_float_arith (P := Tryd.prog) w .add 22 .f64 p4 4575957461383575504 a4 q8
  have qk9 := fun w => run_float_arith (P := Tryd.prog) w .mul 22 .f64 a4 zz p5 q9
  have qk10 := fun w => run_float_arith (P := Tryd.prog) w .add 22 .f64 p5 13818544856648471880 a5 q10
  have qk11 := fun w => run_float_arith (P := Tryd.prog) w .mul 22 .f64 m a5 t q11
  have qk12 := fun w => run_float_arith (P := Tryd.prog) w .add 22 .f64 z t r q12
  clear q0 q1 q2 q3 q4 q5 q6 q7 q8 q9 q10 q11 q12
  have km := fun w => run_float_arith (P := Tryd.prog) w .mul 22 .f64 x 4608412980311869571 mm hm
  have kz := fun w => run_float_arith (P := Tryd.prog) w .mul 22 .f64 z z zz hz
  have kj := fun w => run_convert_float_int (P := Tryd.prog) w 22 39 .f64 .u64 mm 2 (by kernel_rfl) (by kernel_rfl) hj
  have ki : floatOfInt .f64 2 = 4611686018427387904 := by decide +kernel
  have kn := neg_fl
  have wx : F.word false x = x := rfl
  have C35 := Lib.hid (fun w => nan23_c x w (by have := word_fin false x hx; rwa [wx] at this))
  have C39 := Lib.hid (fun w => inf27_c false x w hx)
  rw [wx] at C39
  have C41 := Lib.hid (fun w => abs31_c false x w hx)
  rw [wx] at C41
  have v1 : (FloatKind.f64.format.order x 4737786807993761792 == some .gt || FloatKind.f64.format.order x 4737786807993761792 == some .eq) = false := hg
  clear hm hj hz hx wx hg
  go_enter Tryd.func32, Tryd.ntmps32
  go_wp2_with first | (go_at_call 35; (with_reducible refine (C35.out _).mono ?_); rintro e w7 ⟨rfl, rfl⟩) | (go_at_call 39; (with_reducible refine (C39.out _).mono ?_); rintro e w7 ⟨rfl, rfl⟩) | (go_at_call 41; (with_reducible refine (C41.out _).mono ?_); rintro e w7 ⟨rfl, rfl⟩)
  go_ret
  exact ⟨rfl, rfl⟩
set_option maxRecDepth 100000 in
set_option maxHeartbeats 4000000 in
theorem cos_3 (x mm z zz r : Nat) (w : World) (hx : x < top) (hT : Tab w) (hg : geB x 4737786807993761792 = false) (hm : floatBits .mul .f64 x 4608412980311869571 = some mm) (hj : floatToIntVal .f64 mm .u64 = some 3) (hr : RedE x 4616189618054758400 z) (hz : floatBits .mul .f64 z z = some zz) (hE : CosE z zz r) : Calls Tryd.prog 32 #[.float .f64 x] w fun e w' => e = .returned (.float .f64 (negB r)) ∧ w = w' := by
  obtain ⟨e1, d1, e2, d2, e3, r0, r1, r2, r3, r4, r5⟩ := hr
  obtain ⟨h, b, m, p1, a1, p2, a2, p3, a3, p4, a4, p5, a5, t, q0, q1, q2, q3, q4, q5, q6, q7, q8, q9, q10, q11, q12, q13, q14⟩ := hE
  obtain ⟨g0, g1, g2, g3, g4, g5, f0, f1, f2, f3, f4, f5⟩ := hT
  have rk0 := fun w => run_float_arith (P := Tryd.prog) w .mul 22 .f64 4616189618054758400 4605249456957292544 e1 r0
  have rk1 := fun w => run_float_arith (P := Tryd.prog) w .sub 22 .f64 x e1 d1 r1
  have rk2 := fun w => run_float_arith (P := Tryd.prog) w .mul 22 .f64 4616189618054758400 4495793288086814720 e2 r2
  have rk3 := fun w => run_float_arith (P := Tryd.prog) w .sub 22 .f64 d1 e2 d2 r3
  have rk4 := fun w => run_float_arith (P := Tryd.prog) w .mul 22 .f64 4616189618054758400 4388835458085048688 e3 r4
  have rk5 := fun w => run_float_arith (P := Tryd.prog) w .sub 22 .f64 d2 e3 z r5
  clear r0 r1 r2 r3 r4 r5
  have qk0 := fun w => run_float_arith (P := Tryd.prog) w .mul 22 .f64 4602678819172646912 zz h q0
  have qk1 := fun w => run_float_arith (P := Tryd.prog) w .sub 22 .f64 4607182418800017408 h b q1
  have qk2 := fun w => run_float_arith (P := Tryd.prog) w .mul 22 .f64 zz zz m q2
  have qk3 := fun w => run_float_arith (P := Tryd.prog) w .mul 22 .f64 13666448263388469915 zz p1 q3
  have qk4 := fun w => run_float_arith (P := Tryd.prog) w .add 22 .f64 p1 4477121864728985349 a1 q4
  have qk5 := fun w => run_float_arith (P := Tryd.prog) w .mul 22 .f64 a1 zz p2 q5
  have qk6 := fun w => run_float_arith (P := Tryd.prog) w .add 22 .f64 p2 13732177093698800582 a2 q6
  have qk7 := fun w => run_float_arith (P := Tryd.prog) w .mul 22 .f64 a2 zz p3 q7
  have qk8 := fun w => run_float_arith (P := Tryd.prog) w .add 22 .f64 p3 4537941361668146421 a3 q8
  have qk9 := fun w => run_float_arith (P := Tryd.prog) w .mul 22 .f64 a3 zz p4 q9
  have qk10 := fun w => run_float_arith (P := Tryd.prog) w .add 22 .f64 p4 13787419979223748497 a4 q10
  have qk11 := fun w => run_float_arith (P := Tryd.prog) w .mul 22 .f64 a4 zz p5 q11
  have qk12 := fun w => run_float_arith (P := Tryd.prog) w .add 22 .f64 p5 4586165620538955083 a5 q12
  have qk13 := fun w => run_float_arith (P := Tryd.prog) w .mul 22 .f64 m a5 t q13
  have qk14 := fun w => run_float_arith (P := Tryd.prog) w .add 22 .f64 b t r q14
  clear q0 q1 q2 q3 q4 q5 q6 q7 q8 q9 q10 q11 q12 q13 q14
  have km := fun w => run_float_arith (P := Tryd.prog) w .mul 22 .f64 x 4608412980311869571 mm hm
  have kz := fun w => run_float_arith (P := Tryd.prog) w .mul 22 .f64 z z zz hz
  have kj := fun w => run_convert_float_int (P := Tryd.prog) w 22 39 .f64 .u64 mm 3 (by kernel_rfl) (by kernel_rfl) hj
  have ki : floatOfInt .f64 3 = 4613937818241073152 := by decide +kernel
  have ko := fun w => run_float_arith (P := Tryd.prog) w .add 22 .f64 4613937818241073152 4607182418800017408 4616189618054758400 (by decide +kernel)
  have kn := neg_fl
  have wx : F.word false x = x := rfl
  have C35 := Lib.hid (fun w => nan23_c x w (by have := word_fin false x hx; rwa [wx] at this))
  have C39 := Lib.hid (fun w => inf27_c false x w hx)
  rw [wx] at C39
  have C41 := Lib.hid (fun w => abs31_c false x w hx)
  rw [wx] at C41
  have v1 : (FloatKind.f64.format.order x 4737786807993761792 == some .gt || FloatKind.f64.format.order x 4737786807993761792 == some .eq) = false := hg
  clear hm hj hz hx wx hg
  go_enter Tryd.func32, Tryd.ntmps32
  go_wp2_with first | (go_at_call 35; (with_reducible refine (C35.out _).mono ?_); rintro e w7 ⟨rfl, rfl⟩) | (go_at_call 39; (with_reducible refine (C39.out _).mono ?_); rintro e w7 ⟨rfl, rfl⟩) | (go_at_call 41; (with_reducible refine (C41.out _).mono ?_); rintro e w7 ⟨rfl, rfl⟩)
  go_ret
  exact ⟨rfl, rfl⟩
set_option maxRecDepth 100000 in
set_option maxHeartbeats 4000000 in
theorem cos_4 (x mm z zz r : Nat) (w : World) (hx : x < top) (hT : Tab w) (hg : geB x 4737786807993761792 = false) (hm : floatBits .mul .f64 x 4608412980311869571 = some mm) (hj : floatToIntVal .f64 mm .u64 = some 4) (hr : RedE x 4616189618054758400 z) (hz : floatBits .mul .f64 z z = some zz) (hE : CosE z zz r) : Calls Tryd.prog 32 #[.float .f64 x] w fun e w' => e = .returned (.float .f64 (negB r)) ∧ w = w' := by
  obtain ⟨e1, d1, e2, d2, e3, r0, r1, r2, r3, r4, r5⟩ := hr
  obtain ⟨h, b, m, p1, a1, p2, a2, p3, a3, p4, a4, p5, a5, t, q0, q1, q2, q3, q4, q5, q6, q7, q8, q9, q10, q11, q12, q13, q14⟩ := hE
  obtain ⟨g0, g1, g2, g3, g4, g5, f0, f1, f2, f3, f4, f5⟩ := hT
  have rk0 := fun w => run_float_arith (P := Tryd.prog) w .mul 22 .f64 4616189618054758400 4605249456957292544 e1 r0
  have rk1 := fun w => run_float_arith (P := Tryd.prog) w .sub 22 .f64 x e1 d1 r1
  have rk2 := fun w => run_float_arith (P := Tryd.prog) w .mul 22 .f64 4616189618054758400 4495793288086814720 e2 r2
  have rk3 := fun w => run_float_arith (P := Tryd.prog) w .sub 22 .f64 d1 e2 d2 r3
  have rk4 := fun w => run_float_arith (P := Tryd.prog) w .mul 22 .f64 4616189618054758400 4388835458085048688 e3 r4
  have rk5 := fun w => run_float_arith (P := Tryd.prog) w .sub 22 .f64 d2 e3 z r5
  clear r0 r1 r2 r3 r4 r5
  have qk0 := fun w => run_float_arith (P := Tryd.prog) w .mul 22 .f64 4602678819172646912 zz h q0
  have qk1 := fun w => run_float_arith (P := Tryd.prog) w .sub 22 .f64 4607182418800017408 h b q1
  have qk2 := fun w => run_float_arith (P := Tryd.prog) w .mul 22 .f64 zz zz m q2
  have qk3 := fun w => run_float_arith (P := Tryd.prog) w .mul 22 .f64 13666448263388469915 zz p1 q3
  have qk4 := fun w => run_float_arith (P := Tryd.prog) w .add 22 .f64 p1 4477121864728985349 a1 q4
  have qk5 := fun w => run_float_arith (P := Tryd.prog) w .mul 22 .f64 a1 zz p2 q5
  have qk6 := fun w => run_float_arith (P := Tryd.prog) w .add 22 .f64 p2 13732177093698800582 a2 q6
  have qk7 := fun w => run_float_arith (P := Tryd.prog) w .mul 22 .f64 a2 zz p3 q7
  have qk8 := fun w => run_float_arith (P := Tryd.prog) w .add 22 .f64 p3 4537941361668146421 a3 q8
  have qk9 := fun w => run_float_arith (P := Tryd.prog) w .mul 22 .f64 a3 zz p4 q9
  have qk10 := fun w => run_float_arith (P := Tryd.prog) w .add 22 .f64 p4 13787419979223748497 a4 q10
  have qk11 := fun w => run_float_arith (P := Tryd.prog) w .mul 22 .f64 a4 zz p5 q11
  have qk12 := fun w => run_float_arith (P := Tryd.prog) w .add 22 .f64 p5 4586165620538955083 a5 q12
  have qk13 := fun w => run_float_arith (P := Tryd.prog) w .mul 22 .f64 m a5 t q13
  have qk14 := fun w => run_float_arith (P := Tryd.prog) w .add 22 .f64 b t r q14
  clear q0 q1 q2 q3 q4 q5 q6 q7 q8 q9 q10 q11 q12 q13 q14
  have km := fun w => run_float_arith (P := Tryd.prog) w .mul 22 .f64 x 4608412980311869571 mm hm
  have kz := fun w => run_float_arith (P := Tryd.prog) w .mul 22 .f64 z z zz hz
  have kj := fun w => run_convert_float_int (P := Tryd.prog) w 22 39 .f64 .u64 mm 4 (by kernel_rfl) (by kernel_rfl) hj
  have ki : floatOfInt .f64 4 = 4616189618054758400 := by decide +kernel
  have kn := neg_fl
  have wx : F.word false x = x := rfl
  have C35 := Lib.hid (fun w => nan23_c x w (by have := word_fin false x hx; rwa [wx] at this))
  have C39 := Lib.hid (fun w => inf27_c false x w hx)
  rw [wx] at C39
  have C41 := Lib.hid (fun w => abs31_c false x w hx)
  rw [wx] at C41
  have v1 : (FloatKind.f64.format.order x 4737786807993761792 == some .gt || FloatKind.f64.format.order x 4737786807993761792 == some .eq) = false := hg
  clear hm hj hz hx wx hg
  go_enter Tryd.func32, Tryd.ntmps32
  go_wp2_with first | (go_at_call 35; (with_reducible refine (C35.out _).mono ?_); rintro e w7 ⟨rfl, rfl⟩) | (go_at_call 39; (with_reducible refine (C39.out _).mono ?_); rintro e w7 ⟨rfl, rfl⟩) | (go_at_call 41; (with_reducible refine (C41.out _).mono ?_); rintro e w7 ⟨rfl, rfl⟩)
  go_ret
  exact ⟨rfl, rfl⟩
set_option maxRecDepth 100000 in
set_option maxHeartbeats 4000000 in
theorem cos_5 (x mm z zz r : Nat) (w : World) (hx : x < top) (hT : Tab w) (hg : geB x 4737786807993761792 = false) (hm : floatBits .mul .f64 x 4608412980311869571 = some mm) (hj : floatToIntVal .f64 mm .u64 = some 5) (hr : RedE x 4618441417868443648 z) (hz : floatBits .mul .f64 z z = some zz) (hE : SinE z zz r) : Calls Tryd.prog 32 #[.float .f64 x] w fun e w' => e = .returned (.float .f64 r) ∧ w = w' := by
  obtain ⟨e1, d1, e2, d2, e3, r0, r1, r2, r3, r4, r5⟩ := hr
  obtain ⟨m, p1, a1, p2, a2, p3, a3, p4, a4, p5, a5, t, q0, q1, q2, q3, q4, q5, q6, q7, q8, q9, q10, q11, q12⟩ := hE
  obtain ⟨g0, g1, g2, g3, g4, g5, f0, f1, f2, f3, f4, f5⟩ := hT
  have rk0 := fun w => run_float_arith (P := Tryd.prog) w .mul 22 .f64 4618441417868443648 4605249456957292544 e1 r0
  have rk1 := fun w => run_float_arith (P := Tryd.prog) w .sub 22 .f64 x e1 d1 r1
  have rk2 := fun w => run_float_arith (P := Tryd.prog) w .mul 22 .f64 4618441417868443648 4495793288086814720 e2 r2
  have rk3 := fun w => run_float_arith (P := Tryd.prog) w .sub 22 .f64 d1 e2 d2 r3
  have rk4 := fun w => run_float_arith (P := Tryd.prog) w .mul 22 .f64 4618441417868443648 4388835458085048688 e3 r4
  have rk5 := fun w => run_float_arith (P := Tryd.prog) w .sub 22 .f64 d2 e3 z r5
  clear r0 r1 r2 r3 r4 r5
  have qk0 := fun w => run_float_arith (P := Tryd.prog) w .mul 22 .f64 z zz m q0
  have qk1 := fun w => run_float_arith (P := Tryd.prog) w .mul 22 .f64 4460209587652500685 zz p1 q1
  have qk2 := fun w => run_float_arith (P := Tryd.prog) w .add 22 .f64 p1 13716528389658582877 a1 q2
  have qk3 := fun w => run_float_arith (P := Tryd.prog) w .mul 22 .f64 a1 zz p2 q3
  have qk4 := fun w => run_float_arith (P := Tryd.prog) w .add 22 .f64 p2 4523617212962785441 a2 q4
  have qk5 := fun w => run_float_arith (P := Tryd.prog) w .mul 22 .f64 a2 zz p3 q5
  have qk6 := fun w => run_float_arith (P := Tryd.prog) w .add 22 .f64 p3 13774824197404483331 a3 q6
  have qk7 := fun w => run_float_arith (P := Tryd.prog) w .mul 22 .f64 a3 zz p4 q7
  have qk8 := fun w => run_float_arith (P := Tryd.prog) w .add 22 .f64 p4 4575957461383575504 a4 q8
  have qk9 := fun w => run_float_arith (P := Tryd.prog) w .mul 22 .f64 a4 zz p5 q9
  have qk10 := fun w => run_float_arith (P := Tryd.prog) w .add 22 .f64 p5 13818544856648471880 a5 q10
  have qk11 := fun w => run_float_arith (P := Tryd.prog) w .mul 22 .f64 m a5 t q11
  have qk12 := fun w => run_float_arith (P := Tryd.prog) w .add 22 .f64 z t r q12
  clear q0 q1 q2 q3 q4 q5 q6 q7 q8 q9 q10 q11 q12
  have km := fun w => run_float_arith (P := Tryd.prog) w .mul 22 .f64 x 4608412980311869571 mm hm
  have kz := fun w => run_float_arith (P := Tryd.prog) w .mul 22 .f64 z z zz hz
  have kj := fun w => run_convert_float_int (P := Tryd.prog) w 22 39 .f64 .u64 mm 5 (by kernel_rfl) (by kernel_rfl) hj
  have ki : floatOfInt .f64 5 = 4617315517961601024 := by decide +kernel
  have ko := fun w => run_float_arith (P := Tryd.prog) w .add 22 .f64 4617315517961601024 4607182418800017408 4618441417868443648 (by decide +kernel)
  have wx : F.word false x = x := rfl
  have C35 := Lib.hid (fun w => nan23_c x w (by have := word_fin false x hx; rwa [wx] at this))
  have C39 := Lib.hid (fun w => inf27_c false x w hx)
  rw [wx] at C39
  have C41 := Lib.hid (fun w => abs31_c false x w hx)
  rw [wx] at C41
  have v1 : (FloatKind.f64.format.order x 4737786807993761792 == some .gt || FloatKind.f64.format.order x 4737786807993761792 == some .eq) = false := hg
  clear hm hj hz hx wx hg
  go_enter Tryd.func32, Tryd.ntmps32
  go_wp2_with first | (go_at_call 35; (with_reducible refine (C35.out _).mono ?_); rintro e w7 ⟨rfl, rfl⟩) | (go_at_call 39; (with_reducible refine (C39.out _).mono ?_); rintro e w7 ⟨rfl, rfl⟩) | (go_at_call 41; (with_reducible refine (C41.out _).mono ?_); rintro e w7 ⟨rfl, rfl⟩)
  go_ret
  exact ⟨rfl, rfl⟩
set_option maxRecDepth 100000 in
set_option maxHeartbeats 4000000 in
theorem cos_6 (x mm z zz r : Nat) (w : World) (hx : x < top) (hT : Tab w) (hg : geB x 4737786807993761792 = false) (hm : floatBits .mul .f64 x 4608412980311869571 = some mm) (hj : floatToIntVal .f64 mm .u64 = some 6) (hr : RedE x 4618441417868443648 z) (hz : floatBits .mul .f64 z z = some zz) (hE : SinE z zz r) : Calls Tryd.prog 32 #[.float .f64 x] w fun e w' => e = .returned (.float .f64 r) ∧ w = w' := by
  obtain ⟨e1, d1, e2, d2, e3, r0, r1, r2, r3, r4, r5⟩ := hr
  obtain ⟨m, p1, a1, p2, a2, p3, a3, p4, a4, p5, a5, t, q0, q1, q2, q3, q4, q5, q6, q7, q8, q9, q10, q11, q12⟩ := hE
  obtain ⟨g0, g1, g2, g3, g4, g5, f0, f1, f2, f3, f4, f5⟩ := hT
  have rk0 := fun w => run_float_arith (P := Tryd.prog) w .mul 22 .f64 4618441417868443648 4605249456957292544 e1 r0
  have rk1 := fun w => run_float_arith (P := Tryd.prog) w .sub 22 .f64 x e1 d1 r1
  have rk2 := fun w => run_float_arith (P := Tryd.prog) w .mul 22 .f64 4618441417868443648 4495793288086814720 e2 r2
  have rk3 := fun w => run_float_arith (P := Tryd.prog) w .sub 22 .f64 d1 e2 d2 r3
  have rk4 := fun w => run_float_arith (P := Tryd.prog) w .mul 22 .f64 4618441417868443648 4388835458085048688 e3 r4
  have rk5 := fun w => run_float_arith (P := Tryd.prog) w .sub 22 .f64 d2 e3 z r5
  clear r0 r1 r2 r3 r4 r5
  have qk0 := fun w => run_float_arith (P := Tryd.prog) w .mul 22 .f64 z zz m q0
  have qk1 := fun w => run_float_arith (P := Tryd.prog) w .mul 22 .f64 4460209587652500685 zz p1 q1
  have qk2 := fun w => run_float_arith (P := Tryd.prog) w .add 22 .f64 p1 13716528389658582877 a1 q2
  have qk3 := fun w => run_float_arith (P := Tryd.prog) w .mul 22 .f64 a1 zz p2 q3
  have qk4 := fun w => run_float_arith (P := Tryd.prog) w .add 22 .f64 p2 4523617212962785441 a2 q4
  have qk5 := fun w => run_float_arith (P := Tryd.prog) w .mul 22 .f64 a2 zz p3 q5
  have qk6 := fun w => run_float_arith (P := Tryd.prog) w .add 22 .f64 p3 13774824197404483331 a3 q6
  have qk7 := fun w => run_float_arith (P := Tryd.prog) w .mul 22 .f64 a3 zz p4 q7
  have qk8 := fun w => run_float_arith (P := Tryd.prog) w .add 22 .f64 p4 4575957461383575504 a4 q8
  have qk9 := fun w => run_float_arith (P := Tryd.prog) w .mul 22 .f64 a4 zz p5 q9
  have qk10 := fun w => run_float_arith (P := Tryd.prog) w .add 22 .f64 p5 13818544856648471880 a5 q10
  have qk11 := fun w => run_float_arith (P := Tryd.prog) w .mul 22 .f64 m a5 t q11
  have qk12 := fun w => run_float_arith (P := Tryd.prog) w .add 22 .f64 z t r q12
  clear q0 q1 q2 q3 q4 q5 q6 q7 q8 q9 q10 q11 q12
  have km := fun w => run_float_arith (P := Tryd.prog) w .mul 22 .f64 x 4608412980311869571 mm hm
  have kz := fun w => run_float_arith (P := Tryd.prog) w .mul 22 .f64 z z zz hz
  have kj := fun w => run_convert_float_int (P := Tryd.prog) w 22 39 .f64 .u64 mm 6 (by kernel_rfl) (by kernel_rfl) hj
  have ki : floatOfInt .f64 6 = 4618441417868443648 := by decide +kernel
  have wx : F.word false x = x := rfl
  have C35 := Lib.hid (fun w => nan23_c x w (by have := word_fin false x hx; rwa [wx] at this))
  have C39 := Lib.hid (fun w => inf27_c false x w hx)
  rw [wx] at C39
  have C41 := Lib.hid (fun w => abs31_c false x w hx)
  rw [wx] at C41
  have v1 : (FloatKind.f64.format.order x 4737786807993761792 == some .gt || FloatKind.f64.format.order x 4737786807993761792 == some .eq) = false := hg
  clear hm hj hz hx wx hg
  go_enter Tryd.func32, Tryd.ntmps32
  go_wp2_with first | (go_at_call 35; (with_reducible refine (C35.out _).mono ?_); rintro e w7 ⟨rfl, rfl⟩) | (go_at_call 39; (with_reducible refine (C39.out _).mono ?_); rintro e w7 ⟨rfl, rfl⟩) | (go_at_call 41; (with_reducible refine (C41.out _).mono ?_); rintro e w7 ⟨rfl, rfl⟩)
  go_ret
  exact ⟨rfl, rfl⟩
set_option maxRecDepth 100000 in
set_option maxHeartbeats 4000000 in
theorem cos_7 (x mm z zz r : Nat) (w : World) (hx : x < top) (hT : Tab w) (hg : geB x 4737786807993761792 = false) (hm : floatBits .mul .f64 x 4608412980311869571 = some mm) (hj : floatToIntVal .f64 mm .u64 = some 7) (hr : RedE x 4620693217682128896 z) (hz : floatBits .mul .f64 z z = some zz) (hE : CosE z zz r) : Calls Tryd.prog 32 #[.float .f64 x] w fun e w' => e = .returned (.float .f64 r) ∧ w = w' := by
  obtain ⟨e1, d1, e2, d2, e3, r0, r1, r2, r3, r4, r5⟩ := hr
  obtain ⟨h, b, m, p1, a1, p2, a2, p3, a3, p4, a4, p5, a5, t, q0, q1, q2, q3, q4, q5, q6, q7, q8, q9, q10, q11, q12, q13, q14⟩ := hE
  obtain ⟨g0, g1, g2, g3, g4, g5, f0, f1, f2, f3, f4, f5⟩ := hT
  have rk0 := fun w => run_float_arith (P := Tryd.prog) w .mul 22 .f64 4620693217682128896 4605249456957292544 e1 r0
  have rk1 := fun w => run_float_arith (P := Tryd.prog) w .sub 22 .f64 x e1 d1 r1
  have rk2 := fun w => run_float_arith (P := Tryd.prog) w .mul 22 .f64 4620693217682128896 4495793288086814720 e2 r2
  have rk3 := fun w => run_float_arith (P := Tryd.prog) w .sub 22 .f64 d1 e2 d2 r3
  have rk4 := fun w => run_float_arith (P := Tryd.prog) w .mul 22 .f64 4620693217682128896 4388835458085048688 e3 r4
  have rk5 := fun w => run_float_arith (P := Tryd.prog) w .sub 22 .f64 d2 e3 z r5
  clear r0 r1 r2 r3 r4 r5
  have qk0 := fun w => run_float_arith (P := Tryd.prog) w .mul 22 .f64 4602678819172646912 zz h q0
  have qk1 := fun w => run_float_arith (P := Tryd.prog) w .sub 22 .f64 4607182418800017408 h b q1
  have qk2 := fun w => run_float_arith (P := Tryd.prog) w .mul 22 .f64 zz zz m q2
  have qk3 := fun w => run_float_arith (P := Tryd.prog) w .mul 22 .f64 13666448263388469915 zz p1 q3
  have qk4 := fun w => run_float_arith (P := Tryd.prog) w .add 22 .f64 p1 4477121864728985349 a1 q4
  have qk5 := fun w => run_float_arith (P := Tryd.prog) w .mul 22 .f64 a1 zz p2 q5
  have qk6 := fun w => run_float_arith (P := Tryd.prog) w .add 22 .f64 p2 13732177093698800582 a2 q6
  have qk7 := fun w => run_float_arith (P := Tryd.prog) w .mul 22 .f64 a2 zz p3 q7
  have qk8 := fun w => run_float_arith (P := Tryd.prog) w .add 22 .f64 p3 4537941361668146421 a3 q8
  have qk9 := fun w => run_float_arith (P := Tryd.prog) w .mul 22 .f64 a3 zz p4 q9
  have qk10 := fun w => run_float_arith (P := Tryd.prog) w .add 22 .f64 p4 13787419979223748497 a4 q10
  have qk11 := fun w => run_float_arith (P := Tryd.prog) w .mul 22 .f64 a4 zz p5 q11
  have qk12 := fun w => run_float_arith (P := Tryd.prog) w .add 22 .f64 p5 4586165620538955083 a5 q12
  have qk13 := fun w => run_float_arith (P := Tryd.prog) w .mul 22 .f64 m a5 t q13
  have qk14 := fun w => run_float_arith (P := Tryd.prog) w .add 22 .f64 b t r q14
  clear q0 q1 q2 q3 q4 q5 q6 q7 q8 q9 q10 q11 q12 q13 q14
  have km := fun w => run_float_arith (P := Tryd.prog) w .mul 22 .f64 x 4608412980311869571 mm hm
  have kz := fun w => run_float_arith (P := Tryd.prog) w .mul 22 .f64 z z zz hz
  have kj := fun w => run_convert_float_int (P := Tryd.prog) w 22 39 .f64 .u64 mm 7 (by kernel_rfl) (by kernel_rfl) hj
  have ki : floatOfInt .f64 7 = 4619567317775286272 := by decide +kernel
  have ko := fun w => run_float_arith (P := Tryd.prog) w .add 22 .f64 4619567317775286272 4607182418800017408 4620693217682128896 (by decide +kernel)
  have wx : F.word false x = x := rfl
  have C35 := Lib.hid (fun w => nan23_c x w (by have := word_fin false x hx; rwa [wx] at this))
  have C39 := Lib.hid (fun w => inf27_c false x w hx)
  rw [wx] at C39
  have C41 := Lib.hid (fun w => abs31_c false x w hx)
  rw [wx] at C41
  have v1 : (FloatKind.f64.format.order x 4737786807993761792 == some .gt || FloatKind.f64.format.order x 4737786807993761792 == some .eq) = false := hg
  clear hm hj hz hx wx hg
  go_enter Tryd.func32, Tryd.ntmps32
  go_wp2_with first | (go_at_call 35; (with_reducible refine (C35.out _).mono ?_); rintro e w7 ⟨rfl, rfl⟩) | (go_at_call 39; (with_reducible refine (C39.out _).mono ?_); rintro e w7 ⟨rfl, rfl⟩) | (go_at_call 41; (with_reducible refine (C41.out _).mono ?_); rintro e w7 ⟨rfl, rfl⟩)
  go_ret
  exact ⟨rfl, rfl⟩
set_option maxRecDepth 100000 in
set_option maxHeartbeats 4000000 in
theorem cos_8 (x mm z zz r : Nat) (w : World) (hx : x < top) (hT : Tab w) (hg : geB x 4737786807993761792 = false) (hm : floatBits .mul .f64 x 4608412980311869571 = some mm) (hj : floatToIntVal .f64 mm .u64 = some 8) (hr : RedE x 4620693217682128896 z) (hz : floatBits .mul .f64 z z = some zz) (hE : CosE z zz r) : Calls Tryd.prog 32 #[.float .f64 x] w fun e w' => e = .returned (.float .f64 r) ∧ w = w' := by
  obtain ⟨e1, d1, e2, d2, e3, r0, r1, r2, r3, r4, r5⟩ := hr
  obtain ⟨h, b, m, p1, a1, p2, a2, p3, a3, p4, a4, p5, a5, t, q0, q1, q2, q3, q4, q5, q6, q7, q8, q9, q10, q11, q12, q13, q14⟩ := hE
  obtain ⟨g0, g1, g2, g3, g4, g5, f0, f1, f2, f3, f4, f5⟩ := hT
  have rk0 := fun w => run_float_arith (P := Tryd.prog) w .mul 22 .f64 4620693217682128896 4605249456957292544 e1 r0
  have rk1 := fun w => run_float_arith (P := Tryd.prog) w .sub 22 .f64 x e1 d1 r1
  have rk2 := fun w => run_float_arith (P := Tryd.prog) w .mul 22 .f64 4620693217682128896 4495793288086814720 e2 r2
  have rk3 := fun w => run_float_arith (P := Tryd.prog) w .sub 22 .f64 d1 e2 d2 r3
  have rk4 := fun w => run_float_arith (P := Tryd.prog) w .mul 22 .f64 4620693217682128896 4388835458085048688 e3 r4
  have rk5 := fun w => run_float_arith (P := Tryd.prog) w .sub 22 .f64 d2 e3 z r5
  clear r0 r1 r2 r3 r4 r5
  have qk0 := fun w => run_float_arith (P := Tryd.prog) w .mul 22 .f64 4602678819172646912 zz h q0
  have qk1 := fun w => run_float_arith (P := Tryd.prog) w .sub 22 .f64 4607182418800017408 h b q1
  have qk2 := fun w => run_float_arith (P := Tryd.prog) w .mul 22 .f64 zz zz m q2
  have qk3 := fun w => run_float_arith (P := Tryd.prog) w .mul 22 .f64 13666448263388469915 zz p1 q3
  have qk4 := fun w => run_float_arith (P := Tryd.prog) w .add 22 .f64 p1 4477121864728985349 a1 q4
  have qk5 := fun w => run_float_arith (P := Tryd.prog) w .mul 22 .f64 a1 zz p2 q5
  have qk6 := fun w => run_float_arith (P := Tryd.prog) w .add 22 .f64 p2 13732177093698800582 a2 q6
  have qk7 := fun w => run_float_arith (P := Tryd.prog) w .mul 22 .f64 a2 zz p3 q7
  have qk8 := fun w => run_float_arith (P := Tryd.prog) w .add 22 .f64 p3 4537941361668146421 a3 q8
  have qk9 := fun w => run_float_arith (P := Tryd.prog) w .mul 22 .f64 a3 zz p4 q9
  have qk10 := fun w => run_float_arith (P := Tryd.prog) w .add 22 .f64 p4 13787419979223748497 a4 q10
  have qk11 := fun w => run_float_arith (P := Tryd.prog) w .mul 22 .f64 a4 zz p5 q11
  have qk12 := fun w => run_float_arith (P := Tryd.prog) w .add 22 .f64 p5 4586165620538955083 a5 q12
  have qk13 := fun w => run_float_arith (P := Tryd.prog) w .mul 22 .f64 m a5 t q13
  have qk14 := fun w => run_float_arith (P := Tryd.prog) w .add 22 .f64 b t r q14
  clear q0 q1 q2 q3 q4 q5 q6 q7 q8 q9 q10 q11 q12 q13 q14
  have km := fun w => run_float_arith (P := Tryd.prog) w .mul 22 .f64 x 4608412980311869571 mm hm
  have kz := fun w => run_float_arith (P := Tryd.prog) w .mul 22 .f64 z z zz hz
  have kj := fun w => run_convert_float_int (P := Tryd.prog) w 22 39 .f64 .u64 mm 8 (by kernel_rfl) (by kernel_rfl) hj
  have ki : floatOfInt .f64 8 = 4620693217682128896 := by decide +kernel
  have wx : F.word false x = x := rfl
  have C35 := Lib.hid (fun w => nan23_c x w (by have := word_fin false x hx; rwa [wx] at this))
  have C39 := Lib.hid (fun w => inf27_c false x w hx)
  rw [wx] at C39
  have C41 := Lib.hid (fun w => abs31_c false x w hx)
  rw [wx] at C41
  have v1 : (FloatKind.f64.format.order x 4737786807993761792 == some .gt || FloatKind.f64.format.order x 4737786807993761792 == some .eq) = false := hg
  clear hm hj hz hx wx hg
  go_enter Tryd.func32, Tryd.ntmps32
  go_wp2_with first | (go_at_call 35; (with_reducible refine (C35.out _).mono ?_); rintro e w7 ⟨rfl, rfl⟩) | (go_at_call 39; (with_reducible refine (C39.out _).mono ?_); rintro e w7 ⟨rfl, rfl⟩) | (go_at_call 41; (with_reducible refine (C41.out _).mono ?_); rintro e w7 ⟨rfl, rfl⟩)
  go_ret
  exact ⟨rfl, rfl⟩
set_option maxRecDepth 100000 in
set_option maxHeartbeats 4000000 in
theorem sin_0 (x mm z zz r : Nat) (w : World) (hx : x < top) (hT : Tab w) (hg : geB x 4737786807993761792 = false) (hm : floatBits .mul .f64 x 4608412980311869571 = some mm) (hj : floatToIntVal .f64 mm .u64 = some 0) (hr : RedE x 0 z) (hz : floatBits .mul .f64 z z = some zz) (hE : SinE z zz r) (he : eqB x 0 = false) (hl : ltB x 0 = false) : Calls Tryd.prog 34 #[.float .f64 x] w fun e w' => e = .returned (.float .f64 r) ∧ w = w' := by
  obtain ⟨e1, d1, e2, d2, e3, r0, r1, r2, r3, r4, r5⟩ := hr
  obtain ⟨m, p1, a1, p2, a2, p3, a3, p4, a4, p5, a5, t, q0, q1, q2, q3, q4, q5, q6, q7, q8, q9, q10, q11, q12⟩ := hE
  obtain ⟨g0, g1, g2, g3, g4, g5, f0, f1, f2, f3, f4, f5⟩ := hT
  have rk0 := fun w => run_float_arith (P := Tryd.prog) w .mul 22 .f64 0 4605249456957292544 e1 r0
  have rk1 := fun w => run_float_arith (P := Tryd.prog) w .sub 22 .f64 x e1 d1 r1
  have rk2 := fun w => run_float_arith (P := Tryd.prog) w .mul 22 .f64 0 4495793288086814720 e2 r2
  have rk3 := fun w => run_float_arith (P := Tryd.prog) w .sub 22 .f64 d1 e2 d2 r3
  have rk4 := fun w => run_float_arith (P := Tryd.prog) w .mul 22 .f64 0 4388835458085048688 e3 r4
  have rk5 := fun w => run_float_arith (P := Tryd.prog) w .sub 22 .f64 d2 e3 z r5
  clear r0 r1 r2 r3 r4 r5
  have qk0 := fun w => run_float_arith (P := Tryd.prog) w .mul 22 .f64 z zz m q0
  have qk1 := fun w => run_float_arith (P := Tryd.prog) w .mul 22 .f64 4460209587652500685 zz p1 q1
  have qk2 := fun w => run_float_arith (P := Tryd.prog) w .add 22 .f64 p1 13716528389658582877 a1 q2
  have qk3 := fun w => run_float_arith (P := Tryd.prog) w .mul 22 .f64 a1 zz p2 q3
  have qk4 := fun w => run_float_arith (P := Tryd.prog) w .add 22 .f64 p2 4523617212962785441 a2 q4
  have qk5 := fun w => run_float_arith (P := Tryd.prog) w .mul 22 .f64 a2 zz p3 q5
  have qk6 := fun w => run_float_arith (P := Tryd.prog) w .add 22 .f64 p3 13774824197404483331 a3 q6
  have qk7 := fun w => run_float_arith (P := Tryd.prog) w .mul 22 .f64 a3 zz p4 q7
  have qk8 := fun w => run_float_arith (P := Tryd.prog) w .add 22 .f64 p4 4575957461383575504 a4 q8
  have qk9 := fun w => run_float_arith (P := Tryd.prog) w .mul 22 .f64 a4 zz p5 q9
  have qk10 := fun w => run_float_arith (P := Tryd.prog) w .add 22 .f64 p5 13818544856648471880 a5 q10
  have qk11 := fun w => run_float_arith (P := Tryd.prog) w .mul 22 .f64 m a5 t q11
  have qk12 := fun w => run_float_arith (P := Tryd.prog) w .add 22 .f64 z t r q12
  clear q0 q1 q2 q3 q4 q5 q6 q7 q8 q9 q10 q11 q12
  have km := fun w => run_float_arith (P := Tryd.prog) w .mul 22 .f64 x 4608412980311869571 mm hm
  have kz := fun w => run_float_arith (P := Tryd.prog) w .mul 22 .f64 z z zz hz
  have kj := fun w => run_convert_float_int (P := Tryd.prog) w 22 39 .f64 .u64 mm 0 (by kernel_rfl) (by kernel_rfl) hj
  have ki : floatOfInt .f64 0 = 0 := by decide +kernel
  have wx : F.word false x = x := rfl
  have C35 := Lib.hid (fun w => nan23_c x w (by have := word_fin false x hx; rwa [wx] at this))
  have C39 := Lib.hid (fun w => inf27_c false x w hx)
  rw [wx] at C39
  have v1 : (FloatKind.f64.format.order x 4737786807993761792 == some .gt || FloatKind.f64.format.order x 4737786807993761792 == some .eq) = false := hg
  have v2 : (FloatKind.f64.format.order x 0 == some .eq) = false := he
  have v3 : (FloatKind.f64.format.order x 0 == some .lt) = false := hl
  clear hm hj hz hx wx hg he hl
  go_enter Tryd.func34, Tryd.ntmps34
  go_wp2_with first | (go_at_call 35; (with_reducible refine (C35.out _).mono ?_); rintro e w7 ⟨rfl, rfl⟩) | (go_at_call 39; (with_reducible refine (C39.out _).mono ?_); rintro e w7 ⟨rfl, rfl⟩) | (go_at_call 41; (with_reducible refine (C41.out _).mono ?_); rintro e w7 ⟨rfl, rfl⟩)
  go_ret
  exact ⟨rfl, rfl⟩
set_option maxRecDepth 100000 in
set_option maxHeartbeats 4000000 in
theorem sin_1 (x mm z zz r : Nat) (w : World) (hx : x < top) (hT : Tab w) (hg : geB x 4737786807993761792 = false) (hm : floatBits .mul .f64 x 4608412980311869571 = some mm) (hj : floatToIntVal .f64 mm .u64 = some 1) (hr : RedE x 4611686018427387904 z) (hz : floatBits .mul .f64 z z = some zz) (hE : CosE z zz r) (he : eqB x 0 = false) (hl : ltB x 0 = false) : Calls Tryd.prog 34 #[.float .f64 x] w fun e w' => e = .returned (.float .f64 r) ∧ w = w' := by
  obtain ⟨e1, d1, e2, d2, e3, r0, r1, r2, r3, r4, r5⟩ := hr
  obtain ⟨h, b, m, p1, a1, p2, a2, p3, a3, p4, a4, p5, a5, t, q0, q1, q2, q3, q4, q5, q6, q7, q8, q9, q10, q11, q12, q13, q14⟩ := hE
  obtain ⟨g0, g1, g2, g3, g4, g5, f0, f1, f2, f3, f4, f5⟩ := hT
  have rk0 := fun w => run_float_arith (P := Tryd.prog) w .mul 22 .f64 4611686018427387904 4605249456957292544 e1 r0
  have rk1 := fun w => run_float_arith (P := Tryd.prog) w .sub 22 .f64 x e1 d1 r1
  have rk2 := fun w => run_float_arith (P := Tryd.prog) w .mul 22 .f64 4611686018427387904 4495793288086814720 e2 r2
  have rk3 := fun w => run_float_arith (P := Tryd.prog) w .sub 22 .f64 d1 e2 d2 r3
  have rk4 := fun w => run_float_arith (P := Tryd.prog) w .mul 22 .f64 4611686018427387904 4388835458085048688 e3 r4
  have rk5 := fun w => run_float_arith (P := Tryd.prog) w .sub 22 .f64 d2 e3 z r5
  clear r0 r1 r2 r3 r4 r5
  have qk0 := fun w => run_float_arith (P := Tryd.prog) w .mul 22 .f64 4602678819172646912 zz h q0
  have qk1 := fun w => run_float_arith (P := Tryd.prog) w .sub 22 .f64 4607182418800017408 h b q1
  have qk2 := fun w => run_float_arith (P := Tryd.prog) w .mul 22 .f64 zz zz m q2
  have qk3 := fun w => run_float_arith (P := Tryd.prog) w .mul 22 .f64 13666448263388469915 zz p1 q3
  have qk4 := fun w => run_float_arith (P := Tryd.prog) w .add 22 .f64 p1 4477121864728985349 a1 q4
  have qk5 := fun w => run_float_arith (P := Tryd.prog) w .mul 22 .f64 a1 zz p2 q5
  have qk6 := fun w => run_float_arith (P := Tryd.prog) w .add 22 .f64 p2 13732177093698800582 a2 q6
  have qk7 := fun w => run_float_arith (P := Tryd.prog) w .mul 22 .f64 a2 zz p3 q7
  have qk8 := fun w => run_float_arith (P := Tryd.prog) w .add 22 .f64 p3 4537941361668146421 a3 q8
  have qk9 := fun w => run_float_arith (P := Tryd.prog) w .mul 22 .f64 a3 zz p4 q9
  have qk10 := fun w => run_float_arith (P := Tryd.prog) w .add 22 .f64 p4 13787419979223748497 a4 q10
  have qk11 := fun w => run_float_arith (P := Tryd.prog) w .mul 22 .f64 a4 zz p5 q11
  have qk12 := fun w => run_float_arith (P := Tryd.prog) w .add 22 .f64 p5 4586165620538955083 a5 q12
  have qk13 := fun w => run_float_arith (P := Tryd.prog) w .mul 22 .f64 m a5 t q13
  have qk14 := fun w => run_float_arith (P := Tryd.prog) w .add 22 .f64 b t r q14
  clear q0 q1 q2 q3 q4 q5 q6 q7 q8 q9 q10 q11 q12 q13 q14
  have km := fun w => run_float_arith (P := Tryd.prog) w .mul 22 .f64 x 4608412980311869571 mm hm
  have kz := fun w => run_float_arith (P := Tryd.prog) w .mul 22 .f64 z z zz hz
  have kj := fun w => run_convert_float_int (P := Tryd.prog) w 22 39 .f64 .u64 mm 1 (by kernel_rfl) (by kernel_rfl) hj
  have ki : floatOfInt .f64 1 = 4607182418800017408 := by decide +kernel
  have ko := fun w => run_float_arith (P := Tryd.prog) w .add 22 .f64 4607182418800017408 4607182418800017408 4611686018427387904 (by decide +kernel)
  have wx : F.word false x = x := rfl
  have C35 := Lib.hid (fun w => nan23_c x w (by have := word_fin false x hx; rwa [wx] at this))
  have C39 := Lib.hid (fun w => inf27_c false x w hx)
  rw [wx] at C39
  have v1 : (FloatKind.f64.format.order x 4737786807993761792 == some .gt || FloatKind.f64.format.order x 4737786807993761792 == some .eq) = false := hg
  have v2 : (FloatKind.f64.format.order x 0 == some .eq) = false := he
  have v3 : (FloatKind.f64.format.order x 0 == some .lt) = false := hl
  clear hm hj hz hx wx hg he hl
  go_enter Tryd.func34, Tryd.ntmps34
  go_wp2_with first | (go_at_call 35; (with_reducible refine (C35.out _).mono ?_); rintro e w7 ⟨rfl, rfl⟩) | (go_at_call 39; (with_reducible refine (C39.out _).mono ?_); rintro e w7 ⟨rfl, rfl⟩) | (go_at_call 41; (with_reducible refine (C41.out _).mono ?_); rintro e w7 ⟨rfl, rfl⟩)
  go_ret
  exact ⟨rfl, rfl⟩
set_option maxRecDepth 100000 in
set_option maxHeartbeats 4000000 in
theorem sin_2 (x mm z zz r : Nat) (w : World) (hx : x < top) (hT : Tab w) (hg : geB x 4737786807993761792 = false) (hm : floatBits .mul .f64 x 4608412980311869571 = some mm) (hj : floatToIntVal .f64 mm .u64 = some 2) (hr : RedE x 4611686018427387904 z) (hz : floatBits .mul .f64 z z = some zz) (hE : CosE z zz r) (he : eqB x 0 = false) (hl : ltB x 0 = false) : Calls Tryd.prog 34 #[.float .f64 x] w fun e w' => e = .returned (.float .f64 r) ∧ w = w' := by
  obtain ⟨e1, d1, e2, d2, e3, r0, r1, r2, r3, r4, r5⟩ := hr
  obtain ⟨h, b, m, p1, a1, p2, a2, p3, a3, p4, a4, p5, a5, t, q0, q1, q2, q3, q4, q5, q6, q7, q8, q9, q10, q11, q12, q13, q14⟩ := hE
  obtain ⟨g0, g1, g2, g3, g4, g5, f0, f1, f2, f3, f4, f5⟩ := hT
  have rk0 := fun w => run_float_arith (P := Tryd.prog) w .mul 22 .f64 4611686018427387904 4605249456957292544 e1 r0
  have rk1 := fun w => run_float_arith (P := Tryd.prog) w .sub 22 .f64 x e1 d1 r1
  have rk2 := fun w => run_float_arith (P := Tryd.prog) w .mul 22 .f64 4611686018427387904 4495793288086814720 e2 r2
  have rk3 := fun w => run_float_arith (P := Tryd.prog) w .sub 22 .f64 d1 e2 d2 r3
  have rk4 := fun w => run_float_arith (P := Tryd.prog) w .mul 22 .f64 4611686018427387904 4388835458085048688 e3 r4
  have rk5 := fun w => run_float_arith (P := Tryd.prog) w .sub 22 .f64 d2 e3 z r5
  clear r0 r1 r2 r3 r4 r5
  have qk0 := fun w => run_float_arith (P := Tryd.prog) w .mul 22 .f64 4602678819172646912 zz h q0
  have qk1 := fun w => run_float_arith (P := Tryd.prog) w .sub 22 .f64 4607182418800017408 h b q1
  have qk2 := fun w => run_float_arith (P := Tryd.prog) w .mul 22 .f64 zz zz m q2
  have qk3 := fun w => run_float_arith (P := Tryd.prog) w .mul 22 .f64 13666448263388469915 zz p1 q3
  have qk4 := fun w => run_float_arith (P := Tryd.prog) w .add 22 .f64 p1 4477121864728985349 a1 q4
  have qk5 := fun w => run_float_arith (P := Tryd.prog) w .mul 22 .f64 a1 zz p2 q5
  have qk6 := fun w => run_float_arith (P := Tryd.prog) w .add 22 .f64 p2 13732177093698800582 a2 q6
  have qk7 := fun w => run_float_arith (P := Tryd.prog) w .mul 22 .f64 a2 zz p3 q7
  have qk8 := fun w => run_float_arith (P := Tryd.prog) w .add 22 .f64 p3 4537941361668146421 a3 q8
  have qk9 := fun w => run_float_arith (P := Tryd.prog) w .mul 22 .f64 a3 zz p4 q9
  have qk10 := fun w => run_float_arith (P := Tryd.prog) w .add 22 .f64 p4 13787419979223748497 a4 q10
  have qk11 := fun w => run_float_arith (P := Tryd.prog) w .mul 22 .f64 a4 zz p5 q11
  have qk12 := fun w => run_float_arith (P := Tryd.prog) w .add 22 .f64 p5 4586165620538955083 a5 q12
  have qk13 := fun w => run_float_arith (P := Tryd.prog) w .mul 22 .f64 m a5 t q13
  have qk14 := fun w => run_float_arith (P := Tryd.prog) w .add 22 .f64 b t r q14
  clear q0 q1 q2 q3 q4 q5 q6 q7 q8 q9 q10 q11 q12 q13 q14
  have km := fun w => run_float_arith (P := Tryd.prog) w .mul 22 .f64 x 4608412980311869571 mm hm
  have kz := fun w => run_float_arith (P := Tryd.prog) w .mul 22 .f64 z z zz hz
  have kj := fun w => run_convert_float_int (P := Tryd.prog) w 22 39 .f64 .u64 mm 2 (by kernel_rfl) (by kernel_rfl) hj
  have ki : floatOfInt .f64 2 = 4611686018427387904 := by decide +kernel
  have wx : F.word false x = x := rfl
  have C35 := Lib.hid (fun w => nan23_c x w (by have := word_fin false x hx; rwa [wx] at this))
  have C39 := Lib.hid (fun w => inf27_c false x w hx)
  rw [wx] at C39
  have v1 : (FloatKind.f64.format.order x 4737786807993761792 == some .gt || FloatKind.f64.format.order x 4737786807993761792 == some .eq) = false := hg
  have v2 : (FloatKind.f64.format.order x 0 == some .eq) = false := he
  have v3 : (FloatKind.f64.format.order x 0 == some .lt) = false := hl
  clear hm hj hz hx wx hg he hl
  go_enter Tryd.func34, Tryd.ntmps34
  go_wp2_with first | (go_at_call 35; (with_reducible refine (C35.out _).mono ?_); rintro e w7 ⟨rfl, rfl⟩) | (go_at_call 39; (with_reducible refine (C39.out _).mono ?_); rintro e w7 ⟨rfl, rfl⟩) | (go_at_call 41; (with_reducible refine (C41.out _).mono ?_); rintro e w7 ⟨rfl, rfl⟩)
  go_ret
  exact ⟨rfl, rfl⟩
set_option maxRecDepth 100000 in
set_option maxHeartbeats 4000000 in
theorem sin_3 (x mm z zz r : Nat) (w : World) (hx : x < top) (hT : Tab w) (hg : geB x 4737786807993761792 = false) (hm : floatBits .mul .f64 x 4608412980311869571 = some mm) (hj : floatToIntVal .f64 mm .u64 = some 3) (hr : RedE x 4616189618054758400 z) (hz : floatBits .mul .f64 z z = some zz) (hE : SinE z zz r) (he : eqB x 0 = false) (hl : ltB x 0 = false) : Calls Tryd.prog 34 #[.float .f64 x] w fun e w' => e = .returned (.float .f64 (negB r)) ∧ w = w' := by
  obtain ⟨e1, d1, e2, d2, e3, r0, r1, r2, r3, r4, r5⟩ := hr
  obtain ⟨m, p1, a1, p2, a2, p3, a3, p4, a4, p5, a5, t, q0, q1, q2, q3, q4, q5, q6, q7, q8, q9, q10, q11, q12⟩ := hE
  obtain ⟨g0, g1, g2, g3, g4, g5, f0, f1, f2, f3, f4, f5⟩ := hT
  have rk0 := fun w => run_float_arith (P := Tryd.prog) w .mul 22 .f64 4616189618054758400 4605249456957292544 e1 r0
  have rk1 := fun w => run_float_arith (P := Tryd.prog) w .sub 22 .f64 x e1 d1 r1
  have rk2 := fun w => run_float_arith (P := Tryd.prog) w .mul 22 .f64 4616189618054758400 4495793288086814720 e2 r2
  have rk3 := fun w => run_float_arith (P := Tryd.prog) w .sub 22 .f64 d1 e2 d2 r3
  have rk4 := fun w => run_float_arith (P := Tryd.prog) w .mul 22 .f64 4616189618054758400 4388835458085048688 e3 r4
  have rk5 := fun w => run_float_arith (P := Tryd.prog) w .sub 22 .f64 d2 e3 z r5
  clear r0 r1 r2 r3 r4 r5
  have qk0 := fun w => run_float_arith (P := Tryd.prog) w .mul 22 .f64 z zz m q0
  have qk1 := fun w => run_float_arith (P := Tryd.prog) w .mul 22 .f64 4460209587652500685 zz p1 q1
  have qk2 := fun w => run_float_arith (P := Tryd.prog) w .add 22 .f64 p1 13716528389658582877 a1 q2
  have qk3 := fun w => run_float_arith (P := Tryd.prog) w .mul 22 .f64 a1 zz p2 q3
  have qk4 := fun w => run_float_arith (P := Tryd.prog) w .add 22 .f64 p2 4523617212962785441 a2 q4
  have qk5 := fun w => run_float_arith (P := Tryd.prog) w .mul 22 .f64 a2 zz p3 q5
  have qk6 := fun w => run_float_arith (P := Tryd.prog) w .add 22 .f64 p3 13774824197404483331 a3 q6
  have qk7 := fun w => run_float_arith (P := Tryd.prog) w .mul 22 .f64 a3 zz p4 q7
  have qk8 := fun w => run_float_arith (P := Tryd.prog) w .add 22 .f64 p4 4575957461383575504 a4 q8
  have qk9 := fun w => run_float_arith (P := Tryd.prog) w .mul 22 .f64 a4 zz p5 q9
  have qk10 := fun w => run_float_arith (P := Tryd.prog) w .add 22 .f64 p5 13818544856648471880 a5 q10
  have qk11 := fun w => run_float_arith (P := Tryd.prog) w .mul 22 .f64 m a5 t q11
  have qk12 := fun w => run_float_arith (P := Tryd.prog) w .add 22 .f64 z t r q12
  clear q0 q1 q2 q3 q4 q5 q6 q7 q8 q9 q10 q11 q12
  have km := fun w => run_float_arith (P := Tryd.prog) w .mul 22 .f64 x 4608412980311869571 mm hm
  have kz := fun w => run_float_arith (P := Tryd.prog) w .mul 22 .f64 z z zz hz
  have kj := fun w => run_convert_float_int (P := Tryd.prog) w 22 39 .f64 .u64 mm 3 (by kernel_rfl) (by kernel_rfl) hj
  have ki : floatOfInt .f64 3 = 4613937818241073152 := by decide +kernel
  have ko := fun w => run_float_arith (P := Tryd.prog) w .add 22 .f64 4613937818241073152 4607182418800017408 4616189618054758400 (by decide +kernel)
  have kn := neg_fl
  have wx : F.word false x = x := rfl
  have C35 := Lib.hid (fun w => nan23_c x w (by have := word_fin false x hx; rwa [wx] at this))
  have C39 := Lib.hid (fun w => inf27_c false x w hx)
  rw [wx] at C39
  have v1 : (FloatKind.f64.format.order x 4737786807993761792 == some .gt || FloatKind.f64.format.order x 4737786807993761792 == some .eq) = false := hg
  have v2 : (FloatKind.f64.format.order x 0 == some .eq) = false := he
  have v3 : (FloatKind.f64.format.order x 0 == some .lt) = false := hl
  clear hm hj hz hx wx hg he hl
  go_enter Tryd.func34, Tryd.ntmps34
  go_wp2_with first | (go_at_call 35; (with_reducible refine (C35.out _).mono ?_); rintro e w7 ⟨rfl, rfl⟩) | (go_at_call 39; (with_reducible refine (C39.out _).mono ?_); rintro e w7 ⟨rfl, rfl⟩) | (go_at_call 41; (with_reducible refine (C41.out _).mono ?_); rintro e w7 ⟨rfl, rfl⟩)
  go_ret
  exact ⟨rfl, rfl⟩
set_option maxRecDepth 100000 in
set_option maxHeartbeats 4000000 in
theorem sin_4 (x mm z zz r : Nat) (w : World) (hx : x < top) (hT : Tab w) (hg : geB x 4737786807993761792 = false) (hm : floatBits .mul .f64 x 4608412980311869571 = some mm) (hj : floatToIntVal .f64 mm .u64 = some 4) (hr : RedE x 4616189618054758400 z) (hz : floatBits .mul .f64 z z = some zz) (hE : SinE z zz r) (he : eqB x 0 = false) (hl : ltB x 0 = false) : Calls Tryd.prog 34 #[.float .f64 x] w fun e w' => e = .returned (.float .f64 (negB r)) ∧ w = w' := by
  obtain ⟨e1, d1, e2, d2, e3, r0, r1, r2, r3, r4, r5⟩ := hr
  obtain ⟨m, p1, a1, p2, a2, p3, a3, p4, a4, p5, a5, t, q0, q1, q2, q3, q4, q5, q6, q7, q8, q9, q10, q11, q12⟩ := hE
  obtain ⟨g0, g1, g2, g3, g4, g5, f0, f1, f2, f3, f4, f5⟩ := hT
  have rk0 := fun w => run_float_arith (P := Tryd.prog) w .mul 22 .f64 4616189618054758400 4605249456957292544 e1 r0
  have rk1 := fun w => run_float_arith (P := Tryd.prog) w .sub 22 .f64 x e1 d1 r1
  have rk2 := fun w => run_float_arith (P := Tryd.prog) w .mul 22 .f64 4616189618054758400 4495793288086814720 e2 r2
  have rk3 := fun w => run_float_arith (P := Tryd.prog) w .sub 22 .f64 d1 e2 d2 r3
  have rk4 := fun w => run_float_arith (P := Tryd.prog) w .mul 22 .f64 4616189618054758400 4388835458085048688 e3 r4
  have rk5 := fun w => run_float_arith (P := Tryd.prog) w .sub 22 .f64 d2 e3 z r5
  clear r0 r1 r2 r3 r4 r5
  have qk0 := fun w => run_float_arith (P := Tryd.prog) w .mul 22 .f64 z zz m q0
  have qk1 := fun w => run_float_arith (P := Tryd.prog) w .mul 22 .f64 4460209587652500685 zz p1 q1
  have qk2 := fun w => run_float_arith (P := Tryd.prog) w .add 22 .f64 p1 13716528389658582877 a1 q2
  have qk3 := fun w => run_float_arith (P := Tryd.prog) w .mul 22 .f64 a1 zz p2 q3
  have qk4 := fun w => run_float_arith (P := Tryd.prog) w .add 22 .f64 p2 4523617212962785441 a2 q4
  have qk5 := fun w => run_float_arith (P := Tryd.prog) w .mul 22 .f64 a2 zz p3 q5
  have qk6 := fun w => run_float_arith (P := Tryd.prog) w .add 22 .f64 p3 13774824197404483331 a3 q6
  have qk7 := fun w => run_float_arith (P := Tryd.prog) w .mul 22 .f64 a3 zz p4 q7
  have qk8 := fun w => run_float_arith (P := Tryd.prog) w .add 22 .f64 p4 4575957461383575504 a4 q8
  have qk9 := fun w => run_float_arith (P := Tryd.prog) w .mul 22 .f64 a4 zz p5 q9
  have qk10 := fun w => run_float_arith (P := Tryd.prog) w .add 22 .f64 p5 13818544856648471880 a5 q10
  have qk11 := fun w => run_float_arith (P := Tryd.prog) w .mul 22 .f64 m a5 t q11
  have qk12 := fun w => run_float_arith (P := Tryd.prog) w .add 22 .f64 z t r q12
  clear q0 q1 q2 q3 q4 q5 q6 q7 q8 q9 q10 q11 q12
  have km := fun w => run_float_arith (P := Tryd.prog) w .mul 22 .f64 x 4608412980311869571 mm hm
  have kz := fun w => run_float_arith (P := Tryd.prog) w .mul 22 .f64 z z zz hz
  have kj := fun w => run_convert_float_int (P := Tryd.prog) w 22 39 .f64 .u64 mm 4 (by kernel_rfl) (by kernel_rfl) hj
  have ki : floatOfInt .f64 4 = 4616189618054758400 := by decide +kernel
  have kn := neg_fl
  have wx : F.word false x = x := rfl
  have C35 := Lib.hid (fun w => nan23_c x w (by have := word_fin false x hx; rwa [wx] at this))
  have C39 := Lib.hid (fun w => inf27_c false x w hx)
  rw [wx] at C39
  have v1 : (FloatKind.f64.format.order x 4737786807993761792 == some .gt || FloatKind.f64.format.order x 4737786807993761792 == some .eq) = false := hg
  have v2 : (FloatKind.f64.format.order x 0 == some .eq) = false := he
  have v3 : (FloatKind.f64.format.order x 0 == some .lt) = false := hl
  clear hm hj hz hx wx hg he hl
  go_enter Tryd.func34, Tryd.ntmps34
  go_wp2_with first | (go_at_call 35; (with_reducible refine (C35.out _).mono ?_); rintro e w7 ⟨rfl, rfl⟩) | (go_at_call 39; (with_reducible refine (C39.out _).mono ?_); rintro e w7 ⟨rfl, rfl⟩) | (go_at_call 41; (with_reducible refine (C41.out _).mono ?_); rintro e w7 ⟨rfl, rfl⟩)
  go_ret
  exact ⟨rfl, rfl⟩
set_option maxRecDepth 100000 in
set_option maxHeartbeats 4000000 in
theorem sin_5 (x mm z zz r : Nat) (w : World) (hx : x < top) (hT : Tab w) (hg : geB x 4737786807993761792 = false) (hm : floatBits .mul .f64 x 4608412980311869571 = some mm) (hj : floatToIntVal .f64 mm .u64 = some 5) (hr : RedE x 4618441417868443648 z) (hz : floatBits .mul .f64 z z = some zz) (hE : CosE z zz r) (he : eqB x 0 = false) (hl : ltB x 0 = false) : Calls Tryd.prog 34 #[.float .f64 x] w fun e w' => e = .returned (.float .f64 (negB r)) ∧ w = w' := by
  obtain ⟨e1, d1, e2, d2, e3, r0, r1, r2, r3, r4, r5⟩ := hr
  obtain ⟨h, b, m, p1, a1, p2, a2, p3, a3, p4, a4, p5, a5, t, q0, q1, q2, q3, q4, q5, q6, q7, q8, q9, q10, q11, q12, q13, q14⟩ := hE
  obtain ⟨g0, g1, g2, g3, g4, g5, f0, f1, f2, f3, f4, f5⟩ := hT
  have rk0 := fun w => run_float_arith (P := Tryd.prog) w .mul 22 .f64 4618441417868443648 4605249456957292544 e1 r0
  have rk1 := fun w => run_float_arith (P := Tryd.prog) w .sub 22 .f64 x e1 d1 r1
  have rk2 := fun w => run_float_arith (P := Tryd.prog) w .mul 22 .f64 4618441417868443648 4495793288086814720 e2 r2
  have rk3 := fun w => run_float_arith (P := Tryd.prog) w .sub 22 .f64 d1 e2 d2 r3
  have rk4 := fun w => run_float_arith (P := Tryd.prog) w .mul 22 .f64 4618441417868443648 4388835458085048688 e3 r4
  have rk5 := fun w => run_float_arith (P := Tryd.prog) w .sub 22 .f64 d2 e3 z r5
  clear r0 r1 r2 r3 r4 r5
  have qk0 := fun w => run_float_arith (P := Tryd.prog) w .mul 22 .f64 4602678819172646912 zz h q0
  have qk1 := fun w => run_float_arith (P := Tryd.prog) w .sub 22 .f64 4607182418800017408 h b q1
  have qk2 := fun w => run_float_arith (P := Tryd.prog) w .mul 22 .f64 zz zz m q2
  have qk3 := fun w => run_float_arith (P := Tryd.prog) w .mul 22 .f64 13666448263388469915 zz p1 q3
  have qk4 := fun w => run_float_arith (P := Tryd.prog) w .add 22 .f64 p1 4477121864728985349 a1 q4
  have qk5 := fun w => run_float_arith (P := Tryd.prog) w .mul 22 .f64 a1 zz p2 q5
  have qk6 := fun w => run_float_arith (P := Tryd.prog) w .add 22 .f64 p2 13732177093698800582 a2 q6
  have qk7 := fun w => run_float_arith (P := Tryd.prog) w .mul 22 .f64 a2 zz p3 q7
  have qk8 := fun w => run_float_arith (P := Tryd.prog) w .add 22 .f64 p3 4537941361668146421 a3 q8
  have qk9 := fun w => run_float_arith (P := Tryd.prog) w .mul 22 .f64 a3 zz p4 q9
  have qk10 := fun w => run_float_arith (P := Tryd.prog) w .add 22 .f64 p4 13787419979223748497 a4 q10
  have qk11 := fun w => run_float_arith (P := Tryd.prog) w .mul 22 .f64 a4 zz p5 q11
  have qk12 := fun w => run_float_arith (P := Tryd.prog) w .add 22 .f64 p5 4586165620538955083 a5 q12
  have qk13 := fun w => run_float_arith (P := Tryd.prog) w .mul 22 .f64 m a5 t q13
  have qk14 := fun w => run_float_arith (P := Tryd.prog) w .add 22 .f64 b t r q14
  clear q0 q1 q2 q3 q4 q5 q6 q7 q8 q9 q10 q11 q12 q13 q14
  have km := fun w => run_float_arith (P := Tryd.prog) w .mul 22 .f64 x 4608412980311869571 mm hm
  have kz := fun w => run_float_arith (P := Tryd.prog) w .mul 22 .f64 z z zz hz
  have kj := fun w => run_convert_float_int (P := Tryd.prog) w 22 39 .f64 .u64 mm 5 (by kernel_rfl) (by kernel_rfl) hj
  have ki : floatOfInt .f64 5 = 4617315517961601024 := by decide +kernel
  have ko := fun w => run_float_arith (P := Tryd.prog) w .add 22 .f64 4617315517961601024 4607182418800017408 4618441417868443648 (by decide +kernel)
  have kn := neg_fl
  have wx : F.word false x = x := rfl
  have C35 := Lib.hid (fun w => nan23_c x w (by have := word_fin false x hx; rwa [wx] at this))
  have C39 := Lib.hid (fun w => inf27_c false x w hx)
  rw [wx] at C39
  have v1 : (FloatKind.f64.format.order x 4737786807993761792 == some .gt || FloatKind.f64.format.order x 4737786807993761792 == some .eq) = false := hg
  have v2 : (FloatKind.f64.format.order x 0 == some .eq) = false := he
  have v3 : (FloatKind.f64.format.order x 0 == some .lt) = false := hl
  clear hm hj hz hx wx hg he hl
  go_enter Tryd.func34, Tryd.ntmps34
  go_wp2_with first | (go_at_call 35; (with_reducible refine (C35.out _).mono ?_); rintro e w7 ⟨rfl, rfl⟩) | (go_at_call 39; (with_reducible refine (C39.out _).mono ?_); rintro e w7 ⟨rfl, rfl⟩) | (go_at_call 41; (with_reducible refine (C41.out _).mono ?_); rintro e w7 ⟨rfl, rfl⟩)
  go_ret
  exact ⟨rfl, rfl⟩
set_option maxRecDepth 100000 in
set_option maxHeartbeats 4000000 in
theorem sin_6 (x mm z zz r : Nat) (w : World) (hx : x < top) (hT : Tab w) (hg : geB x 4737786807993761792 = false) (hm : floatBits .mul .f64 x 4608412980311869571 = some mm) (hj : floatToIntVal .f64 mm .u64 = some 6) (hr : RedE x 4618441417868443648 z) (hz : floatBits .mul .f64 z z = some zz) (hE : CosE z zz r) (he : eqB x 0 = false) (hl : ltB x 0 = false) : Calls Tryd.prog 34 #[.float .f64 x] w fun e w' => e = .returned (.float .f64 (negB r)) ∧ w = w' := by
  obtain ⟨e1, d1, e2, d2, e3, r0, r1, r2, r3, r4, r5⟩ := hr
  obtain ⟨h, b, m, p1, a1, p2, a2, p3, a3, p4, a4, p5, a5, t, q0, q1, q2, q3, q4, q5, q6, q7, q8, q9, q10, q11, q12, q13, q14⟩ := hE
  obtain ⟨g0, g1, g2, g3, g4, g5, f0, f1, f2, f3, f4, f5⟩ := hT
  have rk0 := fun w => run_float_arith (P := Tryd.prog) w .mul 22 .f64 4618441417868443648 4605249456957292544 e1 r0
  have rk1 := fun w => run_float_arith (P := Tryd.prog) w .sub 22 .f64 x e1 d1 r1
  have rk2 := fun w => run_float_arith (P := Tryd.prog) w .mul 22 .f64 4618441417868443648 4495793288086814720 e2 r2
  have rk3 := fun w => run_float_arith (P := Tryd.prog) w .sub 22 .f64 d1 e2 d2 r3
  have rk4 := fun w => run_float_arith (P := Tryd.prog) w .mul 22 .f64 4618441417868443648 4388835458085048688 e3 r4
  have rk5 := fun w => run_float_arith (P := Tryd.prog) w .sub 22 .f64 d2 e3 z r5
  clear r0 r1 r2 r3 r4 r5
  have qk0 := fun w => run_float_arith (P := Tryd.prog) w .mul 22 .f64 4602678819172646912 zz h q0
  have qk1 := fun w => run_float_arith (P := Tryd.prog) w .sub 22 .f64 4607182418800017408 h b q1
  have qk2 := fun w => run_float_arith (P := Tryd.prog) w .mul 22 .f64 zz zz m q2
  have qk3 := fun w => run_float_arith (P := Tryd.prog) w .mul 22 .f64 13666448263388469915 zz p1 q3
  have qk4 := fun w => run_float_arith (P := Tryd.prog) w .add 22 .f64 p1 4477121864728985349 a1 q4
  have qk5 := fun w => run_float_arith (P := Tryd.prog) w .mul 22 .f64 a1 zz p2 q5
  have qk6 := fun w => run_float_arith (P := Tryd.prog) w .add 22 .f64 p2 13732177093698800582 a2 q6
  have qk7 := fun w => run_float_arith (P := Tryd.prog) w .mul 22 .f64 a2 zz p3 q7
  have qk8 := fun w => run_float_arith (P := Tryd.prog) w .add 22 .f64 p3 4537941361668146421 a3 q8
  have qk9 := fun w => run_float_arith (P := Tryd.prog) w .mul 22 .f64 a3 zz p4 q9
  have qk10 := fun w => run_float_arith (P := Tryd.prog) w .add 22 .f64 p4 13787419979223748497 a4 q10
  have qk11 := fun w => run_float_arith (P := Tryd.prog) w .mul 22 .f64 a4 zz p5 q11
  have qk12 := fun w => run_float_arith (P := Tryd.prog) w .add 22 .f64 p5 4586165620538955083 a5 q12
  have qk13 := fun w => run_float_arith (P := Tryd.prog) w .mul 22 .f64 m a5 t q13
  have qk14 := fun w => run_float_arith (P := Tryd.prog) w .add 22 .f64 b t r q14
  clear q0 q1 q2 q3 q4 q5 q6 q7 q8 q9 q10 q11 q12 q13 q14
  have km := fun w => run_float_arith (P := Tryd.prog) w .mul 22 .f64 x 4608412980311869571 mm hm
  have kz := fun w => run_float_arith (P := Tryd.prog) w .mul 22 .f64 z z zz hz
  have kj := fun w => run_convert_float_int (P := Tryd.prog) w 22 39 .f64 .u64 mm 6 (by kernel_rfl) (by kernel_rfl) hj
  have ki : floatOfInt .f64 6 = 4618441417868443648 := by decide +kernel
  have kn := neg_fl
  have wx : F.word false x = x := rfl
  have C35 := Lib.hid (fun w => nan23_c x w (by have := word_fin false x hx; rwa [wx] at this))
  have C39 := Lib.hid (fun w => inf27_c false x w hx)
  rw [wx] at C39
  have v1 : (FloatKind.f64.format.order x 4737786807993761792 == some .gt || FloatKind.f64.format.order x 4737786807993761792 == some .eq) = false := hg
  have v2 : (FloatKind.f64.format.order x 0 == some .eq) = false := he
  have v3 : (FloatKind.f64.format.order x 0 == some .lt) = false := hl
  clear hm hj hz hx wx hg he hl
  go_enter Tryd.func34, Tryd.ntmps34
  go_wp2_with first | (go_at_call 35; (with_reducible refine (C35.out _).mono ?_); rintro e w7 ⟨rfl, rfl⟩) | (go_at_call 39; (with_reducible refine (C39.out _).mono ?_); rintro e w7 ⟨rfl, rfl⟩) | (go_at_call 41; (with_reducible refine (C41.out _).mono ?_); rintro e w7 ⟨rfl, rfl⟩)
  go_ret
  exact ⟨rfl, rfl⟩
set_option maxRecDepth 100000 in
set_option maxHeartbeats 4000000 in
theorem sin_7 (x mm z zz r : Nat) (w : World) (hx : x < top) (hT : Tab w) (hg : geB x 4737786807993761792 = false) (hm : floatBits .mul .f64 x 4608412980311869571 = some mm) (hj : floatToIntVal .f64 mm .u64 = some 7) (hr : RedE x 4620693217682128896 z) (hz : floatBits .mul .f64 z z = some zz) (hE : SinE z zz r) (he : eqB x 0 = false) (hl : ltB x 0 = false) : Calls Tryd.prog 34 #[.float .f64 x] w fun e w' => e = .returned (.float .f64 r) ∧ w = w' := by
  obtain ⟨e1, d1, e2, d2, e3, r0, r1, r2, r3, r4, r5⟩ := hr
  obtain ⟨m, p1, a1, p2, a2, p3, a3, p4, a4, p5, a5, t, q0, q1, q2, q3, q4, q5, q6, q7, q8, q9, q10, q11, q12⟩ := hE
  obtain ⟨g0, g1, g2, g3, g4, g5, f0, f1, f2, f3, f4, f5⟩ := hT
  have rk0 := fun w => run_float_arith (P := Tryd.prog) w .mul 22 .f64 4620693217682128896 4605249456957292544 e1 r0
  have rk1 := fun w => run_float_arith (P := Tryd.prog) w .sub 22 .f64 x e1 d1 r1
  have rk2 := fun w => run_float_arith (P := Tryd.prog) w .mul 22 .f64 4620693217682128896 4495793288086814720 e2 r2
  have rk3 := fun w => run_float_arith (P := Tryd.prog) w .sub 22 .f64 d1 e2 d2 r3
  have rk4 := fun w => run_float_arith (P := Tryd.prog) w .mul 22 .f64 4620693217682128896 4388835458085048688 e3 r4
  have rk5 := fun w => run_float_arith (P := Tryd.prog) w .sub 22 .f64 d2 e3 z r5
  clear r0 r1 r2 r3 r4 r5
  have qk0 := fun w => run_float_arith (P := Tryd.prog) w .mul 22 .f64 z zz m q0
  have qk1 := fun w => run_float_arith (P := Tryd.prog) w .mul 22 .f64 4460209587652500685 zz p1 q1
  have qk2 := fun w => run_float_arith (P := Tryd.prog) w .add 22 .f64 p1 13716528389658582877 a1 q2
  have qk3 := fun w => run_float_arith (P := Tryd.prog) w .mul 22 .f64 a1 zz p2 q3
  have qk4 := fun w => run_float_arith (P := Tryd.prog) w .add 22 .f64 p2 4523617212962785441 a2 q4
  have qk5 := fun w => run_float_arith (P := Tryd.prog) w .mul 22 .f64 a2 zz p3 q5
  have qk6 := fun w => run_float_arith (P := Tryd.prog) w .add 22 .f64 p3 13774824197404483331 a3 q6
  have qk7 := fun w => run_float_arith (P := Tryd.prog) w .mul 22 .f64 a3 zz p4 q7
  have qk8 := fun w => run_float_arith (P := Tryd.prog) w .add 22 .f64 p4 4575957461383575504 a4 q8
  have qk9 := fun w => run_float_arith (P := Tryd.prog) w .mul 22 .f64 a4 zz p5 q9
  have qk10 := fun w => run_float_arith (P := Tryd.prog) w .add 22 .f64 p5 13818544856648471880 a5 q10
  have qk11 := fun w => run_float_arith (P := Tryd.prog) w .mul 22 .f64 m a5 t q11
  have qk12 := fun w => run_float_arith (P := Tryd.prog) w .add 22 .f64 z t r q12
  clear q0 q1 q2 q3 q4 q5 q6 q7 q8 q9 q10 q11 q12
  have km := fun w => run_float_arith (P := Tryd.prog) w .mul 22 .f64 x 4608412980311869571 mm hm
  have kz := fun w => run_float_arith (P := Tryd.prog) w .mul 22 .f64 z z zz hz
  have kj := fun w => run_convert_float_int (P := Tryd.prog) w 22 39 .f64 .u64 mm 7 (by kernel_rfl) (by kernel_rfl) hj
  have ki : floatOfInt .f64 7 = 4619567317775286272 := by decide +kernel
  have ko := fun w => run_float_arith (P := Tryd.prog) w .add 22 .f64 4619567317775286272 4607182418800017408 4620693217682128896 (by decide +kernel)
  have wx : F.word false x = x := rfl
  have C35 := Lib.hid (fun w => nan23_c x w (by have := word_fin false x hx; rwa [wx] at this))
  have C39 := Lib.hid (fun w => inf27_c false x w hx)
  rw [wx] at C39
  have v1 : (FloatKind.f64.format.order x 4737786807993761792 == some .gt || FloatKind.f64.format.order x 4737786807993761792 == some .eq) = false := hg
  have v2 : (FloatKind.f64.format.order x 0 == some .eq) = false := he
  have v3 : (FloatKind.f64.format.order x 0 == some .lt) = false := hl
  clear hm hj hz hx wx hg he hl
  go_enter Tryd.func34, Tryd.ntmps34
  go_wp2_with first | (go_at_call 35; (with_reducible refine (C35.out _).mono ?_); rintro e w7 ⟨rfl, rfl⟩) | (go_at_call 39; (with_reducible refine (C39.out _).mono ?_); rintro e w7 ⟨rfl, rfl⟩) | (go_at_call 41; (with_reducible refine (C41.out _).mono ?_); rintro e w7 ⟨rfl, rfl⟩)
  go_ret
  exact ⟨rfl, rfl⟩
set_option maxRecDepth 100000 in
set_option maxHeartbeats 4000000 in
theorem sin_8 (x mm z zz r : Nat) (w : World) (hx : x < top) (hT : Tab w) (hg : geB x 4737786807993761792 = false) (hm : floatBits .mul .f64 x 4608412980311869571 = some mm) (hj : floatToIntVal .f64 mm .u64 = some 8) (hr : RedE x 4620693217682128896 z) (hz : floatBits .mul .f64 z z = some zz) (hE : SinE z zz r) (he : eqB x 0 = false) (hl : ltB x 0 = false) : Calls Tryd.prog 34 #[.float .f64 x] w fun e w' => e = .returned (.float .f64 r) ∧ w = w' := by
  obtain ⟨e1, d1, e2, d2, e3, r0, r1, r2, r3, r4, r5⟩ := hr
  obtain ⟨m, p1, a1, p2, a2, p3, a3, p4, a4, p5, a5, t, q0, q1, q2, q3, q4, q5, q6, q7, q8, q9, q10, q11, q12⟩ := hE
  obtain ⟨g0, g1, g2, g3, g4, g5, f0, f1, f2, f3, f4, f5⟩ := hT
  have rk0 := fun w => run_float_arith (P := Tryd.prog) w .mul 22 .f64 4620693217682128896 4605249456957292544 e1 r0
  have rk1 := fun w => run_float_arith (P := Tryd.prog) w .sub 22 .f64 x e1 d1 r1
  have rk2 := fun w => run_float_arith (P := Tryd.prog) w .mul 22 .f64 4620693217682128896 4495793288086814720 e2 r2
  have rk3 := fun w => run_float_arith (P := Tryd.prog) w .sub 22 .f64 d1 e2 d2 r3
  have rk4 := fun w => run_float_arith (P := Tryd.prog) w .mul 22 .f64 4620693217682128896 4388835458085048688 e3 r4
  have rk5 := fun w => run_float_arith (P := Tryd.prog) w .sub 22 .f64 d2 e3 z r5
  clear r0 r1 r2 r3 r4 r5
  have qk0 := fun w => run_float_arith (P := Tryd.prog) w .mul 22 .f64 z zz m q0
  have qk1 := fun w => run_float_arith (P := Tryd.prog) w .mul 22 .f64 4460209587652500685 zz p1 q1
  have qk2 := fun w => run_float_arith (P := Tryd.prog) w .add 22 .f64 p1 13716528389658582877 a1 q2
  have qk3 := fun w => run_float_arith (P := Tryd.prog) w .mul 22 .f64 a1 zz p2 q3
  have qk4 := fun w => run_float_arith (P := Tryd.prog) w .add 22 .f64 p2 4523617212962785441 a2 q4
  have qk5 := fun w => run_float_arith (P := Tryd.prog) w .mul 22 .f64 a2 zz p3 q5
  have qk6 := fun w => run_float_arith (P := Tryd.prog) w .add 22 .f64 p3 13774824197404483331 a3 q6
  have qk7 := fun w => run_float_arith (P := Tryd.prog) w .mul 22 .f64 a3 zz p4 q7
  have qk8 := fun w => run_float_arith (P := Tryd.prog) w .add 22 .f64 p4 4575957461383575504 a4 q8
  have qk9 := fun w => run_float_arith (P := Tryd.prog) w .mul 22 .f64 a4 zz p5 q9
  have qk10 := fun w => run_float_arith (P := Tryd.prog) w .add 22 .f64 p5 13818544856648471880 a5 q10
  have qk11 := fun w => run_float_arith (P := Tryd.prog) w .mul 22 .f64 m a5 t q11
  have qk12 := fun w => run_float_arith (P := Tryd.prog) w .add 22 .f64 z t r q12
  clear q0 q1 q2 q3 q4 q5 q6 q7 q8 q9 q10 q11 q12
  have km := fun w => run_float_arith (P := Tryd.prog) w .mul 22 .f64 x 4608412980311869571 mm hm
  have kz := fun w => run_float_arith (P := Tryd.prog) w .mul 22 .f64 z z zz hz
  have kj := fun w => run_convert_float_int (P := Tryd.prog) w 22 39 .f64 .u64 mm 8 (by kernel_rfl) (by kernel_rfl) hj
  have ki : floatOfInt .f64 8 = 4620693217682128896 := by decide +kernel
  have wx : F.word false x = x := rfl
  have C35 := Lib.hid (fun w => nan23_c x w (by have := word_fin false x hx; rwa [wx] at this))
  have C39 := Lib.hid (fun w => inf27_c false x w hx)
  rw [wx] at C39
  have v1 : (FloatKind.f64.format.order x 4737786807993761792 == some .gt || FloatKind.f64.format.order x 4737786807993761792 == some .eq) = false := hg
  have v2 : (FloatKind.f64.format.order x 0 == some .eq) = false := he
  have v3 : (FloatKind.f64.format.order x 0 == some .lt) = false := hl
  clear hm hj hz hx wx hg he hl
  go_enter Tryd.func34, Tryd.ntmps34
  go_wp2_with first | (go_at_call 35; (with_reducible refine (C35.out _).mono ?_); rintro e w7 ⟨rfl, rfl⟩) | (go_at_call 39; (with_reducible refine (C39.out _).mono ?_); rintro e w7 ⟨rfl, rfl⟩) | (go_at_call 41; (with_reducible refine (C41.out _).mono ?_); rintro e w7 ⟨rfl, rfl⟩)
  go_ret
  exact ⟨rfl, rfl⟩
set_option maxRecDepth 100000 in
set_option maxHeartbeats 4000000 in
theorem cos_z (sg : Bool) (x mm z zz r : Nat) (w : World) (hx : x < top) (h0 : x = 0) (hT : Tab w) (hg : geB x 4737786807993761792 = false) (hm : floatBits .mul .f64 x 4608412980311869571 = some mm) (hj : floatToIntVal .f64 mm .u64 = some 0) (hr : RedE x 0 z) (hz : floatBits .mul .f64 z z = some zz) (hE : CosE z zz r) : Calls Tryd.prog 32 #[.float .f64 (F.word sg x)] w fun e w' => e = .returned (.float .f64 r) ∧ w = w' := by
  obtain ⟨e1, d1, e2, d2, e3, r0, r1, r2, r3, r4, r5⟩ := hr
  obtain ⟨h, b, m, p1, a1, p2, a2, p3, a3, p4, a4, p5, a5, t, q0, q1, q2, q3, q4, q5, q6, q7, q8, q9, q10, q11, q12, q13, q14⟩ := hE
  obtain ⟨g0, g1, g2, g3, g4, g5, f0, f1, f2, f3, f4, f5⟩ := hT
  have rk0 := fun w => run_float_arith (P := Tryd.prog) w .mul 22 .f64 0 4605249456957292544 e1 r0
  have rk1 := fun w => run_float_arith (P := Tryd.prog) w .sub 22 .f64 x e1 d1 r1
  have rk2 := fun w => run_float_arith (P := Tryd.prog) w .mul 22 .f64 0 4495793288086814720 e2 r2
  have rk3 := fun w => run_float_arith (P := Tryd.prog) w .sub 22 .f64 d1 e2 d2 r3
  have rk4 := fun w => run_float_arith (P := Tryd.prog) w .mul 22 .f64 0 4388835458085048688 e3 r4
  have rk5 := fun w => run_float_arith (P := Tryd.prog) w .sub 22 .f64 d2 e3 z r5
  clear r0 r1 r2 r3 r4 r5
  have qk0 := fun w => run_float_arith (P := Tryd.prog) w .mul 22 .f64 4602678819172646912 zz h q0
  have qk1 := fun w => run_float_arith (P := Tryd.prog) w .sub 22 .f64 4607182418800017408 h b q1
  have qk2 := fun w => run_float_arith (P := Tryd.prog) w .mul 22 .f64 zz zz m q2
  have qk3 := fun w => run_float_arith (P := Tryd.prog) w .mul 22 .f64 13666448263388469915 zz p1 q3
  have qk4 := fun w => run_float_arith (P := Tryd.prog) w .add 22 .f64 p1 4477121864728985349 a1 q4
  have qk5 := fun w => run_float_arith (P := Tryd.prog) w .mul 22 .f64 a1 zz p2 q5
  have qk6 := fun w => run_float_arith (P := Tryd.prog) w .add 22 .f64 p2 13732177093698800582 a2 q6
  have qk7 := fun w => run_float_arith (P := Tryd.prog) w .mul 22 .f64 a2 zz p3 q7
  have qk8 := fun w => run_float_arith (P := Tryd.prog) w .add 22 .f64 p3 4537941361668146421 a3 q8
  have qk9 := fun w => run_float_arith (P := Tryd.prog) w .mul 22 .f64 a3 zz p4 q9
  have qk10 := fun w => run_float_arith (P := Tryd.prog) w .add 22 .f64 p4 13787419979223748497 a4 q10
  have qk11 := fun w => run_float_arith (P := Tryd.prog) w .mul 22 .f64 a4 zz p5 q11
  have qk12 := fun w => run_float_arith (P := Tryd.prog) w .add 22 .f64 p5 4586165620538955083 a5 q12
  have qk13 := fun w => run_float_arith (P := Tryd.prog) w .mul 22 .f64 m a5 t q13
  have qk14 := fun w => run_float_arith (P := Tryd.prog) w .add 22 .f64 b t r q14
  clear q0 q1 q2 q3 q4 q5 q6 q7 q8 q9 q10 q11 q12 q13 q14
  have km := fun w => run_float_arith (P := Tryd.prog) w .mul 22 .f64 x 4608412980311869571 mm hm
  have kz := fun w => run_float_arith (P := Tryd.prog) w .mul 22 .f64 z z zz hz
  have kj := fun w => run_convert_float_int (P := Tryd.prog) w 22 39 .f64 .u64 mm 0 (by kernel_rfl) (by kernel_rfl) hj
  have ki : floatOfInt .f64 0 = 0 := by decide +kernel
  have C35 := Lib.hid (fun w => nan23_c (F.word sg x) w (word_fin sg x hx))
  have C39 := Lib.hid (fun w => inf27_c sg x w hx)
  have C41 := Lib.hid (fun w => abs31_c sg x w hx)
  have v1 : (FloatKind.f64.format.order x 4737786807993761792 == some .gt || FloatKind.f64.format.order x 4737786807993761792 == some .eq) = false := hg
  clear hm hj hz hx h0 hg
  go_enter Tryd.func32, Tryd.ntmps32
  go_wp2_with first | (go_at_call 35; (with_reducible refine (C35.out _).mono ?_); rintro e w7 ⟨rfl, rfl⟩) | (go_at_call 39; (with_reducible refine (C39.out _).mono ?_); rintro e w7 ⟨rfl, rfl⟩) | (go_at_call 41; (with_reducible refine (C41.out _).mono ?_); rintro e w7 ⟨rfl, rfl⟩)
  go_ret
  exact ⟨rfl, rfl⟩
theorem sin_z (s : Bool) (w : World) : Calls Tryd.prog 34 #[.float .f64 (F.word s 0)] w fun e w' => e = .returned (.float .f64 (F.word s 0)) ∧ w = w' := by
  have v2 : (FloatKind.f64.format.order (F.word s 0) 0 == some .eq) = true := by cases s <;> decide +kernel
  go_enter Tryd.func34, Tryd.ntmps34
  go_wp2
  go_ret
  exact ⟨rfl, rfl⟩
end Go.Proofs.YtkbgkogfjfojgaaDoor
