/- Equal, at two options that differ at most in their mode. -/
import Derived.Test.YtjhhecpnonaniaaOp3
import Derived.Laws.IdiomRangeMap
import Derived.Laws.StructEq
import Derived.WideLaws
set_option linter.unusedVariables false
set_option linter.unusedSimpArgs false
namespace Go.Proofs.Ytjhhecpnonaniaa
open Go.RowKit
open Go.Maps (int_keyed keyOf_int_mk Keyed)
section
variable (b1 b2 b3 : Bool) (ft : Int) (s : ByteArray) (k : Int) (W : World)
theorem pt0 : (part 9 #[.string s, .int .u16 ft, .bool b1, .bool b2, .bool b3, .int .u8 k] 0).run Try.prog W = .ok (.string s) W := by kernel_rfl
theorem pt1 : (part 29 #[.string s, .int .u16 ft, .bool b1, .bool b2, .bool b3, .int .u8 k] 1).run Try.prog W = .ok (.int .u16 ft) W := by kernel_rfl
theorem pt2 : (part 4 #[.string s, .int .u16 ft, .bool b1, .bool b2, .bool b3, .int .u8 k] 2).run Try.prog W = .ok (.bool b1) W := by kernel_rfl
theorem pt3 : (part 4 #[.string s, .int .u16 ft, .bool b1, .bool b2, .bool b3, .int .u8 k] 3).run Try.prog W = .ok (.bool b2) W := by kernel_rfl
theorem pt4 : (part 4 #[.string s, .int .u16 ft, .bool b1, .bool b2, .bool b3, .int .u8 k] 4).run Try.prog W = .ok (.bool b3) W := by kernel_rfl
theorem pt5 : (part 30 #[.string s, .int .u16 ft, .bool b1, .bool b2, .bool b3, .int .u8 k] 5).run Try.prog W = .ok (.int .u8 k) W := by kernel_rfl
end
theorem eqF_cons {P : Program} {d : Nat} {xs ys : Array Value} {f : Field} {fs : List Field} {a b : Value} {W : World} (hn : (f.name != "_") = true) (ha : (part f.type xs f.offset).run P W = .ok a W) (hb : (part f.type ys f.offset).run P W = .ok b W) (hr : (Op.equalIn d f.type a b).run P W = .ok true W) :
    (Op.eqFields d xs ys (f :: fs)).run P W = (Op.eqFields d xs ys fs).run P W := by
  have hn' : f.name ≠ "_" := by simpa using hn
  simp only [Op.eqFields, if_pos hn', Sem.run_bind, ha, hb, hr, Result.andThen_ok, Bool.not_true, Bool.false_eq_true, if_false]
theorem eqF_last {P : Program} {d : Nat} {xs ys : Array Value} {f : Field} {a b : Value} {r : Bool} {W : World} (hn : (f.name != "_") = true) (ha : (part f.type xs f.offset).run P W = .ok a W) (hb : (part f.type ys f.offset).run P W = .ok b W) (hr : (Op.equalIn d f.type a b).run P W = .ok r W) :
    (Op.eqFields d xs ys [f]).run P W = .ok r W := by
  have hn' : f.name ≠ "_" := by simpa using hn
  simp only [Op.eqFields, if_pos hn', Sem.run_bind, ha, hb, hr, Result.andThen_ok]
  cases r <;> simp [Op.eqFields]
theorem f32 : (Try.prog.fieldsOf 32).toList = [{ name := "originalTargetEnv", type := 9, offset := 0, embedded := false, tag := "", pkgPath := "github.com/evanw/esbuild/internal/css_parser", byteOffset := 0 }, { name := "unsupportedCSSFeatures", type := 29, offset := 1, embedded := false, tag := "", pkgPath := "github.com/evanw/esbuild/internal/css_parser", byteOffset := 16 }, { name := "minifySyntax", type := 4, offset := 2, embedded := false, tag := "", pkgPath := "github.com/evanw/esbuild/internal/css_parser", byteOffset := 18 }, { name := "minifyWhitespace", type := 4, offset := 3, embedded := false, tag := "", pkgPath := "github.com/evanw/esbuild/internal/css_parser", byteOffset := 19 }, { name := "minifyIdentifiers", type := 4, offset := 4, embedded := false, tag := "", pkgPath := "github.com/evanw/esbuild/internal/css_parser", byteOffset := 20 }, { name := "symbolMode", type := 30, offset := 5, embedded := false, tag := "", pkgPath := "github.com/evanw/esbuild/internal/css_parser", byteOffset := 21 }] := by kernel_rfl
theorem eqi (d : Nat) (b1 b2 b3 : Bool) (ft : Int) (s : ByteArray) (k1 k2 : Int) (W : World) : (Op.equalIn (d + 1 + 1) 32 (.agg #[.string s, .int .u16 ft, .bool b1, .bool b2, .bool b3, .int .u8 k1]) (.agg #[.string s, .int .u16 ft, .bool b1, .bool b2, .bool b3, .int .u8 k2])).run Try.prog W = .ok (k1 == k2) W := by
  rw [run_equalIn_agg W (d + 1) 32 _ _ (by kernel_rfl) (by kernel_rfl)]
  rw [f32]
  have e : ∀ x : ByteArray, (x.toList == x.toList) = true := fun x => by simp
  refine Eq.trans (eqF_cons (by decide) (pt0 b1 b2 b3 ft s k1 W) (pt0 b1 b2 b3 ft s k2 W) ((run_equalIn_string W d 9 _ _ Try.underlying9).trans (by rw [e]))) ?_
  refine Eq.trans (eqF_cons (by decide) (pt1 b1 b2 b3 ft s k1 W) (pt1 b1 b2 b3 ft s k2 W) ((run_equalIn_int W d 29 _ _ _ _ Try.underlying29).trans (by rw [beq_self_eq_true]))) ?_
  refine Eq.trans (eqF_cons (by decide) (pt2 b1 b2 b3 ft s k1 W) (pt2 b1 b2 b3 ft s k2 W) ((run_equalIn_bool' W d 4 _ _ Try.underlying4).trans (by rw [beq_self_eq_true]))) ?_
  refine Eq.trans (eqF_cons (by decide) (pt3 b1 b2 b3 ft s k1 W) (pt3 b1 b2 b3 ft s k2 W) ((run_equalIn_bool' W d 4 _ _ Try.underlying4).trans (by rw [beq_self_eq_true]))) ?_
  refine Eq.trans (eqF_cons (by decide) (pt4 b1 b2 b3 ft s k1 W) (pt4 b1 b2 b3 ft s k2 W) ((run_equalIn_bool' W d 4 _ _ Try.underlying4).trans (by rw [beq_self_eq_true]))) ?_
  exact eqF_last (by decide) (pt5 b1 b2 b3 ft s k1 W) (pt5 b1 b2 b3 ft s k2 W) (run_equalIn_int W d 30 _ _ _ _ Try.underlying30)
theorem neq32 (b1 b2 b3 : Bool) (ft : Int) (s : ByteArray) (k1 k2 : Int) (W : World) : (binOp .neq 32 (.agg #[.string s, .int .u16 ft, .bool b1, .bool b2, .bool b3, .int .u8 k1]) (.agg #[.string s, .int .u16 ft, .bool b1, .bool b2, .bool b3, .int .u8 k2])).run Try.prog W = .ok (.bool (!(k1 == k2))) W := by
  rw [run_neq_struct, eqi 9998]
  rfl
theorem wpList_neq32 {ops : Array Oper} {rest : List Oper} {o : Oper} {a : Act} {Q : Exit → Act → World → Prop} {w : World} (hg : o.guard = none) {x y : Operand} (hop : o.op = Op.binOp .neq 32 x y 32)
    (b1 b2 b3 : Bool) (ft : Int) (s : ByteArray) (k1 k2 : Int) (hx : a.eval x = .agg #[.string s, .int .u16 ft, .bool b1, .bool b2, .bool b3, .int .u8 k1]) (hy : a.eval y = .agg #[.string s, .int .u16 ft, .bool b1, .bool b2, .bool b3, .int .u8 k2])
    (hK : wpList Try.prog ops Q rest (a.put o.dst (.bool (!(k1 == k2)))) w) : wpList Try.prog ops Q (o :: rest) a w := by
  refine wpList_plain hg fun K' hK' => ?_
  unfold Oper.wp
  have h1 := run_eqGuard_agg (P := Try.prog) w .neq 32 x y #[.string s, .int .u16 ft, .bool b1, .bool b2, .bool b3, .int .u8 k1] #[.string s, .int .u16 ft, .bool b1, .bool b2, .bool b3, .int .u8 k2] (by kernel_rfl)
  have h2 := neq32 b1 b2 b3 ft s k1 k2 w
  simp [execOp, hop, hx, hy, h1, h2, Result.andThen]
  exact hK' _ _ hK
def EqB (x : Bool) (w : World) (e : Ending) (w' : World) : Prop := e = .returned (.bool x) ∧ Below w.heap.size w w'
set_option maxRecDepth 100000 in
theorem eq8_ne (T1 T2 : Nat) (m : Option Nat) (b1 b2 b3 : Bool) (ft : Int) (s : ByteArray) (k1 k2 : Int) (hk : ¬ k1 = k2) (w : World) (h1 : OAt w T1 m b1 b2 b3 ft s k1) (h2 : OAt w T2 m b1 b2 b3 ft s k2) :
    Calls Try.prog 8 #[.pointer (some ⟨T1, 0, none⟩), .pointer (some ⟨T2, 0, none⟩)] w (EqB false w) := by
  have x0 := h1.c0; have x1 := h1.c1; have x2 := h1.c2; have x3 := h1.c3; have x4 := h1.c4; have x5 := h1.c5; have x6 := h1.c6
  have y0 := h2.c0; have y1 := h2.c1; have y2 := h2.c2; have y3 := h2.c3; have y4 := h2.c4; have y5 := h2.c5; have y6 := h2.c6
  clear h1 h2
  have x0' := fun d os => cell_regrown x0 d os
  have x1' := fun d os => cell_regrown x1 d os
  have x2' := fun d os => cell_regrown x2 d os
  have x3' := fun d os => cell_regrown x3 d os
  have x4' := fun d os => cell_regrown x4 d os
  have x5' := fun d os => cell_regrown x5 d os
  have x6' := fun d os => cell_regrown x6 d os
  have y0' := fun d os => cell_regrown y0 d os
  have y1' := fun d os => cell_regrown y1 d os
  have y2' := fun d os => cell_regrown y2 d os
  have y3' := fun d os => cell_regrown y3 d os
  have y4' := fun d os => cell_regrown y4 d os
  have y5' := fun d os => cell_regrown y5 d os
  have y6' := fun d os => cell_regrown y6 d os
  have hk' : (k1 == k2) = false := by simpa using hk
  go_enter Try.func8, Try.ntmps8
  go_wp2
  refine drawn_tail 8 (by kernel_rfl) (by kernel_rfl) (by kernel_rfl) (fun Q hQ => ?_)
  simp only [List.take_succ_cons, List.take_zero, List.drop_succ_cons, List.drop_zero]
  repeat (quiet_step (fail))
  refine wpQuiet_nil ?_
  clear x0 x0' x1 x1' x2 x2' x3 x3' x4 x4' x5 x5' x6 x6' y0 y0' y1 y1' y2 y2' y3 y3' y4 y4' y5 y5' y6 y6'
  intro W2 hw
  have hW : Below w.heap.size w W2 := by
    obtain ⟨⟨d, os⟩, rfl⟩ := hw
    exact below_regrown _ d os
  clear hw
  refine wpList_neq32 rfl rfl b1 b2 b3 ft s k1 k2 rfl rfl ?_
  rw [hk']
  go_wp2
  go_ret
  exact ⟨rfl, hW⟩
set_option maxRecDepth 100000 in
theorem eq8_nil (T1 T2 : Nat) (b1 b2 b3 : Bool) (ft : Int) (s : ByteArray) (k : Int) (w : World) (h1 : OAt w T1 none b1 b2 b3 ft s k) (h2 : OAt w T2 none b1 b2 b3 ft s k) :
    Calls Try.prog 8 #[.pointer (some ⟨T1, 0, none⟩), .pointer (some ⟨T2, 0, none⟩)] w (EqB true w) := by
  have x0 := h1.c0; have x1 := h1.c1; have x2 := h1.c2; have x3 := h1.c3; have x4 := h1.c4; have x5 := h1.c5; have x6 := h1.c6
  have y0 := h2.c0; have y1 := h2.c1; have y2 := h2.c2; have y3 := h2.c3; have y4 := h2.c4; have y5 := h2.c5; have y6 := h2.c6
  have x0' := fun d os => cell_regrown x0 d os
  have x1' := fun d os => cell_regrown x1 d os
  have x2' := fun d os => cell_regrown x2 d os
  have x3' := fun d os => cell_regrown x3 d os
  have x4' := fun d os => cell_regrown x4 d os
  have x5' := fun d os => cell_regrown x5 d os
  have x6' := fun d os => cell_regrown x6 d os
  have y0' := fun d os => cell_regrown y0 d os
  have y1' := fun d os => cell_regrown y1 d os
  have y2' := fun d os => cell_regrown y2 d os
  have y3' := fun d os => cell_regrown y3 d os
  have y4' := fun d os => cell_regrown y4 d os
  have y5' := fun d os => cell_regrown y5 d os
  have y6' := fun d os => cell_regrown y6 d os
  go_enter Try.func8, Try.ntmps8
  go_wp2
  refine drawn_tail 8 (by kernel_rfl) (by kernel_rfl) (by kernel_rfl) (fun Q hQ => ?_)
  simp only [List.take_succ_cons, List.take_zero, List.drop_succ_cons, List.drop_zero]
  repeat (quiet_step (fail))
  refine wpQuiet_nil ?_
  clear x0 x0' x1 x1' x2 x2' x3 x3' x4 x4' x5 x5' x6 x6' y0 y0' y1 y1' y2 y2' y3 y3' y4 y4' y5 y5' y6 y6'
  intro W2 hw
  have hW : Below w.heap.size w W2 := by
    obtain ⟨⟨d, os⟩, rfl⟩ := hw
    exact below_regrown _ d os
  clear hw
  refine wpList_neq32 rfl rfl b1 b2 b3 ft s k k rfl rfl ?_
  rw [beq_self_eq_true, Bool.not_true]
  go_frame
  have g1 := h1.after hW; have g2 := h2.after hW
  clear h1 h2
  have x0 := g1.c0; have y0 := g2.c0
  have x0' := fun d os => cell_regrown x0 d os
  have y0' := fun d os => cell_regrown y0 d os
  go_wp2
  refine drawn_tail 10 (by kernel_rfl) (by kernel_rfl) (by kernel_rfl) (fun Q hQ => ?_)
  simp only [List.take_succ_cons, List.take_zero, List.drop_succ_cons, List.drop_zero]
  repeat (quiet_step (fail))
  refine wpQuiet_nil ?_
  clear x0 y0 x0' y0'
  intro W3 hw
  have hW3 : Below W2.heap.size W2 W3 := by
    obtain ⟨⟨d, os⟩, rfl⟩ := hw
    exact below_regrown _ d os
  clear hw
  replace g1 := g1.after hW3; replace g2 := g2.after hW3
  have hB := hW.trans (hW3.mono hW.size)
  clear hW hW3
  have x0 := g1.c0; have y0 := g2.c0
  have hrg := run_range_nilMap (P := Try.prog) W3 28 95 96 Try.underlying28
  have hnx : ∀ ty, (Instr.next (.pointer (some ⟨W3.heap.size, 0, none⟩)) false ty).run Try.prog (W3.alloc (.mapIter none 0 #[] 0)) = _ := fun ty => run_next_nilMap _ ty 0 0 #[]
  have y1 := al y0 (.mapIter none 0 #[] 0)
  have hrg1 := run_range_nilMap (P := Try.prog) (W3.alloc (.mapIter none 0 #[] 0)) 28 95 96 Try.underlying28
  have hnx1 : ∀ ty, (Instr.next (.pointer (some ⟨(W3.alloc (.mapIter none 0 #[] 0)).heap.size, 0, none⟩)) false ty).run Try.prog ((W3.alloc (.mapIter none 0 #[] 0)).alloc (.mapIter none 0 #[] 0)) = _ := fun ty => run_next_nilMap _ ty 0 0 #[]
  have e1 : (W3.alloc (.mapIter none 0 #[] 0)).heap.size = W3.heap.size + 1 := by simp
  rw [e1] at hrg1 hnx1
  go_wp2
  refine wp_loop_rounds 1 ?_
  rw [rounds_succ]
  go_wp2
  refine wp_loop_rounds 1 ?_
  rw [rounds_succ]
  go_wp2
  go_ret
  exact ⟨rfl, (hB.alloc hB.size _).alloc (by have := hB.size; simp; omega) _⟩
set_option maxRecDepth 100000 in
theorem eq8_own (T1 T2 : Nat) (b n : Nat) (D : DataW Unit) (b1 b2 b3 : Bool) (ft : Int) (s : ByteArray) (k : Int) (w : World) (hown0 : w.ownsMap Try.prog 95 (plainElem Try.prog 96) b n D) (h1 : OAt w T1 (some b) b1 b2 b3 ft s k) (h2 : OAt w T2 (some b) b1 b2 b3 ft s k) :
    Calls Try.prog 8 #[.pointer (some ⟨T1, 0, none⟩), .pointer (some ⟨T2, 0, none⟩)] w (EqB true w) := by
  have x0 := h1.c0; have x1 := h1.c1; have x2 := h1.c2; have x3 := h1.c3; have x4 := h1.c4; have x5 := h1.c5; have x6 := h1.c6
  have y0 := h2.c0; have y1 := h2.c1; have y2 := h2.c2; have y3 := h2.c3; have y4 := h2.c4; have y5 := h2.c5; have y6 := h2.c6
  have x0' := fun d os => cell_regrown x0 d os
  have x1' := fun d os => cell_regrown x1 d os
  have x2' := fun d os => cell_regrown x2 d os
  have x3' := fun d os => cell_regrown x3 d os
  have x4' := fun d os => cell_regrown x4 d os
  have x5' := fun d os => cell_regrown x5 d os
  have x6' := fun d os => cell_regrown x6 d os
  have y0' := fun d os => cell_regrown y0 d os
  have y1' := fun d os => cell_regrown y1 d os
  have y2' := fun d os => cell_regrown y2 d os
  have y3' := fun d os => cell_regrown y3 d os
  have y4' := fun d os => cell_regrown y4 d os
  have y5' := fun d os => cell_regrown y5 d os
  have y6' := fun d os => cell_regrown y6 d os
  have H2 := Lib.hid h2
  go_enter Try.func8, Try.ntmps8
  go_wp2
  refine drawn_tail 8 (by kernel_rfl) (by kernel_rfl) (by kernel_rfl) (fun Q hQ => ?_)
  simp only [List.take_succ_cons, List.take_zero, List.drop_succ_cons, List.drop_zero]
  repeat (quiet_step (fail))
  refine wpQuiet_nil ?_
  clear x0 x0' x1 x1' x2 x2' x3 x3' x4 x4' x5 x5' x6 x6' y0 y0' y1 y1' y2 y2' y3 y3' y4 y4' y5 y5' y6 y6'
  intro W2 hw
  have hW : Below w.heap.size w W2 := by
    obtain ⟨⟨d, os⟩, rfl⟩ := hw
    exact below_regrown _ d os
  clear hw
  refine wpList_neq32 rfl rfl b1 b2 b3 ft s k k rfl rfl ?_
  rw [beq_self_eq_true, Bool.not_true]
  go_frame
  have g1 := h1.after hW; have g2 := h2.after hW
  clear h1 h2
  have x0 := g1.c0; have y0 := g2.c0
  have x0' := fun d os => cell_regrown x0 d os
  have y0' := fun d os => cell_regrown y0 d os
  have hl := fun d os ty => (own_below hown0 (hW.trans ((below_regrown W2 d os).mono hW.size))).len Try.underlying28 ty
  go_wp2
  refine drawn_tail 10 (by kernel_rfl) (by kernel_rfl) (by kernel_rfl) (fun Q hQ => ?_)
  simp only [List.take_succ_cons, List.take_zero, List.drop_succ_cons, List.drop_zero]
  repeat (quiet_step (fail))
  refine wpQuiet_nil ?_
  clear x0 y0 x0' y0' hl
  intro W3 hw
  have hW3 : Below W2.heap.size W2 W3 := by
    obtain ⟨⟨d, os⟩, rfl⟩ := hw
    exact below_regrown _ d os
  clear hw
  replace g1 := g1.after hW3; replace g2 := g2.after hW3
  have hB := hW.trans (hW3.mono hW.size)
  clear hW hW3
  have hown := own_below hown0 hB
  have y0 := g2.c0
  clear hown0
  have x0 := g1.c0
  go_wp2_with (at_range; refine wpList_range_own _ rfl _ 28 rfl 95 96 law95 Try.underlying28 _ b n _ rfl hown ?_; intro w0 hrg0 hg0 hs0)
  go_frame
  have zE := fun (W : World) => show (zeroValue 96).run Try.prog W = .ok (.int .u8 0) W by kernel_rfl
  go_loopw [] (fun wr => ∃ (left : Lit → Bool) (cnt : Nat), wr.ranges Try.prog 95 (plainElem Try.prog 96) b W3.heap.size n D left cnt ∧ (∀ z, left z = true → Maps.has D z = true) ∧ Below w.heap.size w wr)
    (fun wr => wr.rangeLeft b W3.heap.size)
  case atStart => exact ⟨_, _, hrg0, fun z h => h, hB.grown hg0 hB.size (fun j hj => by cases hj)⟩
  case round =>
    obtain ⟨left, cnt, hrg, hle, hBr⟩ := hrel
    go_wp2_with (at_next; refine wpList_next_ranges_ii _ rfl _ rfl 95 96 .u16 .u8 law95 Try.underlying95 Try.underlying96 b W3.heap.size n _ _ _ rfl hrg ?_ ?_)
    · intro hc0 hl0
      obtain ⟨wo, rfl⟩ : ∃ wo, wo = wr := ⟨_, rfl⟩
      have y0 := (H2.out.after hBr).c0
      have hown5 := hrg.owns
      clear hrg hown g1 g2 x0
      go_wp2_with (at_range; refine wpList_range_own _ rfl _ 28 rfl 95 96 law95 Try.underlying28 _ b n _ rfl hown5 ?_; intro w5 hrg5 hg5 hs5)
      go_frame
      go_loopw [] (fun w6 => ∃ (left : Lit → Bool) (cnt : Nat), w6.ranges Try.prog 95 (plainElem Try.prog 96) b wo.heap.size n D left cnt ∧ (∀ z, left z = true → Maps.has D z = true) ∧ Below w.heap.size w w6)
        (fun w6 => w6.rangeLeft b wo.heap.size)
      case atStart => exact ⟨_, _, hrg5, fun z h => h, hBr.grown hg5 hBr.size (fun j hj => by cases hj)⟩
      case round =>
        obtain ⟨left2, cnt2, hrg, hle2, hBs⟩ := hrel
        go_wp2_with (at_next; refine wpList_next_ranges_ii _ rfl _ rfl 95 96 .u16 .u8 law95 Try.underlying95 Try.underlying96 b wo.heap.size n _ _ _ rfl hrg ?_ ?_)
        · intro hc1 hl1
          go_wp2
          go_ret
          exact ⟨rfl, hBs⟩
        · intro x c w1 cnt1 hwx hwc hlx hat hrg1 hlt hg1 hs1 hen
          have hh := hle2 _ hlx
          have hB1 := hBs.grown hg1 hBs.size (fun j hj => by cases hj; exact hBr.size)
          have y0 := (H2.out.after hB1).c0
          go_wp2_with (at_lookup; refine wpList_lookup_own_ok_int _ rfl _ _ 28 rfl 95 96 .u8 law95 Try.underlying28 Try.underlying96 (zE _) b n D rfl hrg1.owns _ _ rfl (keyOf_int_mk Try.underlying95 hwx) ?_; intro c' hat' hwc')
          exact ⟨⟨_, cnt1, hrg1, fun z hz => hle2 _ (by simp at hz; exact hz.1), hB1⟩, by rw [hrg1.left_eq, hrg.left_eq]; exact hlt⟩
    · intro x c w1 cnt1 hwx hwc hlx hat hrg1 hlt hg1 hs1 hen
      have hh := hle _ hlx
      have hB1 := hBr.grown hg1 hBr.size (fun j hj => by cases hj; exact hB.size)
      have y0 := (H2.out.after hB1).c0
      go_wp2_with (at_lookup; refine wpList_lookup_own_ok_int _ rfl _ _ 28 rfl 95 96 .u8 law95 Try.underlying28 Try.underlying96 (zE _) b n D rfl hrg1.owns _ _ rfl (keyOf_int_mk Try.underlying95 hwx) ?_; intro c' hat' hwc'; obtain rfl : c = c' := (by have := (hat _).symm.trans hat'; injection this with this; injection this))
      exact ⟨⟨_, cnt1, hrg1, fun z hz => hle _ (by simp at hz; exact hz.1), hB1⟩, by rw [hrg1.left_eq, hrg.left_eq]; exact hlt⟩
/-- what is said of a map that may be nil -/
def MpO (w : World) (m : Option Nat) : Prop := ∀ b, m = some b → Mp w b
theorem MpO.after {w w' : World} {m : Option Nat} (h : MpO w m) (hb : Below w.heap.size w w') : MpO w' m := fun b e => (h b e).after hb
theorem eq8_c (T1 T2 : Nat) (m : Option Nat) (b1 b2 b3 : Bool) (ft : Int) (s : ByteArray) (k1 k2 : Int) (w : World) (hm : MpO w m) (h1 : OAt w T1 m b1 b2 b3 ft s k1) (h2 : OAt w T2 m b1 b2 b3 ft s k2) :
    Calls Try.prog 8 #[.pointer (some ⟨T1, 0, none⟩), .pointer (some ⟨T2, 0, none⟩)] w (EqB (k1 == k2) w) := by
  by_cases hk : k1 = k2
  · subst hk
    rw [beq_self_eq_true]
    cases m with
    | none => exact eq8_nil T1 T2 b1 b2 b3 ft s k1 w h1 h2
    | some b =>
      obtain ⟨n, D, -, ho⟩ := hm b rfl
      exact eq8_own T1 T2 b n D b1 b2 b3 ft s k1 w ho h1 h2
  · have e : (k1 == k2) = false := by simpa using hk
    rw [e]
    exact eq8_ne T1 T2 m b1 b2 b3 ft s k1 k2 hk w h1 h2
end Go.Proofs.Ytjhhecpnonaniaa
