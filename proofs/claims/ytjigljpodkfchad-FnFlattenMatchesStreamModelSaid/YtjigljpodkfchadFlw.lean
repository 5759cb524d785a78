/- FnFlattenMatchesStreamModel: small functions: names, kinds, the parser. -/
import Derived.Test.YtjigljpodkfchadFlv
import Derived.Test.YtjigljpodkfchadIU
set_option linter.unusedVariables false
set_option linter.unusedSimpArgs false
namespace Go.Proofs.Ytjigljpodkfchad
open Go.RowKit
set_option maxRecDepth 100000
set_option maxHeartbeats 40000000
theorem is25_c (s : ByteArray) (hs : s.size ≤ 1048576) (w : World) : Calls Try.prog 25 #[.string s] w (RetS (.string (encIs s)) w) := by
  have he : encIs s = (((⟨#[119]⟩ ++ ⟨#[50]⟩) ++ ⟨#[124, 40, 95]⟩) ++ s) ++ ⟨#[35, 48, 41]⟩ := by
    unfold encIs
    rw [bs_app, bs_app, bs_byt]
    have h1 : bs [119, 50, 124, 40, 95] = (⟨#[119]⟩ ++ ⟨#[50]⟩) ++ ⟨#[124, 40, 95]⟩ := by decide
    have h2 : bs [35, 48, 41] = ⟨#[35, 48, 41]⟩ := by decide
    rw [h1, h2]
  have C35 := Lib.hid (dig35_c 2 (by omega) w)
  have hd : digZ 2 = ⟨#[50]⟩ := by decide
  rw [hd] at C35
  rw [he]
  clear he hd
  have q1 : ¬ (9223372036854775807 < 5 + s.size) := by omega
  have q2 : ¬ (9223372036854775807 < 5 + s.size + 3) := by omega
  have q3 : ¬ (9223372036854775807 < s.size + 8) := by omega
  have q4 : ¬ (9223372036854775807 < 8 + s.size) := by omega
  clear hs
  go_enter Try.func25, Try.ntmps25
  go_wp2_with (go_at_call 35; (with_reducible refine C35.out.mono ?_); rintro e w7 ⟨rfl, rfl⟩)
  exact bodyPost_ret (v := .string ((((⟨#[119]⟩ ++ ⟨#[50]⟩) ++ ⟨#[124, 40, 95]⟩) ++ s) ++ ⟨#[35, 48, 41]⟩)) (by simp [results, Try.results25, go_sem]) rfl ⟨rfl, rfl⟩
def nameOf (k : SK) : Value := match k with
  | .inl nm => .tuple #[.string nm, .bool true]
  | .inr _ => .tuple #[.string ⟨#[]⟩, .bool false]
theorem name42_c (t : TypeId) (p : Value) (k : SK) (w : World) (h : SeeS w t p k) : Calls Try.prog 42 #[.agg #[.iface t p, .int .i32 0, .int .i32 0]] w (RetV (nameOf k) w) := by
  cases k with
  | inl nm =>
    obtain ⟨rfl, B, rfl, hc⟩ := h
    have hc' := fun o => al hc o
    have tq := fun W' => ta124 (.pointer (some ⟨B, 0, none⟩)) W'
    show Calls Try.prog 42 _ w (RetV (.tuple #[.string nm, .bool true]) w)
    go_enter Try.func42, Try.ntmps42
    go_wp2
    exact bodyPost_ret (v := .tuple #[.string nm, .bool true]) (by simp [results, Try.results42, go_sem]) rfl ⟨rfl, ba _ _⟩
  | inr q =>
    obtain ⟨kd, l⟩ := q
    obtain ⟨rfl, B, rfl, hc⟩ := h
    have tq := fun W' => tb128 (.pointer (some ⟨B, 0, none⟩)) W'
    show Calls Try.prog 42 _ w (RetV (.tuple #[.string ⟨#[]⟩, .bool false]) w)
    go_enter Try.func42, Try.ntmps42
    go_wp2
    exact bodyPost_ret (v := .tuple #[.string ⟨#[]⟩, .bool false]) (by simp [results, Try.results42, go_sem]) rfl ⟨rfl, ba _ _⟩
theorem wrap43_c (Z Y c1 : Nat) (kd : Int) (v1 v2 : Value) (w : World) (h : Seg w Z 0 [.slice (some ⟨Y, 0, none⟩) 1 c1, v1, v2, .int .u8 kd]) : Calls Try.prog 43 #[.agg #[.iface 128 (.pointer (some ⟨Z, 0, none⟩)), .int .i32 0, .int .i32 0]] w (RetV (.tuple #[.int .u8 kd, .slice (some ⟨Y, 0, none⟩) 1 c1, .bool true]) w) := by
  obtain ⟨x0, -, -, x3⟩ := segs4' h
  simp only [Nat.zero_add] at x0 x3
  have tq := fun W' => tc128 (.pointer (some ⟨Z, 0, none⟩)) W'
  clear h
  go_enter Try.func43, Try.ntmps43
  go_upto_region 4 with fail
  refine wp_gen (fun wc hW => ?_)
  have bW : Hid (Below w.heap.size w wc) := Lib.hid (by rw [hW]; exact ba _ _)
  clear hW
  replace x0 := ac bW.out x0
  replace x3 := ac bW.out x3
  refine QTail.wp_region_each (fun i v _ => v = ([.pointer (some ⟨Z, 0, none⟩), .pointer (some ⟨Z, 0, none⟩), .pointer (some ⟨Z, 3, none⟩), .int .u8 kd, .pointer (some ⟨Z, 0, none⟩), .pointer (some ⟨Z, 0, none⟩), .pointer (some ⟨Z, 0, none⟩), .slice (some ⟨Y, 0, none⟩) 1 c1, .int .u8 kd, .slice (some ⟨Y, 0, none⟩) 1 c1, .bool true] : List Value).getD i undef) (fun W' => Below wc.heap.size wc W') (by kernel_rfl) (by kernel_rfl) (Below.refl _ _).drew ?_ ?_
  · refine ⟨?_, ?_, ?_, ?_, ?_, ?_, ?_, ?_, ?_, ?_, ?_, trivial⟩
    all_goals intro vs W' hC hd
    · clear hd
      replace x0 := ac hC x0; replace x3 := ac hC x3
      replace hC := Lib.hid hC
      simp only [QTail.putA, Nat.reduceAdd, Act.put, List.setIfInBounds_toArray, List.set_cons_succ, List.set_cons_zero]
      go_wp2
      exact hC.out
    · have d0 : vs 0 = .pointer (some ⟨Z, 0, none⟩) := hd { on := 0, ground := Ground.data } (by simp) rfl
      clear hd
      replace x0 := ac hC x0; replace x3 := ac hC x3
      replace hC := Lib.hid hC
      simp only [QTail.putA, Nat.reduceAdd, Act.put, List.setIfInBounds_toArray, List.set_cons_succ, List.set_cons_zero]
      go_wp2
      exact hC.out
    · have d1 : vs 1 = .pointer (some ⟨Z, 0, none⟩) := hd { on := 1, ground := Ground.data } (by simp) rfl
      clear hd
      replace x0 := ac hC x0; replace x3 := ac hC x3
      replace hC := Lib.hid hC
      simp only [QTail.putA, Nat.reduceAdd, Act.put, List.setIfInBounds_toArray, List.set_cons_succ, List.set_cons_zero]
      go_wp2
      exact hC.out
    · have d2 : vs 2 = .pointer (some ⟨Z, 3, none⟩) := hd { on := 2, ground := Ground.data } (by simp) rfl
      clear hd
      replace x0 := ac hC x0; replace x3 := ac hC x3
      replace hC := Lib.hid hC
      simp only [QTail.putA, Nat.reduceAdd, Act.put, List.setIfInBounds_toArray, List.set_cons_succ, List.set_cons_zero]
      go_wp2
      exact hC.out
    · clear hd
      replace x0 := ac hC x0; replace x3 := ac hC x3
      replace hC := Lib.hid hC
      simp only [QTail.putA, Nat.reduceAdd, Act.put, List.setIfInBounds_toArray, List.set_cons_succ, List.set_cons_zero]
      go_wp2
      exact hC.out
    · have d4 : vs 4 = .pointer (some ⟨Z, 0, none⟩) := hd { on := 4, ground := Ground.data } (by simp) rfl
      clear hd
      replace x0 := ac hC x0; replace x3 := ac hC x3
      replace hC := Lib.hid hC
      simp only [QTail.putA, Nat.reduceAdd, Act.put, List.setIfInBounds_toArray, List.set_cons_succ, List.set_cons_zero]
      go_wp2
      exact hC.out
    · have d5 : vs 5 = .pointer (some ⟨Z, 0, none⟩) := hd { on := 5, ground := Ground.data } (by simp) rfl
      clear hd
      replace x0 := ac hC x0; replace x3 := ac hC x3
      replace hC := Lib.hid hC
      simp only [QTail.putA, Nat.reduceAdd, Act.put, List.setIfInBounds_toArray, List.set_cons_succ, List.set_cons_zero]
      go_wp2
      exact hC.out
    · have d6 : vs 6 = .pointer (some ⟨Z, 0, none⟩) := hd { on := 6, ground := Ground.data } (by simp) rfl
      clear hd
      replace x0 := ac hC x0; replace x3 := ac hC x3
      replace hC := Lib.hid hC
      simp only [QTail.putA, Nat.reduceAdd, Act.put, List.setIfInBounds_toArray, List.set_cons_succ, List.set_cons_zero]
      go_wp2
      exact hC.out
    · have d3 : vs 3 = .int .u8 kd := hd { on := 3, ground := Ground.data } (by simp) rfl
      clear hd
      replace x0 := ac hC x0; replace x3 := ac hC x3
      replace hC := Lib.hid hC
      simp only [QTail.putA, Nat.reduceAdd, Act.put, List.setIfInBounds_toArray, List.set_cons_succ, List.set_cons_zero]
      go_wp2
      exact hC.out
    · have d7 : vs 7 = .slice (some ⟨Y, 0, none⟩) 1 c1 := hd { on := 7, ground := Ground.data } (by simp) rfl
      clear hd
      replace x0 := ac hC x0; replace x3 := ac hC x3
      replace hC := Lib.hid hC
      simp only [QTail.putA, Nat.reduceAdd, Act.put, List.setIfInBounds_toArray, List.set_cons_succ, List.set_cons_zero]
      go_wp2
      exact hC.out
    · clear hd
      replace x0 := ac hC x0; replace x3 := ac hC x3
      replace hC := Lib.hid hC
      simp only [QTail.putA, Nat.reduceAdd, Act.put, List.setIfInBounds_toArray, List.set_cons_succ, List.set_cons_zero]
      go_wp2
      exact hC.out
  intro vs wd bc hv
  have v0 : vs 0 = .pointer (some ⟨Z, 0, none⟩) := hv 0 (by decide)
  have v1 : vs 1 = .pointer (some ⟨Z, 0, none⟩) := hv 1 (by decide)
  have v2 : vs 2 = .pointer (some ⟨Z, 3, none⟩) := hv 2 (by decide)
  have v3 : vs 3 = .int .u8 kd := hv 3 (by decide)
  have v4 : vs 4 = .pointer (some ⟨Z, 0, none⟩) := hv 4 (by decide)
  have v5 : vs 5 = .pointer (some ⟨Z, 0, none⟩) := hv 5 (by decide)
  have v6 : vs 6 = .pointer (some ⟨Z, 0, none⟩) := hv 6 (by decide)
  have v7 : vs 7 = .slice (some ⟨Y, 0, none⟩) 1 c1 := hv 7 (by decide)
  have v8 : vs 8 = .int .u8 kd := hv 8 (by decide)
  have v9 : vs 9 = .slice (some ⟨Y, 0, none⟩) 1 c1 := hv 9 (by decide)
  have v10 : vs 10 = .bool true := hv 10 (by decide)
  clear hv
  simp only [QTail.putA, Nat.reduceAdd, Act.put, List.setIfInBounds_toArray, List.set_cons_succ, List.set_cons_zero, v0, v1, v2, v3, v4, v5, v6, v7, v8, v9, v10]
  clear v0 v1 v2 v3 v4 v5 v6 v7 v8 v9 v10
  go_wp2
  exact bodyPost_ret (v := .tuple #[.int .u8 kd, .slice (some ⟨Y, 0, none⟩) 1 c1, .bool true]) (by simp [results, Try.results43, go_sem]) rfl ⟨rfl, bW.out.trans (bc.mono bW.out.size)⟩
abbrev parts94 : Array (Nat × Value) := #[(2, .slice none 0 0)]
noncomputable def cs94 : Array Value := (Try.prog.built 94 parts94.toList).getD #[]
theorem built94 : Try.prog.built 94 parts94.toList = some cs94 := by
  have h : (Try.prog.built 94 parts94.toList).isSome = true := by kernel_rfl
  unfold cs94
  cases e : Try.prog.built 94 parts94.toList with
  | none => rw [e] at h; cases h
  | some cs => rfl
theorem at94 : cs94.size = 56 ∧ cs94[53]? = some (.bool false) := ⟨by kernel_rfl, by kernel_rfl⟩
theorem oper_build94 {o : Oper} {a : Act} {K : Act → World → Prop} {Q : Exit → Act → World → Prop} {w : World} {ps : Array (Nat × Operand)} (hop : o.op = Op.build 94 ps)
    (hps : (ps.map fun (i, x) => (i, a.eval x)) = parts94) (hK : K (a.put o.dst (.agg cs94)) w) : Oper.wp Try.prog o a w K Q := by
  unfold Oper.wp
  have h := run_build w 94 _ _ built94
  rw [← hps] at h
  simp [execOp, hop, h, Result.andThen]
  exact hK
def PrsP (md : Int) (w : World) (e : Ending) (w' : World) : Prop := ∃ B, e = .returned (.pointer (some ⟨B, 0, none⟩)) ∧ w.heap.size ≤ B ∧ w'.cell? ⟨B, 52, none⟩ = some (.int .u8 md) ∧ w'.cell? ⟨B, 53, none⟩ = some (.bool false) ∧ w'.frozen? ⟨B, 53, none⟩ = false ∧ Below w.heap.size w w'
theorem prs8_c (md : Int) (w : World) : Calls Try.prog 8 #[.int .u8 md, .bool false, .slice none 0 0, .string ⟨#[]⟩] w (PrsP md w) := by
  go_enter Try.func8, Try.ntmps8
  go_upto_region 2 with fail
  refine wp_gen (fun W hW => ?_)
  have bW : Hid (Below w.heap.size w W) := Lib.hid (by rw [hW]; exact ba _ _)
  have rW : Hid (Room W w.heap.size 56) := Lib.hid (by rw [hW]; exact Room.newN _ _ rfl _)
  have c53 : Hid (W.cell? ⟨w.heap.size, 53, none⟩ = some (.bool false)) := Lib.hid (by rw [hW]; simp [go_sem])
  clear hW
  obtain ⟨B, hB⟩ : ∃ y, w.heap.size = y := ⟨_, rfl⟩
  rw [hB] at rW c53 ⊢
  replace hB := Lib.hid hB
  obtain ⟨_, x9, f9⟩ := rW.out 9 (by omega)
  go_upto_region 3 with fail
  refine wp_gen (fun W2 hW => ?_)
  have r2 : Hid (Room W2 B 56) := Lib.hid (by rw [hW]; exact rW.out.setA _ _)
  have c2 : Hid (W2.cell? ⟨B, 53, none⟩ = some (.bool false)) := Lib.hid (by rw [hW, co (by intro q; injection q; omega)]; exact c53.out)
  have k2 : Hid (Kp (fun b => b = B) W W2) := Lib.hid (by rw [hW]; exact (Kp.refl _).set _ _ (.inl rfl))
  clear hW x9 f9 rW c53
  obtain ⟨_, x52, f52⟩ := r2.out 52 (by omega)
  go_upto_region 4 with fail
  refine wp_gen (fun W3 hW => ?_)
  have r3 : Hid (Room W3 B 56) := Lib.hid (by rw [hW]; exact r2.out.setA _ _)
  have c3 : Hid (W3.cell? ⟨B, 53, none⟩ = some (.bool false)) := Lib.hid (by rw [hW, co (by intro q; injection q; omega)]; exact c2.out)
  have m3 : Hid (W3.cell? ⟨B, 52, none⟩ = some (.int .u8 md)) := Lib.hid (by rw [hW]; exact cs x52)
  have k3 : Hid (Kp (fun b => b = B) W W3) := Lib.hid (by rw [hW]; exact k2.out.set _ _ (.inl rfl))
  clear hW x52 f52 r2 c2 k2
  obtain ⟨_, x49, f49⟩ := r3.out 49 (by omega)
  obtain ⟨_, x53, f53⟩ := r3.out 53 (by omega)
  have f53' := Lib.hid f53
  clear x53 f53
  go_upto_region 5 with fail
  refine wp_gen (fun W4 hW => ?_)
  have c4 : Hid (W4.cell? ⟨B, 53, none⟩ = some (.bool false)) := Lib.hid (by rw [hW, co (by intro q; injection q; omega)]; exact c3.out)
  have m4 : Hid (W4.cell? ⟨B, 52, none⟩ = some (.int .u8 md)) := Lib.hid (by rw [hW, co (by intro q; injection q; omega)]; exact m3.out)
  have r4 : Hid (Room W4 B 56) := Lib.hid (by rw [hW]; exact r3.out.setA _ _)
  have k4 : Hid (Kp (fun b => b = B) W W4) := Lib.hid (by rw [hW]; exact k3.out.set _ _ (.inl rfl))
  clear hW x49 f49
  go_wp2
  exact bodyPost_ret (v := .pointer (some ⟨B, 0, none⟩)) (by simp [results, Try.results8, go_sem]) rfl ⟨B, rfl, by rw [hB.out]; exact Nat.le_refl _, m4.out, c4.out, by obtain ⟨_, _, h⟩ := r4.out 53 (by omega); exact h, bW.out.trans (k4.out.below bW.out.size (fun b e => by have : b = B := e; have := hB.out; omega))⟩
theorem nest14_c (B : Nat) (b : Bool) (w : World) (h : w.cell? ⟨B, 53, none⟩ = some (.bool b)) : Calls Try.prog 14 #[.pointer (some ⟨B, 0, none⟩)] w (RetS (.bool b) w) := by
  go_enter Try.func14, Try.ntmps14
  go_wp2
  go_ret
  exact ⟨rfl, rfl⟩
end Go.Proofs.Ytjigljpodkfchad
