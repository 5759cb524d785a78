/- FnSubstituteAmpersandsClosedForm: the stand-in's two functions, ZZSubstitute. -/
import Derived.Test.YtjigljpodkfchaaFmtSul
set_option linter.unusedVariables false
set_option linter.unusedSimpArgs false
namespace Go.Proofs.YtjigljpodkfchaaFmt
open Go.RowKit
set_option maxRecDepth 100000
set_option maxHeartbeats 40000000
theorem one_fn (v : Value) (x : CxR ByteArray) (r0 : CpR ByteArray) (w0 : World) (B g n c : Nat) (hB : w0.cell? ⟨B, 0, none⟩ = some (.slice (some ⟨g, 0, none⟩) n c)) (h1 : n = 1) (hg : w0.cell? ⟨g, 0, none⟩ = some (.slice x.a x.ls.length x.c)) (hx : x.ls = [r0]) (hG : RCp G0 (Ob v) w0 x.a x.ls) (W : World) (hb : Below w0.heap.size w0 W) : Calls Tryf.prog 30 (#[.agg #[.int .i32 0]] ++ #[.pointer (some ⟨B, 0, none⟩)]) W (FnP r0.cb (r0.ls.map (fun s => .inl s.k)) v w0.heap.size W) := by
  have hgW : W.cell? ⟨g, 0, none⟩ = some (.slice x.a 1 x.c) := by have := ac hb hg; rw [hx] at this; exact this
  show Calls Tryf.prog 30 #[.agg #[.int .i32 0], .pointer (some ⟨B, 0, none⟩)] W _
  refine (fun30_c x.a 1 x.c W B g n c (ac hb hB) h1 hgW).mono ?_
  rintro e w' ⟨rfl, hbw⟩
  have hG' := hG.keep G0.keep (Kc.of_below (O := Ob v) (hb.trans (hbw.mono hb.size))) (fun _ _ q => q)
  obtain ⟨gx, e1, e2, e3, e4, -, e5⟩ := hG 0 r0 (by rw [hx]; rfl)
  obtain ⟨gx', f1, f2, f3, f4, -, f5⟩ := hG' 0 r0 (by rw [hx]; rfl)
  rw [e1] at f1
  injection f1 with f1
  injection f1 with f1
  subst f1
  rw [e1]
  rw [Nat.zero_mul] at f3
  refine ⟨gx, x.c, ⟨r0.a, r0.c, r0.ls.map (fun s => ⟨s.t, s.p, .inl s.k⟩), r0.nx, r0.nn, r0.nc, r0.cb⟩, fun _ => False, rfl, ?_, by rw [List.map_map]; rfl, fun i s hi => ?_, fun _ q => q.elim, Dist.plain (fun s hs => ?_), hbw⟩
  · show Seg w' gx 0 [.pointer none, .slice r0.a (r0.ls.map _).length r0.c, .slice r0.nx r0.nn r0.nc, .int .i32 0, .int .u8 r0.cb, .bool false]
    rw [List.length_map]
    exact f3
  · rw [List.getElem?_map] at hi
    cases hs : r0.ls[i]? with
    | none => rw [hs] at hi; cases hi
    | some s0 =>
      rw [hs] at hi
      injection hi with hi
      subst hi
      obtain ⟨g4, k1, k2, k3, k4⟩ := e4 i s0 hs
      obtain ⟨g5, l1, l2, l3, l4⟩ := f4 i s0 hs
      rw [k1] at l1
      injection l1 with l1
      injection l1 with l1
      subst l1
      have hlt := k3.lt
      refine ⟨g4, k1, fun q => ?_, id, l3, ?_⟩
      · rcases q with q | q
        · exact k2 q
        · omega
      · have k5 := G1.of0 k4
        exact G1.keep (S := fun _ => False) (Zs' := fun _ => False) (O' := fun b => Ob v b ∨ w0.heap.size ≤ b ∧ b < W.heap.size) k5 (Kc.of_below (hb.trans (hbw.mono hb.size))) (fun b hb q => by rcases q with q | q; exact q; omega) (fun _ _ => Iff.rfl) (fun _ q => q.elim) (fun _ _ _ q => q)
  · obtain ⟨s', hs', rfl⟩ := List.mem_map.1 hs
    obtain ⟨i, hi⟩ := List.getElem?_of_mem hs'
    obtain ⟨g, -, -, -, hg⟩ := f4 i s' hi
    exact hg.1
theorem many_fn (v : Value) (lc : Int) (a : Option Addr) (n c : Nat) (ls : List (CxR ByteArray)) (w0 : World) (B C : Nat) (hv : ∀ b, Ob v b → b < w0.heap.size) (hB : w0.cell? ⟨B, 0, none⟩ = some (.int .i32 0)) (hB1 : w0.cell? ⟨B, 1, none⟩ = some (.int .u8 lc)) (hC : w0.cell? ⟨C, 0, none⟩ = some (.slice a n c)) (hG : RCx G0 (Ob v) w0 a ls) (hn : ls.length = n) (W : World) (hb : Below w0.heap.size w0 W) : Calls Tryf.prog 31 (#[.agg #[.int .i32 0]] ++ #[.pointer (some ⟨B, 0, none⟩), .pointer (some ⟨C, 0, none⟩)]) W (FnP lc [.inr (ls.map CxR.key)] v w0.heap.size W) := by
  show Calls Tryf.prog 31 #[.agg #[.int .i32 0], .pointer (some ⟨B, 0, none⟩), .pointer (some ⟨C, 0, none⟩)] W _
  refine (fun31_c W B C lc a n c (ac hb hB) (ac hb hB1) (ac hb hC)).mono ?_
  rintro e w' ⟨g, Y, Z, rfl, h1, h2, h3, h4, h5, h6, h7, h8⟩
  have hz := hb.size
  refine ⟨g, 1, ⟨some ⟨Y, 0, none⟩, 1, [⟨116, .pointer (some ⟨Z, 0, none⟩), .inr (ls.map CxR.key)⟩], none, 0, 0, lc⟩, fun b => b = Z, rfl, h1, rfl, fun i s hi => ?_, fun Z' q => by rw [q]; exact ⟨h5, h4⟩, fun i j s s' hi hj hij ht => ?_, h8⟩
  · cases i with
    | succ i => simp at hi
    | zero =>
      injection hi with hi
      subst hi
      refine ⟨Y, rfl, fun q => ?_, fun q => by omega, by rw [Nat.zero_mul]; exact h2, ⟨rfl, Z, a, c, n, ls, rfl, rfl, fun q => ?_, h3, RCx.keep G0.keep hG (Kc.of_below (O := Ob v) (hb.trans (h8.mono hz))) (fun b hb2 q => ?_), hn, rfl⟩⟩
      · rcases q with q | q
        · have := hv Y q; omega
        · omega
      · rcases q with q | q
        · have := hv Z q; omega
        · omega
      · rcases q with (q | q) | q
        · exact q
        · omega
        · have : b = Z := q
          omega
  · cases i with
    | succ i => simp at hi
    | zero =>
      cases j with
      | zero => exact absurd rfl hij
      | succ j => simp at hj
def R7 (x1 x2 vr : Value) (st : Int) (FV : Value → World → Prop) (j : Nat) (v : Value) (W : World) : Prop :=
  (j = 0 → v = x1) ∧ (j = 1 → v = x2) ∧ (j = 2 → FV v W) ∧ (j = 3 → v = vr) ∧ (j = 4 → v = .int .u8 st)
theorem sub7_g (FV : Value → World → Prop) (hst : ∀ v W W', Below W.heap.size W W' → FV v W → FV v W') (rc : Int) (rep : List SK) (st : Int) (hst1 : st = 0 ∨ st = 1) (r : CpR ByteArray) (am : Nat) (hnn : r.nn = am) (ham : am ≤ 255) (hl : r.ls.length ≤ 1048576) (hrep : am * rep.length ≤ 65536) (hgood : ∀ pk, Sum.inr pk ∈ rep → GoodK pk) (w : World) (base n : Nat) (v : Value) (xs : List Value) (h : GCp G0 (Ob v) w r) (hO : w.ownsRow base 40 6 v n xs) (hn : n ≤ 1048576) (hb : base ≤ w.heap.size) (pa : Value) (h21 : ∀ p W, Below w.heap.size w W → Calls Tryf.prog 21 #[p, pa] W (fun e w' => ∃ u, e = .returned u ∧ FV u w' ∧ Below W.heap.size W w'))
    (hfv : ∀ u W, FV u W → Below w.heap.size w W → ∃ fn caps, u = .func (.func fn) #[] caps ∧ (∀ W', (callFunc fn (#[.agg #[.int .i32 0]] ++ caps)).run Tryf.prog W' = .ok (.enter fn (#[.agg #[.int .i32 0]] ++ caps)) W') ∧ ∀ W', Below W.heap.size W W' → Calls Tryf.prog fn (#[.agg #[.int .i32 0]] ++ caps) W' (FnP rc rep v W.heap.size W')) : Calls Tryf.prog 7 #[.agg r.arr, pa, v, .int .u8 st] w (F20P r.cb am st rc rep (r.ls.map SubR.k) base n v xs w) := by
  have C20 := Lib.hid (fun (p : Value) (W : World) (hB : Below w.heap.size w W) (u : Value) (hu : FV u W) => (by
    obtain ⟨fn, caps, rfl, hcf, hF⟩ := hfv u W hu hB
    refine (sub20_c p fn caps rc rep st hst1 r am hnn ham hl hrep hgood W base n v xs (GCp.keep G0.keep _ _ _ _ _ h (Kc.of_below hB) (fun _ _ q => q)) (own_below hO hB) hn (by have := hB.size; omega) hcf hF).mono ?_
    rintro e w' ⟨a, c, r', Zs, q1, q2, q3, q4, q5, q6, q7, q8⟩
    exact ⟨a, c, r', Zs, q1, q2, q3, q4, q5, q6, (Kp.of hB).trans q7, fun b q => (q8 b q).imp id (fun q => by have := hB.size; omega)⟩ : Calls Tryf.prog 20 #[p, .agg r.arr, u, v, .int .u8 st] W (F20P r.cb am st rc rep (r.ls.map SubR.k) base n v xs w)))
  clear hfv h hO hgood hrep
  replace h21 := Lib.hid h21
  replace hst := Lib.hid hst
  obtain ⟨a, c, ls, nx, nn, nc, cb⟩ := r
  simp only at hnn hl
  subst hnn
  obtain ⟨m, hm⟩ : ∃ m, ls.length = m := ⟨_, rfl⟩
  replace C20 : Hid (∀ (p : Value) (W : World), Below w.heap.size w W → ∀ u, FV u W → Calls Tryf.prog 20 #[p, .agg #[.pointer none, .slice a m c, .slice nx nn nc, .int .i32 0, .int .u8 cb, .bool false], u, v, .int .u8 st] W (F20P cb nn st rc rep (ls.map SubR.k) base n v xs w)) := by rw [← hm]; exact C20
  show Calls Tryf.prog 7 #[.agg #[.pointer none, .slice a ls.length c, .slice nx nn nc, .int .i32 0, .int .u8 cb, .bool false], pa, v, .int .u8 st] w (F20P cb nn st rc rep (ls.map SubR.k) base n v xs w)
  rw [hm] at hl ⊢
  clear hm
  have hCQ : Hid (∀ e w', F20P cb nn st rc rep (ls.map SubR.k) base n v xs w e w' → ∃ u, e = .returned u) := Lib.hid (fun e w' q => by obtain ⟨a, c, r', Zs, q1, -⟩ := q; exact ⟨_, q1⟩)
  generalize F20P cb nn st rc rep (ls.map SubR.k) base n v xs w = QQ at *
  go_enter Tryf.func7, Tryf.ntmps7
  go_upto_region 2 with fail
  refine wp_gen (fun W hW => ?_)
  have bW : Hid (Below w.heap.size w W) := Lib.hid (by rw [hW]; exact (ba _ _).alloc (by simp) _)
  have p0 : Hid (Seg W w.heap.size 0 [.pointer none, .slice a m c, .slice nx nn nc, .int .i32 0, .int .u8 cb, .bool false]) := Lib.hid (by rw [hW]; exact (Seg.new _ _ _).after (ba _ _))
  clear hW
  obtain ⟨P, hP⟩ : ∃ y, w.heap.size = y := ⟨_, rfl⟩
  obtain ⟨T, hT⟩ : ∃ y, P + 1 = y := ⟨_, rfl⟩
  have hPw := Lib.hid hP
  have hZ0 := bW.out.size
  rw [hP] at p0 hZ0 ⊢
  simp only [hT]
  clear hP hT
  refine QTail.drawn_rel 5 (R7 (.agg #[.pointer none, .slice a m c, .slice nx nn nc, .int .i32 0, .int .u8 cb, .bool false]) pa v st FV) (by kernel_rfl) (by kernel_rfl) (fun i v W W' h1 h2 => ⟨h2.1, h2.2.1, fun q => hst.out _ _ _ h1 (h2.2.2.1 q), h2.2.2.2.1, h2.2.2.2.2⟩) ?_ ?_
  · simp only [List.take_succ_cons, List.take_zero]
    refine ⟨?_, ?_, ?_, ?_, ?_, trivial⟩
    all_goals intro vs W' hC hd
    · have q0 := segs6 (p0.out.after hC)
      simp only [Nat.zero_add] at q0
      obtain ⟨e0, e1, e2, e3, e4, e5⟩ := q0
      clear hd hC
      simp only [QTail.putA, Nat.reduceAdd, Act.put, List.setIfInBounds_toArray, List.set_cons_succ, List.set_cons_zero]
      go_wp2
      exact ⟨⟨(fun _ => rfl), (fun q => by cases q), (fun q => by cases q), (fun q => by cases q), (fun q => by cases q)⟩, Below.refl _ _⟩
    · clear hd hC
      simp only [QTail.putA, Nat.reduceAdd, Act.put, List.setIfInBounds_toArray, List.set_cons_succ, List.set_cons_zero]
      go_wp2
      exact ⟨⟨(fun q => by cases q), (fun _ => rfl), (fun q => by cases q), (fun q => by cases q), (fun q => by cases q)⟩, Below.refl _ _⟩
    · have e1 := (hd { on := 1, ground := Ground.data } (by simp) rfl).2.1 rfl
      have C21 := Lib.hid (fun p => h21.out p W' (bW.out.trans (hC.mono (by rw [hPw.out]; exact hZ0))))
      clear hd hC
      simp only [QTail.putA, Nat.reduceAdd, Act.put, List.setIfInBounds_toArray, List.set_cons_succ, List.set_cons_zero]
      rw [e1]
      clear e1
      go_wp2_with (go_at_call 21; (with_reducible refine (C21.out _).mono ?_); rintro e w5 ⟨u, rfl, tg, tb⟩; replace tg := Lib.hid tg; replace tb := Lib.hid tb)
      exact ⟨⟨(fun q => by cases q), (fun q => by cases q), (fun _ => tg.out), (fun q => by cases q), (fun q => by cases q)⟩, tb.out⟩
    · clear hd hC
      simp only [QTail.putA, Nat.reduceAdd, Act.put, List.setIfInBounds_toArray, List.set_cons_succ, List.set_cons_zero]
      go_wp2
      exact ⟨⟨(fun q => by cases q), (fun q => by cases q), (fun q => by cases q), (fun _ => rfl), (fun q => by cases q)⟩, Below.refl _ _⟩
    · clear hd hC
      simp only [QTail.putA, Nat.reduceAdd, Act.put, List.setIfInBounds_toArray, List.set_cons_succ, List.set_cons_zero]
      go_wp2
      exact ⟨⟨(fun q => by cases q), (fun q => by cases q), (fun q => by cases q), (fun q => by cases q), (fun _ => rfl)⟩, Below.refl _ _⟩
  · intro vs W3 b3 hR
    have e0 := (hR 0 (by omega)).1 rfl
    have e2 := Lib.hid ((hR 2 (by omega)).2.2.1 rfl)
    have e3 := (hR 3 (by omega)).2.2.2.1 rfl
    have e4 := (hR 4 (by omega)).2.2.2.2 rfl
    have C20' := Lib.hid (fun p => C20.out p W3 (bW.out.trans (b3.mono (by rw [hPw.out]; exact hZ0))) (vs 2) e2.out)
    clear hR
    simp only [List.take_succ_cons, List.take_zero, List.drop_succ_cons, List.drop_zero, QTail.putA, Nat.reduceAdd, Act.put, List.setIfInBounds_toArray, List.set_cons_succ, List.set_cons_zero]
    rw [e0, e3, e4]
    clear e0 e3 e4 e2 b3
    generalize vs 1 = z1
    generalize vs 2 = z2 at *
    clear vs
    go_wp2_with (go_at_call 20; (with_reducible refine (C20'.out _).mono ?_); rintro e w7 h7; (obtain ⟨u7, hu⟩ := hCQ.out e w7 h7); subst hu; replace h7 := Lib.hid h7)
    exact h7.out
end Go.Proofs.YtjigljpodkfchaaFmt
