/- symbolForName at a name that is there. -/
import Derived.Test.YtpjbhbbhkhfiaaaDoorSy2
set_option linter.unusedVariables false
set_option linter.unusedSimpArgs false
namespace Go.Proofs.YtpjbhbbhkhfiaaaDoor
open Go.RowKit
set_option maxRecDepth 100000 in
set_option maxHeartbeats 2000000 in
theorem sym25_old_true (nm : ByteArray) (hn : nm.size ≤ maxLen) (w : World) (S : Nat → Prop) (G B m1 m2 : Nat) (v1 v2 : Value) (l : List SyR) (D : DataW Unit) (hl : l.length ≤ 1048576) (i : Nat) (u : Int) (hi : l[i]? = some ⟨nm, u⟩) (hu0 : 0 ≤ u) (hu1 : u ≤ 1048576) (h : PR w S G B m1 m2 v1 v2 true l D) (hI : Inv w) (hG : 3 ≤ G) :
    Calls Tryd.prog 30 #[.pointer (some ⟨B, 0, none⟩), .agg #[.int .i32 0], .string nm] w (SymB w S G B true i (l.set i ⟨nm, u + 1⟩)) := by
  have hD1 := h.dv1; have hD2 := h.dv2; have hDD := h.dvv; have hS1 := h.sv1; have hS2 := h.sv2
  obtain ⟨a1, n1, rfl, -, -⟩ := own_shape h.o1
  obtain ⟨a2, n2, e2, -, -⟩ := own_shape h.o2
  simp only [if_true] at e2
  subst e2
  have o1 := Lib.hid h.o1; have o2 := Lib.hid h.o2; have om := Lib.hid h.om; have bc := Lib.hid h.bc; have nmz := Lib.hid h.nm
  simp only [if_true] at o2 om
  have hS := Lib.hid (And.intro h.sB (And.intro h.s1 h.s2))
  have hlS := Lib.hid h.lS; have hgS := Lib.hid h.gS
  have hdd := Lib.hid (And.intro h.d1 (And.intro h.d2 h.d3))
  have hD1 := Lib.hid h.dv1; have hD2 := Lib.hid h.dv2; have hDD := Lib.hid h.dvv; have hS1 := Lib.hid h.sv1; have hS2 := Lib.hid h.sv2
  have hBw := h.lS _ h.sB
  clear h
  have hI' := Lib.hid hI
  have hil := (List.getElem?_eq_some_iff.1 hi).1
  obtain ⟨g3, c3, e3, -, -, -, -⟩ := own_some o1.out (by omega)
  injection e3 with e3 _ e4
  subst e3
  replace hi := Lib.hid hi
  clear hI
  go_enter Tryd.func30, Tryd.ntmps30
  go_upto_region 1 with fail
  refine wp_gen (fun W0 hW => ?_)
  have hb0 : Below w.heap.size w W0 := by rw [hW]; exact (ba _ _).alloc (by simp) _
  have t4 : Hid (W0.cell? ⟨w.heap.size, 0, none⟩ = some (.int .i32 0)) := Lib.hid (by rw [hW]; exact al (by simp [go_sem]) _)
  have t6 : Hid (LC W0 (w.heap.size + 1) 0) := Lib.hid (by
    rw [hW]
    have := LC.new (w.alloc (.cells #[.int .i32 0] 32)) 0
    simpa using this)
  have z0 : W0.heap.size = w.heap.size + 1 + 1 := by rw [hW]; simp
  clear hW
  have hK : Hid (Kp S w W0) := Lib.hid ((Kp.of hb0).wide (fun _ q => q))
  replace o1 := Lib.hid ((Kp.of (S := fun _ => False) hb0).own o1.out (fun _ _ q => q)); replace o2 := Lib.hid ((Kp.of (S := fun _ => False) hb0).own o2.out (fun _ _ q => q)); replace om := Lib.hid (own_map_kept om.out (Kp.of (S := fun _ => False) hb0) id); replace bc := Lib.hid (bc.out.below hb0); replace hI' := Lib.hid (hI'.out.below hb0)
  clear hb0
  obtain ⟨hhas, hat⟩ := nmz.out.on i _ hi.out
  obtain ⟨v, ps, hrun, hv⟩ := om.out.look_ok lawS Tryd.underlying49 (z := locV 0) (by kernel_rfl) (locElem_mk 0) (slit_key hn)
  rw [hat _] at hv
  obtain rfl := locElem_inv hv
  rw [hhas] at hrun
  clear hv hhas hat
  have x54 := bc.out.c54; have x24 := bc.out.c24
  go_upto_region 9 with fail
  refine wp_gen (fun W1 hW => ?_)
  have hb1 : Below W0.heap.size W0 W1 := by rw [hW]; exact ba _ _
  have t9 : Hid (LC W1 W0.heap.size i) := Lib.hid (by rw [hW]; exact LC.new W0 i)
  rw [z0] at t9
  have z1 : W1.heap.size = W0.heap.size + 1 := by rw [hW]; simp
  clear hW x54 x24 hrun
  replace hK := Lib.hid (hK.out.trans ((Kp.of hb1).wide (fun _ q => q)))
  replace o1 := Lib.hid ((Kp.of (S := fun _ => False) hb1).own o1.out (fun _ _ q => q)); replace o2 := Lib.hid ((Kp.of (S := fun _ => False) hb1).own o2.out (fun _ _ q => q)); replace om := Lib.hid (own_map_kept om.out (Kp.of (S := fun _ => False) hb1) id); replace bc := Lib.hid (bc.out.below hb1); replace hI' := Lib.hid (hI'.out.below hb1); replace t4 := Lib.hid (ac hb1 t4.out); replace t6 := Lib.hid (t6.out.below hb1)
  clear hb1
  go_upto_region 15 with fail
  have sg3 := hS1.out g3 rfl
  have e3B := Lib.hid (hD1.out g3 rfl)
  have e3C := Lib.hid (hDD.out g3 rfl)
  have l3 := hlS.out _ sg3
  have wl : IntKind.u32.wrap (u + 1) = u + 1 := by
    simp [IntKind.wrap, IntKind.bits, IntKind.signed]
    omega
  have hcell := own_at (symC_len (kd true)) o1.out (i := i) (x := ⟨nm, u⟩) hi.out (j := 4) rfl
  have hfz := o1.out.frozenAt (i * 10 + 4)
  have y21 := fun d os => cell_regrown bc.out.c21 d os
  have y2 := fun d os => cell_regrown t9.out.c2 d os
  have yc := fun d os => cell_regrown hcell d os
  have j0 : (0 : Int) ≤ (i : Int) := by omega
  have j1 : (i : Int) < (l.length : Int) := by omega
  refine drawn_tail 13 (by kernel_rfl) (by kernel_rfl) (by kernel_rfl) (fun Q hQ => ?_)
  simp only [List.take_succ_cons, List.take_zero, List.drop_succ_cons, List.drop_zero]
  repeat (quiet_step (fail))
  refine wpQuiet_nil ?_
  clear y21 y2 yc
  intro W11 hw
  have hb1 : Below W1.heap.size W1 W11 := by
    obtain ⟨⟨d, os⟩, rfl⟩ := hw
    exact below_regrown _ d os
  clear hw
  have q4 := ac hb1 hcell
  have q5 := af hb1 hcell hfz
  clear hcell hfz
  replace hK := Lib.hid (hK.out.trans ((Kp.of hb1).wide (fun _ q => q)))
  replace o1 := Lib.hid ((Kp.of (S := fun _ => False) hb1).own o1.out (fun _ _ q => q)); replace o2 := Lib.hid ((Kp.of (S := fun _ => False) hb1).own o2.out (fun _ _ q => q)); replace om := Lib.hid (own_map_kept om.out (Kp.of (S := fun _ => False) hb1) id); replace bc := Lib.hid (bc.out.below hb1); replace t6 := Lib.hid (t6.out.below hb1); replace t9 := Lib.hid (t9.out.below hb1)
  clear hb1
  go_upto_region 16 with fail
  refine wp_gen (fun W12 hW => ?_)
  have hk12 : Kp (fun b => b = g3) W11 W12 := by rw [hW]; exact (Kp.refl W11).set ⟨g3, _, none⟩ _ (.inl rfl)
  have el : (l.set i ⟨nm, u + 1⟩).length = l.length := by simp
  have o19 : Hid (W12.ownsRow G 99 10 (.slice (some ⟨g3, 0, none⟩) l.length n1) l.length (flat (symC (kd true)) (l.set i ⟨nm, u + 1⟩))) := Lib.hid (by
    rw [hW]
    have := (o1.out.stored (i * 10 + 4) (.int .u32 (u + 1))).1
    rw [flat_set _ 10 (symC_len _) _ i 4 ⟨nm, u⟩ ⟨nm, u + 1⟩ _ hi.out (by omega) rfl] at this
    exact this)
  clear hW q4 q5 o1
  replace hK := Lib.hid (hK.out.trans (hk12.wide (fun b e => by subst e; exact sg3)))
  replace o2 := Lib.hid (hk12.own o2.out (fun k e q => e3C.out (q ▸ e))); replace om := Lib.hid (own_map_kept om.out hk12 (fun q => e3B.out.2.1 q.symm)); replace bc := Lib.hid (bc.out.kept hk12 (fun q => e3B.out.1 q.symm)); replace t6 := Lib.hid (t6.out.kept hk12 (fun q => by omega)); replace t9 := Lib.hid (t9.out.kept hk12 (fun q => by omega))
  clear hk12
  have x0 := t9.out.c0; have x1 := t9.out.c1; have x2 := t9.out.c2
  have s0 := t6.out.c0; have s1 := t6.out.c1; have s2 := t6.out.c2; have f0 := t6.out.f0; have f1 := t6.out.f1; have f2 := t6.out.f2
  go_wp2
  clear x0 x1 x2 s0 s1 s2 f0 f1 f2
  have L := t6.out.set (i : Int)
  have hk13 := kp3 W12 (w.heap.size + 1) (.int .i32 0) (.int .u32 0) (.int .u32 (i : Int))
  generalize (((W12.setCell ⟨w.heap.size + 1, 0, none⟩ (.int .i32 0)).setCell ⟨w.heap.size + 1, 1, none⟩ (.int .u32 0)).setCell ⟨w.heap.size + 1, 2, none⟩ (.int .u32 (i : Int))) = W13 at L hk13 ⊢
  have nS : ∀ k, S k → ¬ k = w.heap.size + 1 := fun k h e => by have := hlS.out _ h; omega
  have hK13 := hK.out.trans' hk13 (fun b e q => by omega)
  have b13 := bc.out.kept hk13 (nS _ hS.out.1)
  have p1 := hk13.own o19.out (fun k e q => nS _ (hS1.out _ e) q)
  have p2 := hk13.own o2.out (fun k e q => nS _ (hS2.out _ e) q)
  have pm := own_map_kept om.out hk13 (nS _ hS.out.2.1)
  have hKs := hK13.size
  refine bodyPost_ret (v := locV i) (by simp [results, Tryd.results30, go_sem, L.c0, L.c1, L.c2]) rfl ⟨rfl, hK13, S, ⟨m1, m2, .slice (some ⟨g3, 0, none⟩) l.length n1, .slice a2 l.length n2, D, ?_⟩, fun k q => .inl q⟩
  exact { sB := hS.out.1, s1 := hS.out.2.1, s2 := hS.out.2.2
          sv1 := hS1.out, sv2 := hS2.out
          lS := fun k h => by have := hlS.out _ h; omega
          gS := hgS.out
          d1 := hdd.out.1, d2 := hdd.out.2.1, d3 := hdd.out.2.2
          dv1 := hD1.out, dv2 := hD2.out, dvv := hDD.out
          c15 := b13.c15, c21 := b13.c21, c23 := b13.c23, c24 := b13.c24, c25 := b13.c25, c54 := b13.c54, f21 := b13.f21, f23 := b13.f23
          o1 := by rw [el]; exact p1
          o2 := by rw [el]; exact p2
          om := by rw [el]; exact pm
          nm := nmz.out.set i ⟨nm, u⟩ (u + 1) hi.out }
set_option maxRecDepth 100000 in
set_option maxHeartbeats 2000000 in
theorem sym25_old_false (nm : ByteArray) (hn : nm.size ≤ maxLen) (w : World) (S : Nat → Prop) (G B m1 m2 : Nat) (v1 v2 : Value) (l : List SyR) (D : DataW Unit) (hl : l.length ≤ 1048576) (i : Nat) (u : Int) (hi : l[i]? = some ⟨nm, u⟩) (hu0 : 0 ≤ u) (hu1 : u ≤ 1048576) (h : PR w S G B m1 m2 v1 v2 false l D) (hI : Inv w) (hG : 3 ≤ G) :
    Calls Tryd.prog 30 #[.pointer (some ⟨B, 0, none⟩), .agg #[.int .i32 0], .string nm] w (SymB w S G B false i (l.set i ⟨nm, u + 1⟩)) := by
  have hD1 := h.dv1; have hD2 := h.dv2; have hDD := h.dvv; have hS1 := h.sv1; have hS2 := h.sv2
  obtain ⟨a1, n1, rfl, -, -⟩ := own_shape h.o1
  obtain ⟨a2, n2, e2, -, -⟩ := own_shape h.o2
  simp only [Bool.false_eq_true, if_false] at e2
  subst e2
  have o1 := Lib.hid h.o1; have o2 := Lib.hid h.o2; have om := Lib.hid h.om; have bc := Lib.hid h.bc; have nmz := Lib.hid h.nm
  simp only [Bool.false_eq_true, if_false] at o2 om
  have hS := Lib.hid (And.intro h.sB (And.intro h.s1 h.s2))
  have hlS := Lib.hid h.lS; have hgS := Lib.hid h.gS
  have hdd := Lib.hid (And.intro h.d1 (And.intro h.d2 h.d3))
  have hD1 := Lib.hid h.dv1; have hD2 := Lib.hid h.dv2; have hDD := Lib.hid h.dvv; have hS1 := Lib.hid h.sv1; have hS2 := Lib.hid h.sv2
  have hBw := h.lS _ h.sB
  clear h
  have hI' := Lib.hid hI
  have hil := (List.getElem?_eq_some_iff.1 hi).1
  obtain ⟨g3, c3, e3, -, -, -, -⟩ := own_some o1.out (by omega)
  injection e3 with e3 _ e4
  subst e3
  replace hi := Lib.hid hi
  clear hI
  go_enter Tryd.func30, Tryd.ntmps30
  go_upto_region 1 with fail
  refine wp_gen (fun W0 hW => ?_)
  have hb0 : Below w.heap.size w W0 := by rw [hW]; exact (ba _ _).alloc (by simp) _
  have t4 : Hid (W0.cell? ⟨w.heap.size, 0, none⟩ = some (.int .i32 0)) := Lib.hid (by rw [hW]; exact al (by simp [go_sem]) _)
  have t6 : Hid (LC W0 (w.heap.size + 1) 0) := Lib.hid (by
    rw [hW]
    have := LC.new (w.alloc (.cells #[.int .i32 0] 32)) 0
    simpa using this)
  have z0 : W0.heap.size = w.heap.size + 1 + 1 := by rw [hW]; simp
  clear hW
  have hK : Hid (Kp S w W0) := Lib.hid ((Kp.of hb0).wide (fun _ q => q))
  replace o1 := Lib.hid ((Kp.of (S := fun _ => False) hb0).own o1.out (fun _ _ q => q)); replace o2 := Lib.hid ((Kp.of (S := fun _ => False) hb0).own o2.out (fun _ _ q => q)); replace om := Lib.hid (own_map_kept om.out (Kp.of (S := fun _ => False) hb0) id); replace bc := Lib.hid (bc.out.below hb0); replace hI' := Lib.hid (hI'.out.below hb0)
  clear hb0
  obtain ⟨hhas, hat⟩ := nmz.out.on i _ hi.out
  obtain ⟨v, ps, hrun, hv⟩ := om.out.look_ok lawS Tryd.underlying49 (z := locV 0) (by kernel_rfl) (locElem_mk 0) (slit_key hn)
  rw [hat _] at hv
  obtain rfl := locElem_inv hv
  rw [hhas] at hrun
  clear hv hhas hat
  have x54 := bc.out.c54; have x24 := bc.out.c25
  go_upto_region 9 with fail
  refine wp_gen (fun W1 hW => ?_)
  have hb1 : Below W0.heap.size W0 W1 := by rw [hW]; exact ba _ _
  have t9 : Hid (LC W1 W0.heap.size i) := Lib.hid (by rw [hW]; exact LC.new W0 i)
  rw [z0] at t9
  have z1 : W1.heap.size = W0.heap.size + 1 := by rw [hW]; simp
  clear hW x54 x24 hrun
  replace hK := Lib.hid (hK.out.trans ((Kp.of hb1).wide (fun _ q => q)))
  replace o1 := Lib.hid ((Kp.of (S := fun _ => False) hb1).own o1.out (fun _ _ q => q)); replace o2 := Lib.hid ((Kp.of (S := fun _ => False) hb1).own o2.out (fun _ _ q => q)); replace om := Lib.hid (own_map_kept om.out (Kp.of (S := fun _ => False) hb1) id); replace bc := Lib.hid (bc.out.below hb1); replace hI' := Lib.hid (hI'.out.below hb1); replace t4 := Lib.hid (ac hb1 t4.out); replace t6 := Lib.hid (t6.out.below hb1)
  clear hb1
  go_upto_region 15 with fail
  have sg3 := hS1.out g3 rfl
  have e3B := Lib.hid (hD1.out g3 rfl)
  have e3C := Lib.hid (hDD.out g3 rfl)
  have l3 := hlS.out _ sg3
  have wl : IntKind.u32.wrap (u + 1) = u + 1 := by
    simp [IntKind.wrap, IntKind.bits, IntKind.signed]
    omega
  have hcell := own_at (symC_len (kd false)) o1.out (i := i) (x := ⟨nm, u⟩) hi.out (j := 4) rfl
  have hfz := o1.out.frozenAt (i * 10 + 4)
  have y21 := fun d os => cell_regrown bc.out.c21 d os
  have y2 := fun d os => cell_regrown t9.out.c2 d os
  have yc := fun d os => cell_regrown hcell d os
  have j0 : (0 : Int) ≤ (i : Int) := by omega
  have j1 : (i : Int) < (l.length : Int) := by omega
  refine drawn_tail 13 (by kernel_rfl) (by kernel_rfl) (by kernel_rfl) (fun Q hQ => ?_)
  simp only [List.take_succ_cons, List.take_zero, List.drop_succ_cons, List.drop_zero]
  repeat (quiet_step (fail))
  refine wpQuiet_nil ?_
  clear y21 y2 yc
  intro W11 hw
  have hb1 : Below W1.heap.size W1 W11 := by
    obtain ⟨⟨d, os⟩, rfl⟩ := hw
    exact below_regrown _ d os
  clear hw
  have q4 := ac hb1 hcell
  have q5 := af hb1 hcell hfz
  clear hcell hfz
  replace hK := Lib.hid (hK.out.trans ((Kp.of hb1).wide (fun _ q => q)))
  replace o1 := Lib.hid ((Kp.of (S := fun _ => False) hb1).own o1.out (fun _ _ q => q)); replace o2 := Lib.hid ((Kp.of (S := fun _ => False) hb1).own o2.out (fun _ _ q => q)); replace om := Lib.hid (own_map_kept om.out (Kp.of (S := fun _ => False) hb1) id); replace bc := Lib.hid (bc.out.below hb1); replace t6 := Lib.hid (t6.out.below hb1); replace t9 := Lib.hid (t9.out.below hb1)
  clear hb1
  go_upto_region 16 with fail
  refine wp_gen (fun W12 hW => ?_)
  have hk12 : Kp (fun b => b = g3) W11 W12 := by rw [hW]; exact (Kp.refl W11).set ⟨g3, _, none⟩ _ (.inl rfl)
  have el : (l.set i ⟨nm, u + 1⟩).length = l.length := by simp
  have o19 : Hid (W12.ownsRow G 99 10 (.slice (some ⟨g3, 0, none⟩) l.length n1) l.length (flat (symC (kd false)) (l.set i ⟨nm, u + 1⟩))) := Lib.hid (by
    rw [hW]
    have := (o1.out.stored (i * 10 + 4) (.int .u32 (u + 1))).1
    rw [flat_set _ 10 (symC_len _) _ i 4 ⟨nm, u⟩ ⟨nm, u + 1⟩ _ hi.out (by omega) rfl] at this
    exact this)
  clear hW q4 q5 o1
  replace hK := Lib.hid (hK.out.trans (hk12.wide (fun b e => by subst e; exact sg3)))
  replace o2 := Lib.hid (hk12.own o2.out (fun k e q => e3C.out (q ▸ e))); replace om := Lib.hid (own_map_kept om.out hk12 (fun q => e3B.out.2.2 q.symm)); replace bc := Lib.hid (bc.out.kept hk12 (fun q => e3B.out.1 q.symm)); replace t6 := Lib.hid (t6.out.kept hk12 (fun q => by omega)); replace t9 := Lib.hid (t9.out.kept hk12 (fun q => by omega))
  clear hk12
  have x0 := t9.out.c0; have x1 := t9.out.c1; have x2 := t9.out.c2
  have s0 := t6.out.c0; have s1 := t6.out.c1; have s2 := t6.out.c2; have f0 := t6.out.f0; have f1 := t6.out.f1; have f2 := t6.out.f2
  go_wp2
  clear x0 x1 x2 s0 s1 s2 f0 f1 f2
  have L := t6.out.set (i : Int)
  have hk13 := kp3 W12 (w.heap.size + 1) (.int .i32 0) (.int .u32 0) (.int .u32 (i : Int))
  generalize (((W12.setCell ⟨w.heap.size + 1, 0, none⟩ (.int .i32 0)).setCell ⟨w.heap.size + 1, 1, none⟩ (.int .u32 0)).setCell ⟨w.heap.size + 1, 2, none⟩ (.int .u32 (i : Int))) = W13 at L hk13 ⊢
  have nS : ∀ k, S k → ¬ k = w.heap.size + 1 := fun k h e => by have := hlS.out _ h; omega
  have hK13 := hK.out.trans' hk13 (fun b e q => by omega)
  have b13 := bc.out.kept hk13 (nS _ hS.out.1)
  have p1 := hk13.own o19.out (fun k e q => nS _ (hS1.out _ e) q)
  have p2 := hk13.own o2.out (fun k e q => nS _ (hS2.out _ e) q)
  have pm := own_map_kept om.out hk13 (nS _ hS.out.2.2)
  have hKs := hK13.size
  refine bodyPost_ret (v := locV i) (by simp [results, Tryd.results30, go_sem, L.c0, L.c1, L.c2]) rfl ⟨rfl, hK13, S, ⟨m1, m2, .slice (some ⟨g3, 0, none⟩) l.length n1, .slice a2 0 n2, D, ?_⟩, fun k q => .inl q⟩
  exact { sB := hS.out.1, s1 := hS.out.2.1, s2 := hS.out.2.2
          sv1 := hS1.out, sv2 := hS2.out
          lS := fun k h => by have := hlS.out _ h; omega
          gS := hgS.out
          d1 := hdd.out.1, d2 := hdd.out.2.1, d3 := hdd.out.2.2
          dv1 := hD1.out, dv2 := hD2.out, dvv := hDD.out
          c15 := b13.c15, c21 := b13.c21, c23 := b13.c23, c24 := b13.c24, c25 := b13.c25, c54 := b13.c54, f21 := b13.f21, f23 := b13.f23
          o1 := by rw [el]; exact p1
          o2 := by exact p2
          om := by rw [el]; exact pm
          nm := nmz.out.set i ⟨nm, u⟩ (u + 1) hi.out }
end Go.Proofs.YtpjbhbbhkhfiaaaDoor
