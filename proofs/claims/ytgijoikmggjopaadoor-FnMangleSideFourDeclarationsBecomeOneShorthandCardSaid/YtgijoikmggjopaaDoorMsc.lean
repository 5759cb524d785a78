/- FnMangleSide: the law's walk. -/
import Derived.Test.YtgijoikmggjopaaDoorMsb
import Derived.Deep.DeepCutAuto
import Derived.Lib.Builder
set_option linter.unusedVariables false
set_option linter.unusedSimpArgs false
namespace Go.Proofs.YtgijoikmggjopaaDoor
open Go.RowKit
theorem ptr_neqn (w : World) (a : Addr) : (binOp .neq 32 (.pointer (some a)) (.pointer (some a))).run Tryd.prog w = .ok (.bool false) w := by
  cases hi : Tryd.prog.info? 46 with
  | none => exact absurd hi (by decide +kernel)
  | some j => exact Lib.run_neq_ptr_same w (tp := 32) (te := 46) (j := j) a Tryd.underlying32 hi
def mnL (l : Nat → Int) : Nat → Int
  | 0 => l 0
  | i + 1 => if i = 0 then l 0 else if l i < mnL l i then l i else mnL l i
theorem mnL_4 (l : Nat → Int) : mnL l 4 = mn4 (l 0) (l 1) (l 2) (l 3) := by
  simp [mnL, mn4]
def kyF (al : Bool) : Int := if al = true then 189 else 238
def ktF (al : Bool) : ByteArray := if al = true then ⟨#[109, 97, 114, 103, 105, 110]⟩ else ⟨#[112, 97, 100, 100, 105, 110, 103]⟩
theorem ky_ne (al : Bool) : (kyF al == 0) = false := by cases al <;> decide
theorem info50 : (Tryd.prog.info? 50).map (fun i => (i.zero.map (·.cells), i.size, i.bytes)) = some (some #[.nilIface, .int .i32 0], 2, 24) := by kernel_rfl
theorem info32 : (Tryd.prog.info? 32).map (fun i => (i.zero.map (·.cells), i.size, i.bytes)) = some (some #[.pointer none], 1, 8) := by kernel_rfl
/-- the cells that the law's own tables hold -/
structure Tabs (w : World) (PB VB LB : Nat) (p : Nat → Nat) (x l : Nat → Int) : Prop where
  pb : ∀ i, i < 4 → w.cell? ⟨PB, i, none⟩ = some (.int .i64 (p i))
  vb : ∀ i, i < 4 → w.cell? ⟨VB, i, none⟩ = some (.int .u8 (x i))
  lb : ∀ i, i < 4 → w.cell? ⟨LB, i, none⟩ = some (.int .i32 (l i))
theorem Tabs.after {w w' : World} {PB VB LB : Nat} {p : Nat → Nat} {x l : Nat → Int} (h : Tabs w PB VB LB p x l) (hb : Below w.heap.size w w') : Tabs w' PB VB LB p x l := ⟨fun i hi => ac hb (h.pb i hi), fun i hi => ac hb (h.vb i hi), fun i hi => ac hb (h.lb i hi)⟩
theorem Tabs.only {S : Nat → Prop} {w w' : World} {PB VB LB : Nat} {p : Nat → Nat} {x l : Nat → Int} (h : Tabs w PB VB LB p x l) (ho : Only S w w') (h1 : ¬ S PB) (h2 : ¬ S VB) (h3 : ¬ S LB) : Tabs w' PB VB LB p x l := ⟨fun i hi => ho.keep (h.pb i hi) h1, fun i hi => ho.keep (h.vb i hi) h2, fun i hi => ho.keep (h.lb i hi) h3⟩
set_option maxRecDepth 100000 in
set_option maxHeartbeats 40000000 in
theorem law_c (al : Bool) (v0 v1 v2 v3 ord l0 l1 l2 l3 : Int) (imp m : Bool) (w : World) (r0 : 0 ≤ v0) (r1 : 0 ≤ v1) (r2 : 0 ≤ v2) (r3 : 0 ≤ v3) (ro : 0 ≤ ord) : Calls Tryd.prog 3 #[.bool al, .int .u8 v0, .int .u8 v1, .int .u8 v2, .int .u8 v3, .int .u8 ord, .int .i32 l0, .int .i32 l1, .int .i32 l2, .int .i32 l3, .bool imp, .bool m] w (Gv (.bool true) w) := by
  have mk30 : ∀ W, (Instr.makeSlice 30 (.int .i64 4) (.int .i64 4)).run Tryd.prog W = .ok (.slice (some ⟨W.heap.size, 0, none⟩) 4 4) (W.alloc (.cells (madeCells #[.nilIface, .int .i32 0] 8) 50)) := fun W => by
    have := make_z (b := 24) #[.nilIface, .int .i32 0] Tryd.underlying30 info50 4 (by omega) (by omega) W
    simpa using this
  have mk31 : ∀ W, (Instr.makeSlice 31 (.int .i64 4) (.int .i64 4)).run Tryd.prog W = .ok (.slice (some ⟨W.heap.size, 0, none⟩) 4 4) (W.alloc (.cells (madeCells #[.pointer none] 4) 32)) := fun W => by
    have := make_z (b := 8) #[.pointer none] Tryd.underlying31 info32 4 (by omega) (by omega) W
    simpa using this
  obtain ⟨M, hM⟩ : ∃ M : Nat, ord % 24 = M := ⟨(ord % 24).toNat, by omega⟩
  have hM24 : M < 24 := by omega
  have C4 := Lib.hid (fun w => perm_c ord M ro hM w)
  obtain ⟨a, ha⟩ : ∃ y, Int.tmod v0 5 = y := ⟨_, rfl⟩
  have ka : 0 ≤ a ∧ a ≤ 4 := by rw [← ha, Int.tmod_eq_emod_of_nonneg r0]; omega
  have ga : v0 % 5 = a := by rw [← ha, Int.tmod_eq_emod_of_nonneg r0]
  obtain ⟨b, hb⟩ : ∃ y, Int.tmod v1 5 = y := ⟨_, rfl⟩
  have kb : 0 ≤ b ∧ b ≤ 4 := by rw [← hb, Int.tmod_eq_emod_of_nonneg r1]; omega
  have gb : v1 % 5 = b := by rw [← hb, Int.tmod_eq_emod_of_nonneg r1]
  obtain ⟨c, hc⟩ : ∃ y, Int.tmod v2 5 = y := ⟨_, rfl⟩
  have kc : 0 ≤ c ∧ c ≤ 4 := by rw [← hc, Int.tmod_eq_emod_of_nonneg r2]; omega
  have gc : v2 % 5 = c := by rw [← hc, Int.tmod_eq_emod_of_nonneg r2]
  obtain ⟨d, hd⟩ : ∃ y, Int.tmod v3 5 = y := ⟨_, rfl⟩
  have kd : 0 ≤ d ∧ d ≤ 4 := by rw [← hd, Int.tmod_eq_emod_of_nonneg r3]; omega
  have gd : v3 % 5 = d := by rw [← hd, Int.tmod_eq_emod_of_nonneg r3]
  have X := Lib.hid (fun i => qI_r ka kb kc kd i)
  have HK := Lib.hid (And.intro ka (And.intro kb (And.intro kc kd)))
  clear ka kb kc kd r0 r1 r2 r3 ro hM
  go_enter Tryd.func3, Tryd.ntmps3
  go_upto_region 4 with (go_at_call 4; (with_reducible refine (C4.out _).mono ?_); rintro e w1 ⟨rfl, b1⟩; replace b1 := Lib.hid b1)
  refine wp_gen (fun W hW => ?_)
  have T0 : Hid (Tabs W w1.heap.size (w1.heap.size + 1) (w1.heap.size + 1 + 1) (pS M) (qI a b c d) (qI l0 l1 l2 l3)) := Lib.hid (by
    rw [hW]
    refine ⟨fun i hi => ?_, fun i hi => ?_, fun i hi => ?_⟩
    all_goals
      match i, hi with
      | 0, _ => simp [go_sem, qI]
      | 1, _ => simp [go_sem, qI]
      | 2, _ => simp [go_sem, qI]
      | 3, _ => simp [go_sem, qI])
  have bW : Hid (Below w.heap.size w W) := Lib.hid (by rw [hW]; exact b1.out.trans (((ba _ _).trans ((ba _ _).mono (by simp)) |>.trans ((ba _ _).mono (by simp; omega))).mono b1.out.size))
  have zW : w1.heap.size + 1 + 1 < W.heap.size := by rw [hW]; simp
  have z1 := b1.out.size
  obtain ⟨PB, hPB⟩ : ∃ y, w1.heap.size = y := ⟨_, rfl⟩
  rw [hPB] at T0 zW z1 ⊢
  clear hW C4 b1 hPB ha hb hc hd ga gb gc gd
  go_upto_if 61 with fail
  go_cut [28, 29] (fun u v wx => u = .int .u16 (kyF al) ∧ v = .string (ktF al) ∧ W = wx)
  case first =>
    cases al
    · go_wp2
      go_meet
      exact ⟨rfl, rfl, rfl⟩
    · go_wp2
      go_meet
      exact ⟨rfl, rfl, rfl⟩
  case rest =>
    obtain ⟨rfl, rfl, rfl⟩ := hcut
    obtain ⟨ky, hky⟩ : ∃ y, kyF al = y := ⟨_, rfl⟩
    obtain ⟨kt, hkt⟩ : ∃ y, ktF al = y := ⟨_, rfl⟩
    have eky := ky_ne al
    rw [hky] at eky ⊢
    rw [hkt]
    replace eky := Lib.hid eky
    clear hky hkt
    have C5 := Lib.hid (fun w => new_c kt al ky w)
    go_wp2_with (go_at_call 5; (with_reducible refine (C5.out _).mono ?_); rintro e w2 ⟨rfl, b2, t2, z2⟩; replace b2 := Lib.hid b2; replace t2 := Lib.hid t2)
    refine wp_gen (fun W0 hW0 => ?_)
    have B20 : Hid (Below w2.heap.size w2 W0) := Lib.hid (by rw [hW0]; exact (ba _ _).trans ((ba _ _).mono (by simp)) |>.trans ((ba _ _).mono (by simp; omega)))
    have rR : Hid (∀ j, j < 4 → W0.cell? ⟨w2.heap.size, j * 2, none⟩ = some .nilIface ∧ W0.cell? ⟨w2.heap.size, j * 2 + 1, none⟩ = some (.int .i32 0)) := Lib.hid (fun j hj => by
      have hb : Below (w2.alloc (Obj.cells (madeCells #[Value.nilIface, Value.int IntKind.i32 0] 8) 50)).heap.size (w2.alloc (Obj.cells (madeCells #[Value.nilIface, Value.int IntKind.i32 0] 8) 50)) W0 := by rw [hW0]; exact (ba _ _).trans ((ba _ _).mono (by simp))
      have q0 := made_at w2 #[.nilIface, .int .i32 0] 8 50 (j * 2) (by omega)
      have q1 := made_at w2 #[.nilIface, .int .i32 0] 8 50 (j * 2 + 1) (by omega)
      refine ⟨?_, ?_⟩
      · have := ac hb q0
        rw [this]
        rcases (by omega : j = 0 ∨ j = 1 ∨ j = 2 ∨ j = 3) with rfl | rfl | rfl | rfl <;> rfl
      · have := ac hb q1
        rw [this]
        rcases (by omega : j = 0 ∨ j = 1 ∨ j = 2 ∨ j = 3) with rfl | rfl | rfl | rfl <;> rfl)
    have mR : Hid (Room W0 w2.heap.size 8) := Lib.hid (by
      have hb : Below (w2.alloc (Obj.cells (madeCells #[Value.nilIface, Value.int IntKind.i32 0] 8) 50)).heap.size (w2.alloc (Obj.cells (madeCells #[Value.nilIface, Value.int IntKind.i32 0] 8) 50)) W0 := by rw [hW0]; exact (ba _ _).trans ((ba _ _).mono (by simp))
      exact (Room.made w2 #[.nilIface, .int .i32 0] 8 50).after hb)
    have mD : Hid (Room W0 (w2.heap.size + 1) 4) := Lib.hid (by
      rw [hW0]
      have := (Room.made (w2.alloc (Obj.cells (madeCells #[Value.nilIface, Value.int IntKind.i32 0] 8) 50)) #[.pointer none] 4 32).after (ba _ (Obj.cells #[Value.int IntKind.i32 0, Value.int IntKind.i32 0, Value.int IntKind.i32 0, Value.int IntKind.i32 0] 25))
      simpa using this)
    have mT : Hid (Room W0 (w2.heap.size + 1 + 1) 4) := Lib.hid (by
      rw [hW0]
      have := Room.newN ((w2.alloc (Obj.cells (madeCells #[Value.nilIface, Value.int IntKind.i32 0] 8) 50)).alloc (Obj.cells (madeCells #[Value.pointer none] 4) 32)) #[Value.int IntKind.i32 0, Value.int IntKind.i32 0, Value.int IntKind.i32 0, Value.int IntKind.i32 0] (n := 4) rfl 25
      simpa using this)
    have zS : w2.heap.size + 1 + 1 < W0.heap.size := by rw [hW0]; simp
    clear hW0 mk30 mk31 C5
    obtain ⟨b0, hb0⟩ : ∃ y, W.heap.size = y := ⟨_, rfl⟩
    obtain ⟨R, hR⟩ : ∃ y, w2.heap.size = y := ⟨_, rfl⟩
    obtain ⟨DS, hDS⟩ : ∃ y, R + 1 = y := ⟨_, rfl⟩
    obtain ⟨TL, hTL⟩ : ∃ y, DS + 1 = y := ⟨_, rfl⟩
    obtain ⟨VB, hVB⟩ : ∃ y, PB + 1 = y := ⟨_, rfl⟩
    obtain ⟨LB, hLB⟩ : ∃ y, VB + 1 = y := ⟨_, rfl⟩
    have B0 : Hid (Below W.heap.size W W0) := Lib.hid (b2.out.trans (B20.out.mono b2.out.size))
    have T1 := Lib.hid (T0.out.after B0.out)
    have t3 := Lib.hid (t2.out.after B20.out)
    have Bw0 : Hid (Below w.heap.size w W0) := Lib.hid (bW.out.trans (B0.out.mono bW.out.size))
    rw [hR, hDS] at mD
    rw [hR, hDS, hTL] at mT zS
    rw [hR] at rR mR z2
    rw [hb0] at zW t3 z2
    rw [hVB, hLB] at T1 zW
    rw [hb0, hR, hDS, hTL, hVB, hLB]
    have dist : Dist W0.heap.size b0 R DS TL := ⟨by omega, by omega, by omega, by omega⟩
    have hPV : PB < VB := by omega
    have hVL : VB < LB := by omega
    have hpw : w.heap.size ≤ PB := z1
    replace dist := Lib.hid dist
    clear hR hDS hTL hVB hLB hb0 T0 bW b2 t2 B20 B0 z1
    obtain ⟨p, hp⟩ : ∃ y, pS M = y := ⟨_, rfl⟩
    obtain ⟨q, hq⟩ : ∃ y, qS M = y := ⟨_, rfl⟩
    obtain ⟨x, hx⟩ : ∃ y, qI a b c d = y := ⟨_, rfl⟩
    obtain ⟨l, hl⟩ : ∃ y, qI l0 l1 l2 l3 = y := ⟨_, rfl⟩
    rw [hp, hx, hl] at T1
    have HP : Hid (∀ j, j < 4 → p j < 4 ∧ q (p j) = j) := Lib.hid (fun j hj => by rw [← hp, ← hq]; exact ⟨pS_lt M hM24 j hj, qS_pS M hM24 j hj⟩)
    have HQ : Hid (∀ s, s < 4 → q s < 4 ∧ p (q s) = s) := Lib.hid (fun s hs => by rw [← hp, ← hq]; exact ⟨qS_lt M s, pS_qS M hM24 s hs⟩)
    have HX : Hid (∀ s, 0 ≤ x s ∧ x s ≤ 4) := Lib.hid (fun s => by rw [← hx]; exact X.out s)
    clear hp hq hx hl X HK hM24 M
    have H0 : Hid (MD W0 b0 R DS TL x l p q kt al imp m ky 0 0 W0) := Lib.hid ⟨fun _ => ⟨⟨fun j hj => by omega, fun j hj => by omega, mT.out, mD.out, ⟨fun _ => 0, fun _ => 0, ⟨fun j hj => by omega, fun j hj => by omega, fun j hj => by omega, fun j hj => by omega⟩, ⟨fun j hj => (rR.out j hj).1, fun j hj => (rR.out j hj).2, mR.out⟩⟩, Only.refl _⟩, false, t3.out, .inr rfl⟩, fun h => by omega⟩
    clear rR mR mD mT t3
    go_loopw [34, 35] (fun u v wr => ∃ i : Nat, ∃ lf : Int, i ≤ 4 ∧ u = .int .i64 lf ∧ v = .int .i64 i ∧ MD W0 b0 R DS TL x l p q kt al imp m ky i lf wr) (fun _ v _ => 4 - (intOf v).toNat)
    case atStart => exact ⟨0, 0, by omega, rfl, rfl, H0.out⟩
    case round =>
      obtain ⟨i, lf, hi, rfl, rfl, hM⟩ := hrel
      obtain ⟨w3, rfl⟩ : ∃ w3 : World, w3 = wr := ⟨_, rfl⟩
      replace hM := Lib.hid hM
      by_cases hlt : i < 4
      · have hMT := Lib.hid (hM.out.1 (by omega)).1
        have hTr := Lib.hid (hM.out.1 (by omega)).2
        clear hM
        have i0 : (0 : Int) ≤ i := by omega
        have i1 : (i : Int) < 4 := by omega
        have d1 := dist.out.bR
        have d2 := dist.out.RD
        have d3 := dist.out.DT
        have d4 := dist.out.Tn
        have T3 := Lib.hid (T1.out.only hMT.out.only (by omega) (by omega) (by omega))
        have ep := T3.out.pb i hlt
        have el := T3.out.lb i hlt
        obtain ⟨ps, hps⟩ : ∃ y, p i = y := ⟨_, rfl⟩
        have hps4 : ps < 4 := by rw [← hps]; exact (HP.out i hlt).1
        have s0 : (0 : Int) ≤ ps := by omega
        have s1 : (ps : Int) < 4 := by omega
        have ev := T3.out.vb ps hps4
        obtain ⟨X, hX⟩ : ∃ y, x ps = y := ⟨_, rfl⟩
        obtain ⟨li, hli⟩ : ∃ y, l i = y := ⟨_, rfl⟩
        rw [hps] at ep
        rw [hX] at ev
        rw [hli] at el
        obtain ⟨ut, et, ft⟩ := hMT.out.rtl ps hps4
        have HE := Lib.hid (And.intro hps (And.intro hX hli))
        clear hps hX hli
        go_upto_if 81 with fail
        refine wp_gen (fun V1 hV1 => ?_)
        have o1 : Hid (Only (fun z => z = TL) w3 V1) := Lib.hid (by rw [hV1]; exact (Only.refl _).set _ _ rfl)
        obtain ⟨lf', hlf⟩ : ∃ y, (if ps = 3 then (i : Int) else lf) = y := ⟨_, rfl⟩
        replace hlf := Lib.hid hlf
        replace hV1 := Lib.hid hV1
        clear et ft
        go_cut [34] (fun u wx => u = .int .i64 lf' ∧ V1 = wx)
        case first =>
          by_cases h3 : ps = 3
          · have e3 : ((ps : Int) == 3) = true := by rw [h3]; rfl
            have hl := Lib.hid (hlf.out.symm.trans (if_pos h3))
            clear h3
            go_wp2
            go_meet
            exact ⟨by rw [hl.out], rfl⟩
          · have e3 : ((ps : Int) == 3) = false := by simp; omega
            have hl := Lib.hid (hlf.out.symm.trans (if_neg h3))
            clear h3
            go_wp2
            go_meet
            exact ⟨by rw [hl.out], rfl⟩
        case rest =>
          obtain ⟨rfl, rfl⟩ := hcut
          have ev1 : V1.cell? ⟨VB, ps, none⟩ = some (.int .u8 X) := o1.out.keep ev (by show ¬ VB = TL; omega)
          have el1 : V1.cell? ⟨LB, i, none⟩ = some (.int .i32 li) := o1.out.keep el (by show ¬ LB = TL; omega)
          have xx : 0 ≤ X ∧ X ≤ 4 := by rw [← HE.out.2.1]; exact HX.out _
          have C6 : Hid (∀ w, Calls Tryd.prog 6 #[.int .u8 X, .int .i32 li] w (Gv (tkV (zk X li)) w)) := Lib.hid (fun w => by have := tok_c X li w xx.1 xx.2; rwa [tkV_eq rfl] at this)
          replace ev1 := Lib.hid ev1
          replace el1 := Lib.hid el1
          clear ev el xx ep
          go_upto_region 21 with fail
          refine QTail.drawn_rel 17 (RM V1.heap.size VB LB kt imp X li ps i) (by kernel_rfl) (by kernel_rfl) (fun k v W W' h1 h2 => RM.after k v W W' h1 h2) ?_ ?_
          · simp only [List.take_succ_cons, List.take_zero]
            refine ⟨?_, ?_, ?_, ?_, ?_, ?_, ?_, ?_, ?_, ?_, ?_, ?_, ?_, ?_, ?_, ?_, ?_, trivial⟩
            all_goals intro vs W hC hd
            · skip
              clear hd hC
              simp only [QTail.putA, Nat.reduceAdd, Act.put, List.setIfInBounds_toArray, List.set_cons_succ, List.set_cons_zero]
              go_wp2
              exact ⟨rfl, Below.refl _ _⟩
            · skip
              clear hd hC
              simp only [QTail.putA, Nat.reduceAdd, Act.put, List.setIfInBounds_toArray, List.set_cons_succ, List.set_cons_zero]
              go_wp2
              exact ⟨rfl, Below.refl _ _⟩
            · have h1 : vs 1 = .int .i64 ps := hd { on := 1, ground := Ground.data } (by simp) rfl
              clear hd hC
              simp only [QTail.putA, Nat.reduceAdd, Act.put, List.setIfInBounds_toArray, List.set_cons_succ, List.set_cons_zero]
              go_wp2
              exact ⟨rfl, Below.refl _ _⟩
            · have h2 : vs 2 = .pointer (some ⟨VB, ps, none⟩) := hd { on := 2, ground := Ground.data } (by simp) rfl
              have c0 := ac hC ev1.out
              clear hd hC
              simp only [QTail.putA, Nat.reduceAdd, Act.put, List.setIfInBounds_toArray, List.set_cons_succ, List.set_cons_zero]
              go_wp2
              exact ⟨rfl, Below.refl _ _⟩
            · skip
              clear hd hC
              simp only [QTail.putA, Nat.reduceAdd, Act.put, List.setIfInBounds_toArray, List.set_cons_succ, List.set_cons_zero]
              go_wp2
              exact ⟨rfl, Below.refl _ _⟩
            · have h4 : vs 4 = .int .i64 i := hd { on := 4, ground := Ground.data } (by simp) rfl
              clear hd hC
              simp only [QTail.putA, Nat.reduceAdd, Act.put, List.setIfInBounds_toArray, List.set_cons_succ, List.set_cons_zero]
              go_wp2
              exact ⟨rfl, Below.refl _ _⟩
            · have h5 : vs 5 = .pointer (some ⟨LB, i, none⟩) := hd { on := 5, ground := Ground.data } (by simp) rfl
              have c0 := ac hC el1.out
              clear hd hC
              simp only [QTail.putA, Nat.reduceAdd, Act.put, List.setIfInBounds_toArray, List.set_cons_succ, List.set_cons_zero]
              go_wp2
              exact ⟨rfl, Below.refl _ _⟩
            · have h3 : vs 3 = .int .u8 X := hd { on := 3, ground := Ground.data } (by simp) rfl
              have h6 : vs 6 = .int .i32 li := hd { on := 6, ground := Ground.data } (by simp) rfl
              clear hd hC
              simp only [QTail.putA, Nat.reduceAdd, Act.put, List.setIfInBounds_toArray, List.set_cons_succ, List.set_cons_zero]
              go_wp2_with (go_at_call 6; (with_reducible refine (C6.out _).mono ?_); rintro e w5 ⟨rfl, hb5⟩; replace hb5 := Lib.hid hb5)
              exact ⟨rfl, hb5.out⟩
            · have h7 : vs 7 = tkV (zk X li) := hd { on := 7, ground := Ground.data } (by simp) rfl
              have hC' := Lib.hid hC
              clear hd hC
              simp only [QTail.putA, Nat.reduceAdd, Act.put, List.setIfInBounds_toArray, List.set_cons_succ, List.set_cons_zero]
              go_wp2
              exact ⟨⟨_, rfl, hC'.out.size, tokNew _ (zk X li) 40⟩, ba _ _⟩
            · skip
              clear hd hC
              simp only [QTail.putA, Nat.reduceAdd, Act.put, List.setIfInBounds_toArray, List.set_cons_succ, List.set_cons_zero]
              go_wp2
              exact ⟨rfl, Below.refl _ _⟩
            · have h9 : vs 9 = .int .i64 i := hd { on := 9, ground := Ground.data } (by simp) rfl
              clear hd hC
              simp only [QTail.putA, Nat.reduceAdd, Act.put, List.setIfInBounds_toArray, List.set_cons_succ, List.set_cons_zero]
              go_wp2
              exact ⟨rfl, Below.refl _ _⟩
            · have h10 : vs 10 = .pointer (some ⟨LB, i, none⟩) := hd { on := 10, ground := Ground.data } (by simp) rfl
              have c0 := ac hC el1.out
              clear hd hC
              simp only [QTail.putA, Nat.reduceAdd, Act.put, List.setIfInBounds_toArray, List.set_cons_succ, List.set_cons_zero]
              go_wp2
              exact ⟨rfl, Below.refl _ _⟩
            · have h11 : vs 11 = .int .i32 li := hd { on := 11, ground := Ground.data } (by simp) rfl
              clear hd hC
              simp only [QTail.putA, Nat.reduceAdd, Act.put, List.setIfInBounds_toArray, List.set_cons_succ, List.set_cons_zero]
              go_wp2
              exact ⟨rfl, Below.refl _ _⟩
            · have h12 : vs 12 = .agg #[.int .i32 li] := hd { on := 12, ground := Ground.data } (by simp) rfl
              clear hd hC
              simp only [QTail.putA, Nat.reduceAdd, Act.put, List.setIfInBounds_toArray, List.set_cons_succ, List.set_cons_zero]
              go_wp2
              exact ⟨rfl, Below.refl _ _⟩
            · skip
              clear hd hC
              simp only [QTail.putA, Nat.reduceAdd, Act.put, List.setIfInBounds_toArray, List.set_cons_succ, List.set_cons_zero]
              go_wp2
              exact ⟨rfl, Below.refl _ _⟩
            · have h0 : vs 0 = .string kt := hd { on := 0, ground := Ground.data } (by simp) rfl
              obtain ⟨T, h8, hT, hk⟩ : ∃ T, vs 8 = .slice (some ⟨T, 0, none⟩) 1 1 ∧ V1.heap.size ≤ T ∧ TAt W T 0 (zk X li) := hd { on := 8, ground := Ground.data } (by simp) rfl
              have h13 : vs 13 = .agg #[.int .i32 li, .int .i32 0] := hd { on := 13, ground := Ground.data } (by simp) rfl
              have h14 : vs 14 = .bool imp := hd { on := 14, ground := Ground.data } (by simp) rfl
              replace hk := Lib.hid hk
              clear hd hC
              simp only [QTail.putA, Nat.reduceAdd, Act.put, List.setIfInBounds_toArray, List.set_cons_succ, List.set_cons_zero]
              go_wp2
              exact ⟨⟨T, rfl, hT, hk.out⟩, Below.refl _ _⟩
            · obtain ⟨T, h15, hT, hk⟩ : ∃ T, vs 15 = .agg #[.string kt, .slice (some ⟨T, 0, none⟩) 1 1, .int .i32 li, .int .i32 0, .int .u16 0, .bool imp] ∧ V1.heap.size ≤ T ∧ TAt W T 0 (zk X li) := hd { on := 15, ground := Ground.data } (by simp) rfl
              have hC' := Lib.hid hC
              replace hk := Lib.hid hk
              clear hd hC
              simp only [QTail.putA, Nat.reduceAdd, Act.put, List.setIfInBounds_toArray, List.set_cons_succ, List.set_cons_zero]
              go_wp2
              exact ⟨⟨_, T, rfl, hC'.out.size, hT, Seg.new _ (dcL kt (.slice (some ⟨T, 0, none⟩) 1 1) li 0 0 imp) 46, hk.out.after (ba _ _)⟩, ba _ _⟩
          · intro vs W3 b3 hR
            obtain ⟨Qn, Tn, h16, hQ, hT, sQ, sT⟩ : ∃ P T, vs 16 = .pointer (some ⟨P, 0, none⟩) ∧ V1.heap.size ≤ P ∧ V1.heap.size ≤ T ∧ Seg W3 P 0 (dcL kt (.slice (some ⟨T, 0, none⟩) 1 1) li 0 0 imp) ∧ TAt W3 T 0 (zk X li) := hR 16 (by omega)
            replace sQ := Lib.hid sQ
            replace sT := Lib.hid sT
            replace b3 := Lib.hid b3
            clear hR C6
            simp only [List.take_succ_cons, List.take_zero, List.drop_succ_cons, List.drop_zero, QTail.putA, Nat.reduceAdd, Act.put, List.setIfInBounds_toArray, List.set_cons_succ, List.set_cons_zero]
            rw [h16]
            clear h16
            generalize vs 0 = z0
            generalize vs 1 = z1
            generalize vs 2 = z2
            generalize vs 3 = z3
            generalize vs 4 = z4
            generalize vs 5 = z5
            generalize vs 6 = z6
            generalize vs 7 = z7
            generalize vs 8 = z8
            generalize vs 9 = z9
            generalize vs 10 = z10
            generalize vs 11 = z11
            generalize vs 12 = z12
            generalize vs 13 = z13
            generalize vs 14 = z14
            generalize vs 15 = z15
            clear vs
            have o3 : Hid (Only (fun z => z = TL) w3 W3) := Lib.hid (o1.out.trans (Only.of b3.out))
            obtain ⟨ud, ed, fd⟩ := (o3.out.rooms _ _ hMT.out.rds) i hlt
            go_upto_region 23 with fail
            refine wp_gen (fun V4 hV4 => ?_)
            have o4 : Hid (Only (fun z => z = DS) W3 V4) := Lib.hid (by rw [hV4]; exact (Only.refl _).set _ _ rfl)
            have el4 : V4.cell? ⟨LB, i, none⟩ = some (.int .i32 li) := o4.out.keep (ac b3.out el1.out) (by show ¬ LB = DS; omega)
            obtain ⟨Q9, T9, -, hRu⟩ := hMT.out.dec
            have rR4 : Hid (Room V4 R 8) := Lib.hid (o4.out.rooms _ _ (o3.out.rooms _ _ hRu.room))
            clear hRu
            obtain ⟨ur0, er0, fr0⟩ := rR4.out (i * 2) (by omega)
            obtain ⟨ur1, er1, fr1⟩ := rR4.out (i * 2 + 1) (by omega)
            replace hV4 := Lib.hid hV4
            clear ed fd ud rR4
            go_upto_region 24 with fail
            refine wp_gen (fun V5 hV5 => ?_)
            have hmi := hMT.out.step (p := p) (i := i) (lf' := lf') (V1 := V1) (V3 := W3) (V4 := V4) (V5 := V5) (Qn := Qn) (Tn := Tn) dist.out hlt (fun j hj => (HP.out j (by omega)).1) (fun j hj e => by
                have h1 := (HP.out j (by omega)).2
                have h2 := (HP.out i hlt).2
                rw [e, h2] at h1
                omega) (by rw [HE.out.1]; exact hlf.out.symm) (by rw [HE.out.1, HE.out.2.2]; exact hV1.out) b3.out hV4.out (by rw [HE.out.2.2]; exact hV5) hQ hT (by rw [HE.out.2.2]; exact sQ.out) (by rw [HE.out.1, HE.out.2.1, HE.out.2.2]; exact sT.out)
            obtain ⟨m5, o5, q5, t5⟩ := hmi
            obtain ⟨imp0, tr0, fr0⟩ := hTr.out
            have hz := o1.out.size
            have hz2 := hMT.out.only.size
            have C7 := Lib.hid (side_c W0 b0 R DS TL x l p q kt al imp m ky lf' i Qn Tn imp0 V5 dist.out hlt HX.out eky.out HP.out HQ.out m5 (tr0.only o5 (by omega)) fr0 q5 t5 (by omega) (by omega))
            rw [HE.out.1] at C7
            have sl := sl30h V5 R i hlt
            clear hV5 m5 o5 q5 t5 tr0 fr0 er0 er1 el4
            go_upto_region 16 with (go_at_call 7; (with_reducible refine C7.out.mono ?_); rintro e w7 ⟨rfl, hM7⟩; replace hM7 := Lib.hid hM7)
            go_wp2
            go_roundw
            case rel => exact ⟨i + 1, lf', by omega, rfl, by go_num, hM7.out⟩
            case measure => simp [intOf]; omega
      · obtain ⟨v4, hv4⟩ : ∃ y : Int, (i : Int) = y := ⟨_, rfl⟩
        have hn4 : ¬ v4 < 4 := by omega
        rw [hv4]
        clear hv4
        obtain rfl : i = 4 := by omega
        go_wp2
        have d1 := dist.out.bR
        have d2 := dist.out.RD
        have d3 := dist.out.DT
        have d4 := dist.out.Tn
        have oM : Hid (Only (fun z => z = b0 ∨ z = R ∨ z = DS ∨ z = TL) W0 w3) := Lib.hid (by
          cases hok : okN al x 4
          · exact (hM.out.1 (fun e => by rw [hok] at e; cases e.2)).1.only
          · exact (hM.out.2 ⟨rfl, hok⟩).only)
        have T3 := Lib.hid (T1.out.only oM.out (by omega) (by omega) (by omega))
        have Bw3 : Hid (Below w.heap.size w w3) := Lib.hid (Bw0.out.trans (oM.out.below w.heap.size Bw0.out.size (fun z e => by omega)))
        clear T1 Bw0 eky H0
        go_loopw [38, 39] (fun u v wr => ∃ s : Nat, s ≤ 4 ∧ u = .bool (okN al x s) ∧ v = .int .i64 s ∧ w3 = wr) (fun _ v _ => 4 - (intOf v).toNat)
        case atStart => exact ⟨0, by omega, rfl, rfl, rfl⟩
        case round =>
          obtain ⟨s, hs, rfl, rfl, rfl⟩ := hrel
          by_cases hlt : s < 4
          · have s0 : (0 : Int) ≤ s := by omega
            have s1 : (s : Int) < 4 := by omega
            have ev := T3.out.vb s hlt
            have hsu := Lib.hid (okN_succ al x s)
            obtain ⟨X, hX⟩ : ∃ y, x s = y := ⟨_, rfl⟩
            obtain ⟨k, hk⟩ : ∃ y, okN al x s = y := ⟨_, rfl⟩
            have hS : Hid (okS al x s = (X != 4 && (X != 3 || al))) := Lib.hid (by rw [← hX]; rfl)
            rw [hX] at ev
            rw [hk]
            have C8 := Lib.hid (fun w => acc_c X al w)
            obtain ⟨g, hg⟩ : ∃ y, (X != 3 || al) = y := ⟨_, rfl⟩
            rw [hg] at C8 hS
            replace hk := Lib.hid hk
            clear hg hX
            cases h4 : X == 4
            · have hS1 : Hid (okN al x (s + 1) = (k && g)) := Lib.hid (by rw [hsu.out, hk.out, hS.out]; simp [bne, h4])
              clear hsu hS
              cases g
              · go_wp2_with (go_at_call 8; (with_reducible refine (C8.out _).mono ?_); rintro e w8 ⟨rfl, rfl⟩)
                go_roundw
                case rel => exact ⟨s + 1, by omega, by rw [hS1.out]; simp, by go_num, by first | rfl | trivial⟩
                case measure => simp [intOf]; omega
              · go_wp2_with (go_at_call 8; (with_reducible refine (C8.out _).mono ?_); rintro e w8 ⟨rfl, rfl⟩)
                go_roundw
                case rel => exact ⟨s + 1, by omega, by rw [hS1.out]; simp, by go_num, by first | rfl | trivial⟩
                case measure => simp [intOf]; omega
            · have hS1 : Hid (okN al x (s + 1) = false) := Lib.hid (by rw [hsu.out, hS.out]; simp [bne, h4])
              clear hsu hS
              go_wp2
              go_roundw
              case rel => exact ⟨s + 1, by omega, by rw [hS1.out], by go_num, by first | rfl | trivial⟩
              case measure => simp [intOf]; omega
          · obtain ⟨v5, hv5⟩ : ∃ y : Int, (s : Int) = y := ⟨_, rfl⟩
            have hn5 : ¬ v5 < 4 := by omega
            rw [hv5]
            clear hv5
            obtain rfl : s = 4 := by omega
            cases hok : okN al x 4
            · have hMT := Lib.hid (hM.out.1 (fun e => by rw [hok] at e; cases e.2)).1
              clear hM hok oM
              obtain ⟨Q, T, hD, hR⟩ := hMT.out.dec
              replace hD := Lib.hid hD
              replace hR := Lib.hid hR
              clear hMT
              go_wp2
              go_loopw [40] (fun v wr => ∃ j : Nat, j ≤ 4 ∧ v = .int .i64 j ∧ Below w3.heap.size w3 wr) (fun v _ => 4 - (intOf v).toNat)
              case atStart => exact ⟨0, by omega, rfl, Below.refl _ _⟩
              case round =>
               as_aux_lemma =>
                obtain ⟨j, hj, rfl, hBw⟩ := hrel
                obtain ⟨w4, rfl⟩ : ∃ w4 : World, w4 = wr := ⟨_, rfl⟩
                replace hBw := Lib.hid hBw
                by_cases hlt : j < 4
                · have s0 : (0 : Int) ≤ j := by omega
                  have s1 : (j : Int) < 4 := by omega
                  have hR4 := Lib.hid (hR.out.after hBw.out)
                  have hz := dist.out
                  obtain ⟨Q1, hQ1⟩ : ∃ y, Q j = y := ⟨_, rfl⟩
                  obtain ⟨Tk1, hT1⟩ : ∃ y, T j = y := ⟨_, rfl⟩
                  obtain ⟨li, hli⟩ : ∃ y, l j = y := ⟨_, rfl⟩
                  have e0 : w4.cell? ⟨R, j * 2, none⟩ = some (.iface 32 (.pointer (some ⟨Q1, 0, none⟩))) := by rw [hR4.out.d j hlt, ← hQ1]; unfold Dn; rw [if_pos hlt]
                  have e1 : w4.cell? ⟨R, j * 2 + 1, none⟩ = some (.int .i32 li) := by rw [hR4.out.l j hlt, ← hli]; unfold Ln; rw [if_pos hlt]
                  have e2 : w4.cell? ⟨DS, j, none⟩ = some (.pointer (some ⟨Q1, 0, none⟩)) := by rw [← hQ1]; exact ac hBw.out (hD.out.ds j hlt)
                  have e3 : w4.cell? ⟨LB, j, none⟩ = some (.int .i32 li) := by rw [← hli]; exact ac hBw.out (T3.out.lb j hlt)
                  have qS : Hid (Seg w4 Q1 0 (dcL kt (.slice (some ⟨Tk1, 0, none⟩) 1 1) li 0 0 imp)) := Lib.hid (by rw [← hQ1, ← hT1, ← hli]; exact (hD.out.dl j hlt).after hBw.out)
                  have tS : Hid (TAt w4 Tk1 0 (zk (x (p j)) li)) := Lib.hid (by rw [← hT1, ← hli]; exact (hD.out.tk j hlt).after hBw.out)
                  have e4 : w4.cell? ⟨PB, j, none⟩ = some (.int .i64 (p j)) := ac hBw.out (T3.out.pb j hlt)
                  have hps4 := (HP.out j hlt).1
                  obtain ⟨ps, hps⟩ : ∃ y, p j = y := ⟨_, rfl⟩
                  rw [hps] at e4 tS hps4
                  have e5 : w4.cell? ⟨VB, ps, none⟩ = some (.int .u8 (x ps)) := ac hBw.out (T3.out.vb ps hps4)
                  have xx := HX.out ps
                  obtain ⟨X, hX⟩ : ∃ y, x ps = y := ⟨_, rfl⟩
                  rw [hX] at e5 tS xx
                  have C10 : Hid (∀ w, Calls Tryd.prog 10 #[tkV (zk X li), .int .u8 X] w (Gv (.bool true) w)) := Lib.hid (fun w => by have := isT_c (zk X li) X xx.1 xx.2 rfl rfl w; rwa [tkV_eq rfl] at this)
                  have C9 := Lib.hid (fun w => declOf_c ⟨Q1, 0, none⟩ li w)
                  have p0 : (0 : Int) ≤ ps := by omega
                  have p1 : (ps : Int) < 4 := by omega
                  have E1 := fun w => ptr_neqn w ⟨Q1, 0, none⟩
                  clear hQ1 hT1 hli hps hX hR4 hps4 xx hz
                  have a0 := fun d os => cell_regrown e0 d os
                  have a1 := fun d os => cell_regrown e1 d os
                  have a2 := fun d os => cell_regrown e2 d os
                  have a3 := fun d os => cell_regrown e3 d os
                  go_upto_region 35 with fail
                  refine drawn_tail 21 (by kernel_rfl) (by kernel_rfl) (by kernel_rfl) (fun Q hQ => ?_)
                  simp only [List.take_succ_cons, List.take_zero, List.drop_succ_cons, List.drop_zero]
                  repeat (quiet_step (exact Calls.regrown_of (C9.out _)))
                  refine wpQuiet_nil ?_
                  intro w5 hw
                  have b5 : Hid (Below w4.heap.size w4 w5) := Lib.hid (by
                    obtain ⟨⟨d, os⟩, rfl⟩ := hw
                    exact below_regrown _ d os)
                  replace e2 := ac b5.out e2
                  replace e4 := ac b5.out e4
                  replace e5 := ac b5.out e5
                  replace qS := Lib.hid (qS.out.after b5.out)
                  replace tS := Lib.hid (tS.out.after b5.out)
                  have e6 : w5.cell? ⟨Q1, 1, none⟩ = some (.slice (some ⟨Tk1, 0, none⟩) 1 1) := by simpa using qS.out 1 _ rfl
                  obtain ⟨t0, t1, t2, t3, t4, t5, t6⟩ := tS.out
                  clear hw a0 a1 a2 a3 e0 e1 e3 qS tS
                  go_upto_region 37 with fail
                  have a2 := fun d os => cell_regrown e2 d os
                  have a4 := fun d os => cell_regrown e4 d os
                  have a5 := fun d os => cell_regrown e5 d os
                  have a6 := fun d os => cell_regrown e6 d os
                  have y0 : ∀ d os, (Sort.grow (redrawn w5 d) os).cell? ⟨Tk1, 0, none⟩ = some (.pointer none) := fun d os => cell_regrown t0 d os
                  have y1 : ∀ d os, (Sort.grow (redrawn w5 d) os).cell? ⟨Tk1, 1, none⟩ = some (.string (txS X)) := fun d os => cell_regrown t1 d os
                  have y2 : ∀ d os, (Sort.grow (redrawn w5 d) os).cell? ⟨Tk1, 2, none⟩ = some (.int .i32 li) := fun d os => cell_regrown t2 d os
                  have y3 : ∀ d os, (Sort.grow (redrawn w5 d) os).cell? ⟨Tk1, 3, none⟩ = some (.int .u32 0) := fun d os => cell_regrown t3 d os
                  have y4 : ∀ d os, (Sort.grow (redrawn w5 d) os).cell? ⟨Tk1, 4, none⟩ = some (.int .u16 0) := fun d os => cell_regrown t4 d os
                  have y5 : ∀ d os, (Sort.grow (redrawn w5 d) os).cell? ⟨Tk1, 5, none⟩ = some (.int .u8 (kdS X)) := fun d os => cell_regrown t5 d os
                  have y6 : ∀ d os, (Sort.grow (redrawn w5 d) os).cell? ⟨Tk1, 6, none⟩ = some (.int .u8 0) := fun d os => cell_regrown t6 d os
                  clear t0 t1 t2 t3 t4 t5 t6
                  refine drawn_tail 26 (by kernel_rfl) (by kernel_rfl) (by kernel_rfl) (fun Q hQ => ?_)
                  simp only [List.take_succ_cons, List.take_zero, List.drop_succ_cons, List.drop_zero]
                  repeat (quiet_step (exact Calls.regrown_of (C10.out _)))
                  refine wpQuiet_nil ?_
                  intro w6 hw
                  have b6 : Hid (Below w5.heap.size w5 w6) := Lib.hid (by
                    obtain ⟨⟨d, os⟩, rfl⟩ := hw
                    exact below_regrown _ d os)
                  clear hw a2 a4 a5 a6 y0 y1 y2 y3 y4 y5 y6 e2 e4 e5 e6
                  go_wp2
                  go_roundw
                  case rel => exact ⟨j + 1, by omega, by go_num, hBw.out.trans ((b5.out.trans (b6.out.mono b5.out.size)).mono hBw.out.size)⟩
                  case measure => simp [intOf]; omega
                · obtain ⟨v6, hv6⟩ : ∃ y : Int, (j : Int) = y := ⟨_, rfl⟩
                  have hn6 : ¬ v6 < 4 := by omega
                  rw [hv6]
                  clear hv6
                  go_wp2
                  go_ret
                  exact ⟨rfl, Bw3.out.trans (hBw.out.mono Bw3.out.size)⟩
            · as_aux_lemma =>
              have hDN := Lib.hid (hM.out.2 ⟨rfl, hok⟩)
              clear hM hok oM
              have c0 := T3.out.lb 0 (by omega)
              have cm : l 0 = mnL l 1 := rfl
              obtain ⟨L0, hL0⟩ : ∃ y, l 0 = y := ⟨_, rfl⟩
              rw [hL0] at c0 cm
              replace cm := Lib.hid cm
              clear hL0
              go_wp2
              go_loopw [41, 42] (fun u v wr => ∃ i : Nat, 1 ≤ i ∧ i ≤ 4 ∧ u = .int .i32 (mnL l i) ∧ v = .int .i64 i ∧ w3 = wr) (fun _ v _ => 4 - (intOf v).toNat)
              case atStart => exact ⟨1, by omega, by omega, by rw [cm.out], rfl, rfl⟩
              case round =>
                obtain ⟨i, hi1, hi, rfl, rfl, rfl⟩ := hrel
                by_cases hlt : i < 4
                · have s0 : (0 : Int) ≤ i := by omega
                  have s1 : (i : Int) < 4 := by omega
                  have ei := T3.out.lb i hlt
                  have hm : Hid (mnL l (i + 1) = if l i < mnL l i then l i else mnL l i) := Lib.hid (by show (if i = 0 then l 0 else if l i < mnL l i then l i else mnL l i) = _; rw [if_neg (by omega)])
                  obtain ⟨li, hli⟩ : ∃ y, l i = y := ⟨_, rfl⟩
                  obtain ⟨cu, hcu⟩ : ∃ y, mnL l i = y := ⟨_, rfl⟩
                  rw [hli] at ei
                  rw [hli, hcu] at hm
                  rw [hcu]
                  clear hli hcu
                  by_cases hc : li < cu
                  · rw [if_pos hc] at hm
                    go_wp2
                    go_roundw
                    case rel => exact ⟨i + 1, by omega, by omega, by rw [hm.out], by go_num, by first | rfl | trivial⟩
                    case measure => simp [intOf]; omega
                  · rw [if_neg hc] at hm
                    go_wp2
                    go_roundw
                    case rel => exact ⟨i + 1, by omega, by omega, by rw [hm.out], by go_num, by first | rfl | trivial⟩
                    case measure => simp [intOf]; omega
                · obtain ⟨v6, hv6⟩ : ∃ y : Int, (i : Int) = y := ⟨_, rfl⟩
                  have hn6 : ¬ v6 < 4 := by omega
                  rw [hv6]
                  clear hv6
                  obtain rfl : i = 4 := by omega
                  rw [mnL_4]
                  have hlf := hDN.out.lft (q 3) (HQ.out 3 (by omega)).1 (HQ.out 3 (by omega)).2
                  have hn3 := (HQ.out 3 (by omega)).1
                  have hG := hDN.out.gone
                  obtain ⟨Q, T, cc, k0, k1, kS, kT⟩ := hDN.out.new
                  have hTl : ∀ s, s < 4 → w3.cell? ⟨TL, s, none⟩ = some (.int .i32 (l (q s))) := fun s hs => by
                    have := hDN.out.tl (q s) (HQ.out s hs).1
                    rwa [(HQ.out s hs).2] at this
                  obtain ⟨n, hn⟩ : ∃ y, q 3 = y := ⟨_, rfl⟩
                  obtain ⟨mm, hmm⟩ : ∃ y, mn4 (l 0) (l 1) (l 2) (l 3) = y := ⟨_, rfl⟩
                  rw [hn] at hlf hn3 hG k0 k1
                  rw [hmm] at k1 ⊢
                  replace hG := Lib.hid hG
                  replace kS := Lib.hid kS
                  replace kT := Lib.hid kT
                  replace hTl := Lib.hid hTl
                  replace k0 := Lib.hid k0
                  replace k1 := Lib.hid k1
                  clear hn hmm hDN c0 hn4 hn5
                  rw [hlf]
                  replace hlf := Lib.hid hlf
                  go_wp2
                  go_loopw [43] (fun v wr => ∃ j : Nat, j ≤ 4 ∧ v = .int .i64 j ∧ Below w3.heap.size w3 wr) (fun v _ => 4 - (intOf v).toNat)
                  case atStart => exact ⟨0, by omega, rfl, Below.refl _ _⟩
                  case round =>
                    obtain ⟨j, hj, rfl, hBw⟩ := hrel
                    obtain ⟨w4, rfl⟩ : ∃ w4 : World, w4 = wr := ⟨_, rfl⟩
                    replace hBw := Lib.hid hBw
                    by_cases hlt : j < 4
                    · have s0 : (0 : Int) ≤ j := by omega
                      have s1 : (j : Int) < 4 := by omega
                      by_cases hjn : j = n
                      · have hb : ((j : Int) == (n : Int)) = true := by rw [hjn]; simp
                        clear hjn
                        go_wp2
                        go_roundw
                        case rel => exact ⟨j + 1, by omega, by go_num, hBw.out⟩
                        case measure => simp [intOf]; omega
                      · have hb : ((j : Int) == (n : Int)) = false := by simp; omega
                        have e0 := ac hBw.out (hG.out j hlt hjn).1
                        have e1 := ac hBw.out (hG.out j hlt hjn).2
                        have C11 := Lib.hid (fun w => has_nil 0 w)
                        clear hjn
                        go_wp2_with (go_at_call 11; (with_reducible refine (C11.out _).mono ?_); rintro e w5 ⟨rfl, b5⟩; replace e1 := ac b5 e1; replace b5 := Lib.hid b5)
                        go_roundw
                        case rel => exact ⟨j + 1, by omega, by go_num, hBw.out.trans (b5.out.mono hBw.out.size)⟩
                        case measure => simp [intOf]; omega
                    · obtain ⟨v7, hv7⟩ : ∃ y : Int, (j : Int) = y := ⟨_, rfl⟩
                      have hn7 : ¬ v7 < 4 := by omega
                      rw [hv7]
                      clear hv7
                      have n0 : (0 : Int) ≤ n := by omega
                      have n1 : (n : Int) < 4 := by omega
                      have e0 := ac hBw.out k0.out
                      have e1 := ac hBw.out k1.out
                      have C9 := Lib.hid (fun w => declOf_c ⟨Q, 0, none⟩ mm w)
                      go_upto_region 55 with (go_at_call 9; (with_reducible refine (C9.out _).mono ?_); rintro e w5 ⟨rfl, b5⟩; replace e1 := ac b5 e1; replace b5 := Lib.hid b5)
                      have b35 : Hid (Below w3.heap.size w3 w5) := Lib.hid (hBw.out.trans (b5.out.mono hBw.out.size))
                      have qS := Lib.hid (kS.out.after b35.out)
                      obtain ⟨L3, hL3⟩ : ∃ y, l 3 = y := ⟨_, rfl⟩
                      obtain ⟨kk, hkk⟩ : ∃ y, minN (x 0) (x 1) (x 2) (x 3) = y := ⟨_, rfl⟩
                      have f3 : w5.cell? ⟨LB, 3, none⟩ = some (.int .i32 L3) := by rw [← hL3]; exact ac b35.out (T3.out.lb 3 (by omega))
                      rw [hL3, hkk] at qS
                      have x0 := fun d os => cell_regrown (by simpa using qS.out 0 _ rfl : w5.cell? ⟨Q, 0, none⟩ = some (.string kt)) d os
                      have x2 := fun d os => cell_regrown (by simpa using qS.out 2 _ rfl : w5.cell? ⟨Q, 2, none⟩ = some (.int .i32 L3)) d os
                      have x4 := fun d os => cell_regrown (by simpa using qS.out 4 _ rfl : w5.cell? ⟨Q, 4, none⟩ = some (.int .u16 ky)) d os
                      have x5 := fun d os => cell_regrown (by simpa using qS.out 5 _ rfl : w5.cell? ⟨Q, 5, none⟩ = some (.bool imp)) d os
                      have x3 := fun d os => cell_regrown f3 d os
                      refine drawn_tail 32 (by kernel_rfl) (by kernel_rfl) (by kernel_rfl) (fun Q hQ => ?_)
                      simp only [List.take_succ_cons, List.take_zero, List.drop_succ_cons, List.drop_zero]
                      repeat (quiet_step (fail))
                      refine wpQuiet_nil ?_
                      intro w6 hw
                      have b6 : Hid (Below w5.heap.size w5 w6) := Lib.hid (by
                        obtain ⟨⟨d, os⟩, rfl⟩ := hw
                        exact below_regrown _ d os)
                      have b36 : Hid (Below w3.heap.size w3 w6) := Lib.hid (b35.out.trans (b6.out.mono b35.out.size))
                      clear hw x0 x2 x4 x5 x3 f3 e0 e1
                      go_upto_region 57 with fail
                      have T6 := Lib.hid (T3.out.after b36.out)
                      have y0 := fun d os => cell_regrown (T6.out.vb 0 (by omega)) d os
                      have y1 := fun d os => cell_regrown (T6.out.vb 1 (by omega)) d os
                      have y2 := fun d os => cell_regrown (T6.out.vb 2 (by omega)) d os
                      have y3 := fun d os => cell_regrown (T6.out.vb 3 (by omega)) d os
                      have z0 := fun d os => cell_regrown (ac b36.out (hTl.out 0 (by omega))) d os
                      have z1 := fun d os => cell_regrown (ac b36.out (hTl.out 1 (by omega))) d os
                      have z2 := fun d os => cell_regrown (ac b36.out (hTl.out 2 (by omega))) d os
                      have z3 := fun d os => cell_regrown (ac b36.out (hTl.out 3 (by omega))) d os
                      have x1 := fun d os => cell_regrown (by simpa using (qS.out.after b6.out) 1 _ rfl : w6.cell? ⟨Q, 1, none⟩ = some (.slice (some ⟨T, 0, none⟩) kk cc)) d os
                      have C12 : Hid (∀ d os, Calls Tryd.prog 12 #[.slice (some ⟨T, 0, none⟩) kk cc, q4 (x 0) (x 1) (x 2) (x 3), .agg #[.int .i32 (l (q 0)), .int .i32 (l (q 1)), .int .i32 (l (q 2)), .int .i32 (l (q 3))], .bool m] (Sort.grow (redrawn w6 d) os) (Gv (.bool true) (Sort.grow (redrawn w6 d) os))) := Lib.hid (fun d os => by
                        rw [← hkk]
                        exact check_c T _ cc (x 0) (x 1) (x 2) (x 3) (l (q 0)) (l (q 1)) (l (q 2)) (l (q 3)) m _ _ rfl (HX.out 0) (HX.out 1) (HX.out 2) (HX.out 3) (fun i hi => ⟨((kT.out i hi).after b36.out).after (below_regrown w6 d os), rfl, rfl, rfl, rfl, rfl⟩))
                      generalize x 0 = X0 at *
                      generalize x 1 = X1 at *
                      generalize x 2 = X2 at *
                      generalize x 3 = X3 at *
                      generalize l (q 0) = M0 at *
                      generalize l (q 1) = M1 at *
                      generalize l (q 2) = M2 at *
                      generalize l (q 3) = M3 at *
                      refine drawn_tail 8 (by kernel_rfl) (by kernel_rfl) (by kernel_rfl) (fun Q hQ => ?_)
                      simp only [List.take_succ_cons, List.take_zero, List.drop_succ_cons, List.drop_zero]
                      repeat (quiet_step (exact Calls.regrown_of (C12.out _ _)))
                      refine wpQuiet_nil ?_
                      intro w7 hw
                      have b7 : Hid (Below w6.heap.size w6 w7) := Lib.hid (by
                        obtain ⟨⟨d, os⟩, rfl⟩ := hw
                        exact below_regrown _ d os)
                      clear hw x1 y0 y1 y2 y3 z0 z1 z2 z3
                      go_wp2
                      go_ret
                      exact ⟨rfl, Bw3.out.trans ((b36.out.trans (b7.out.mono b36.out.size)).mono Bw3.out.size)⟩
end Go.Proofs.YtgijoikmggjopaaDoor
