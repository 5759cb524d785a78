/- The law's walk. -/
import Derived.Test.YthdogpahkglaoaaDoorBcq
set_option linter.unusedVariables false
set_option linter.unusedSimpArgs false
namespace Go.Proofs.YthdogpahkglaoaaDoor
open Go.RowKit
theorem mK_cg {x x' : Nat → Int} (h : ∀ i, i < 4 → x i = x' i) : mK x = mK x' ∧ mP x = mP x' := by
  unfold mK
  refine ⟨?_, funext fun i => ?_⟩
  · rw [h 0 (by omega), h 1 (by omega), h 2 (by omega), h 3 (by omega)]
  · unfold mP
    rw [h 0 (by omega), h 1 (by omega), h 2 (by omega), h 3 (by omega)]
theorem m_cg {x x' y y' : Nat → Int} (h : ∀ i, i < 4 → x i = x' i) (h' : ∀ i, i < 4 → y i = y' i) (m : Bool) : mN x y = mN x' y' ∧ mC x y = mC x' y' ∧ mW x y m = mW x' y' m := by
  obtain ⟨e1, e2⟩ := mK_cg h
  obtain ⟨f1, f2⟩ := mK_cg h'
  have e : mEq x y = mEq x' y' := by unfold mEq; rw [e1, e2, f1, f2]
  refine ⟨by unfold mN; rw [e, e1, f1], by unfold mC; rw [e, e1, e2, f2], by unfold mW; rw [e, e1, f1]⟩
theorem mC_07 {x y : Nat → Int} (hx : I4 x) (hy : I4 y) (i : Nat) : 0 ≤ mC x y i ∧ mC x y i ≤ 7 := by
  have a := mP_all (p := fun c => 0 ≤ c ∧ c ≤ 7) (fun i hi => ⟨(hx i hi).1, by have := (hx i hi).2; omega⟩) i
  have b := mP_all (p := fun c => 0 ≤ c ∧ c ≤ 7) (fun i hi => ⟨(hy i hi).1, by have := (hy i hi).2; omega⟩) (i - mK x - 1)
  unfold mC
  repeat' split
  all_goals first | exact a | exact b | exact ⟨by omega, by omega⟩
theorem mN_le (x y : Nat → Int) : mN x y ≤ 9 := by
  have := mK_le x
  have := mK_le y
  unfold mN
  split <;> omega
theorem mN_pos (x y : Nat → Int) : 0 < mN x y := by
  have := mK_pos x
  unfold mN
  split <;> omega
/-- what the second run's merge is read back to -/
theorem again {x y : Nat → Int} (hx : I4 x) (hy : I4 y) : (∃ bs sa, OkL (mC x y) (mN x y) bs sa) ∧ ∀ bs sa, OkL (mC x y) (mN x y) bs sa → ∀ m, mN (xqI bs (mC x y)) (q2I (mC x y) (mN x y) bs sa) = mN x y ∧ mC (xqI bs (mC x y)) (q2I (mC x y) (mN x y) bs sa) = mC x y ∧ mW (xqI bs (mC x y)) (q2I (mC x y) (mN x y) bs sa) m = mW x y m := by
  obtain ⟨sa0, h1, h2, h3, h4⟩ := okS_m x y hx hy
  refine ⟨⟨_, sa0, h1, h4⟩, fun bs sa h m => ?_⟩
  obtain ⟨rfl, rfl⟩ := h1.same h.1.sl
  exact m_cg h2 h3 m
theorem ok_I4 {g : Nat → Int} {N bs sa : Nat} (h : OkL g N bs sa) (hg : ∀ i, i < N → 0 ≤ g i) : I4 (xqI bs g) ∧ I4 (q2I g N bs sa) :=
  ⟨fun i _ => x1_all (p := fun c => 0 ≤ c ∧ c ≤ 4) h.1 (fun j hj hne => ⟨hg j hj, h.2 j hj hne⟩) i, fun i _ => q2_all (p := fun c => 0 ≤ c ∧ c ≤ 4) h.1 (fun j hj hne => ⟨hg j hj, h.2 j hj hne⟩) i⟩
def R1 (w : World) (e : Ending) (w' : World) : Prop := e = .returned (.bool true) ∧ Below w.heap.size w w'
set_option maxRecDepth 100000 in
set_option maxHeartbeats 4000000 in
theorem law4_c (A : Option Addr) (N c : Nat) (f : Nat → Int) (imp m : Bool) (loc : Int) (w : World) (hnil : A = none → N = 0 ∧ c = 0) (h : RowV (fun i => .int .u8 (f i)) w A N) (hf : ∀ i, i < N → 0 ≤ f i ∧ f i ≤ 255) :
    Calls Tryd.prog 4 #[.slice A N c, .bool imp, .bool m, .int .i32 loc] w (R1 w) := by
  rcases Nat.lt_or_ge 1048576 N with h1 | h1
  · have C14 := Lib.hid (fun w => by14_no A N c imp m loc w (by omega))
    go_enter Tryd.func4, Tryd.ntmps4
    go_wp2_with (go_at_call 14; (with_reducible refine (C14.out _).mono ?_); rintro e w1 ⟨rfl, b1⟩; replace b1 := Lib.hid b1)
    go_ret
    exact ⟨rfl, b1.out⟩
  have C14 := Lib.hid (fun w => by14_yes A N c imp m loc w h1)
  rcases Nat.lt_or_ge 4096 N with h2 | h2
  · have h3 : (4096 : Int) < N := by omega
    go_enter Tryd.func4, Tryd.ntmps4
    go_wp2_with (go_at_call 14; (with_reducible refine (C14.out _).mono ?_); rintro e w1 ⟨rfl, b1⟩; replace b1 := Lib.hid b1)
    go_ret
    exact ⟨rfl, b1.out⟩
  have h3 : ¬ (4096 : Int) < N := by omega
  have C15 := Lib.hid (fun w1 (b : Below w.heap.size w w1) => clone15_c A N c f w1 h1 hnil (h.after b))
  have C16 := Lib.hid (fun A' w2 (r : RowV (fun i => .int .u8 (f i)) w2 A' N) => run_c A' N N f imp m loc w2 h2 r hf)
  have HF := Lib.hid hf
  clear hnil h hf
  go_enter Tryd.func4, Tryd.ntmps4
  go_upto_region 7 with (first | (go_at_call 14; (with_reducible refine (C14.out _).mono ?_); rintro e w1 ⟨rfl, b1⟩; replace b1 := Lib.hid b1) | (go_at_call 15; (with_reducible refine (C15.out _ b1.out).mono ?_); rintro e w2 ⟨A', rfl, -, -, r2, b2⟩; replace b2 := Lib.hid b2; replace r2 := Lib.hid r2) | (go_at_call 16; (with_reducible refine (C16.out _ _ r2.out).mono ?_); rintro e w3 ⟨b3, P, R, rfl, oP, hl, cas⟩; replace b3 := Lib.hid b3; replace oP := Lib.hid oP; replace cas := Lib.hid cas; replace hl := Lib.hid hl))
  refine wp_gen (fun W4 hW4 => ?_)
  have b4 : Hid (Below w3.heap.size w3 W4) := Lib.hid (by rw [hW4]; exact ba _ _)
  have kS : Hid (Seg W4 w3.heap.size 0 [.int .i32 loc, .int .i32 13]) := Lib.hid (by rw [hW4]; exact Seg.new w3 [.int .i32 loc, .int .i32 13] 35)
  clear hW4
  have bw4 : Hid (Below w.heap.size w W4) := Lib.hid (((b1.out.trans (b2.out.mono b1.out.size)).trans (b3.out.mono (Nat.le_trans b1.out.size b2.out.size))).trans (b4.out.mono (Nat.le_trans (Nat.le_trans b1.out.size b2.out.size) b3.out.size)))
  obtain ⟨l, hl⟩ := hl.out
  have cl := ac b4.out hl
  replace hl := Lib.hid hl
  obtain ⟨cP, oP⟩ := oP.out
  replace oP : Hid (W4.heap[P]? = some (.cells cP 39)) := Lib.hid ((b4.out.block P (Array.getElem?_eq_some_iff.1 oP).1).trans oP)
  rcases cas.out with c0 | ⟨bs, sa, hok, Q, T, G, hQP, c0, hd⟩
  · have c0' := ac b4.out c0
    replace c0 := Lib.hid c0
    have C10 := Lib.hid (fun w => declOf_c ⟨P, 0, none⟩ l w)
    go_upto_region 8 with (go_at_call 10; (with_reducible refine (C10.out _).mono ?_); rintro e W5 ⟨rfl, b5⟩; replace b5 := Lib.hid b5)
    have E1 := ptr_eqn W5 ⟨P, 0, none⟩
    go_wp2
    go_ret
    exact ⟨rfl, bw4.out.trans (b5.out.mono bw4.out.size)⟩
  · have c0' := ac b4.out c0
    replace c0 := Lib.hid c0
    obtain ⟨hx, hy⟩ := ok_I4 hok (fun i _ => by omega)
    obtain ⟨hag, hsm⟩ := again hx hy
    generalize xqI bs (fun i => f i % 8) = x at hd hx hy hag hsm
    generalize q2I (fun i => f i % 8) N bs sa = y at hd hx hy hag hsm
    replace hag := Lib.hid hag
    replace hsm := Lib.hid (fun bs sa h => hsm bs sa h m)
    have hg7 := Lib.hid (mC_07 hx hy)
    have hn9 := mN_le x y
    have hn1 := mN_pos x y
    replace hx := Lib.hid hx
    replace hy := Lib.hid hy
    clear hok
    have d4 : Hid (DcC W4 Q T (mN x y) G (mC x y) (mW x y m) loc 13 imp) := Lib.hid (hd.only (S := fun _ => False) (Only.of b4.out) id id)
    clear hd cas C14 C15 C16 r2 HF
    generalize hgn : mN x y = n at hag hsm hn9 hn1 d4
    generalize mC x y = g at hag hsm d4 hg7
    generalize mW x y m = u at hsm d4
    clear hgn hx hy
    have C10 := Lib.hid (fun w => declOf_c ⟨Q, 0, none⟩ l w)
    go_upto_region 8 with (go_at_call 10; (with_reducible refine (C10.out _).mono ?_); rintro e W5 ⟨rfl, b5⟩; replace b5 := Lib.hid b5)
    have b45 : Hid (Below w.heap.size w W5) := Lib.hid (bw4.out.trans (b5.out.mono bw4.out.size))
    have kS5 := Lib.hid (kS.out.after b5.out)
    have d5 : Hid (DcC W5 Q T n G g u loc 13 imp) := Lib.hid (d4.out.only (S := fun _ => False) (Only.of b5.out) id id)
    have oP5 : Hid (W5.heap[P]? = some (.cells cP 39)) := Lib.hid ((b5.out.block P (Array.getElem?_eq_some_iff.1 oP.out).1).trans oP.out)
    obtain ⟨cQ, oQ⟩ := d5.out.obj
    have E1 := ptr_nen W5 hQP oQ oP5.out
    replace oQ := Lib.hid oQ
    obtain ⟨cc, sQ⟩ := d5.out.cc
    have q1 : W5.cell? ⟨Q, 1, none⟩ = some (.slice (some ⟨T, 0, none⟩) n cc) := by simpa using sQ 1 _ rfl
    replace sQ := Lib.hid sQ
    have mk : ∀ W, (Instr.makeSlice 23 (.int .i64 n) (.int .i64 n)).run Tryd.prog W = .ok (.slice (some ⟨W.heap.size, 0, none⟩) n n) (W.alloc (.cells (madeCells tkZ (n * 7)) 32)) := fun W => make_z (b := 40) tkZ Tryd.underlying23 (show (Tryd.prog.info? 32).map (fun i => (i.zero.map (·.cells), i.size, i.bytes)) = some (some tkZ, 7, 40) by kernel_rfl) n (by omega) (by omega) W
    have mk2 : ∀ W, (Instr.makeSlice 40 (.int .i64 1) (.int .i64 1)).run Tryd.prog W = .ok (.slice (some ⟨W.heap.size, 0, none⟩) 1 1) (W.alloc (.cells (madeCells #[.nilIface, .int .i32 0] (1 * 2)) 46)) := fun W => make_z (b := 24) #[.nilIface, .int .i32 0] Tryd.underlying40 (show (Tryd.prog.info? 46).map (fun i => (i.zero.map (·.cells), i.size, i.bytes)) = some (some #[.nilIface, .int .i32 0], 2, 24) by kernel_rfl) 1 (by omega) (by omega) W
    have n0 : (0 : Int) ≤ n := by omega
    clear C10 c0' cl
    go_wp2
    refine wp_gen (fun W6 hW6 => ?_)
    have b6 : Hid (Below W5.heap.size W5 W6) := Lib.hid (by rw [hW6]; exact ba _ _)
    have rS : Hid (Room W6 W5.heap.size (n * 7)) := Lib.hid (by rw [hW6]; exact Room.made _ _ _ _)
    have lS : W5.heap.size < W6.heap.size := by rw [hW6]; simp
    clear hW6 E1 q1 mk
    have d6 : Hid (DcC W6 Q T n G g u loc 13 imp) := Lib.hid (d5.out.only (S := fun _ => False) (Only.of b6.out) id id)
    have sQ6 := Lib.hid (sQ.out.after b6.out)
    have kS6 := Lib.hid (kS5.out.after b6.out)
    have lQ5 : Q < W5.heap.size := (Array.getElem?_eq_some_iff.1 oQ.out).1
    have lK5 : w3.heap.size < W5.heap.size := block_lt_of_cell (kS5.out 0 _ rfl)
    have hTl : T < W5.heap.size := block_lt_of_cell ((d5.out.tok 0 hn1).c0)
    obtain ⟨S, hS⟩ : ∃ z, W5.heap.size = z := ⟨_, rfl⟩
    obtain ⟨K, hK⟩ : ∃ z, w3.heap.size = z := ⟨_, rfl⟩
    rw [hS] at rS lS lQ5 lK5 hTl ⊢
    rw [hK] at kS6 lK5 ⊢
    have hSw : w.heap.size ≤ S := by rw [← hS]; exact b45.out.size
    replace hS := Lib.hid hS
    clear d4 d5 kS kS5 sQ b4 hK
    have b06 : Hid (Below w.heap.size w W6) := Lib.hid (b45.out.trans (b6.out.mono b45.out.size))
    go_loopw [15] (fun v wr => ∃ i : Nat, i ≤ n ∧ v = .int .i64 i ∧ LS W6 S n G i wr) (fun v _ => n - (intOf v).toNat)
    case atStart => exact ⟨0, by omega, rfl, fun j hj => by omega, rS.out, Only.refl _⟩
    case round =>
      obtain ⟨i, hi, rfl, hL⟩ := hrel
      obtain ⟨w7, rfl⟩ : ∃ w7 : World, w7 = wr := ⟨_, rfl⟩
      replace hL := Lib.hid hL
      have nQ : ¬ Q = S := by omega
      by_cases hlt : i < n
      · have i0 : (0 : Int) ≤ i := by omega
        have i1 : (i : Int) < n := by omega
        have nT : ¬ T = S := by omega
        have q1 : w7.cell? ⟨Q, 1, none⟩ = some (.slice (some ⟨T, 0, none⟩) n cc) := hL.out.only.keep (by simpa using sQ6.out 1 _ rfl) nQ
        have sg : Hid (Seg w7 T (i * 7) (tkL (G i))) := Lib.hid (((d6.out.tok i hlt).seg (d6.out.sim i).1.ch).only hL.out.only nT)
        go_upto_region 14 with (first | ((with_reducible refine wpList_at (o := ⟨some 74, .load 32 (.tmp 73), _, _, _, _⟩) ?_); refine wpList_load_seg (op := ⟨some 74, .load 32 (.tmp 73), _, _, _, _⟩) rfl 32 (.tmp 73) rfl T (i * 7) rfl (tkL (G i)) _ Tryd.underlying32 rfl (i32k (G i)) sg.out ?_) | ((with_reducible refine wpList_at (o := ⟨none, .store 32 (.tmp 75) (.tmp 74), _, _, _, _⟩) ?_); refine wpList_store_room (op := ⟨none, .store 32 (.tmp 75) (.tmp 74), _, _, _, _⟩) rfl 32 (.tmp 75) (.tmp 74) rfl S (i * 7) (n * 7) (tkL (G i)) hL.out.rs (by show i * 7 + 7 ≤ n * 7; omega) rfl rfl (i32k (G i)) (tkL_one (G i)) ?_; intro V8 hV8))
        have HL2 : Hid (LS W6 S n G (i + 1) V8) := Lib.hid (hL.out.step hlt (Below.refl _ _) hV8)
        clear hV8 q1
        go_wp2
        go_roundw
        case rel => exact ⟨i + 1, by omega, by go_num, HL2.out⟩
        case measure => simp [intOf]; omega
      · obtain rfl : i = n := by omega
        have k0 : w7.cell? ⟨K, 0, none⟩ = some (.int .i32 loc) := hL.out.only.keep (by simpa using kS6.out 0 _ rfl) (by show ¬ K = S; omega)
        have k1 : w7.cell? ⟨K, 1, none⟩ = some (.int .i32 13) := hL.out.only.keep (by simpa using kS6.out 1 _ rfl) (by show ¬ K = S; omega)
        go_upto_region 18 with fail
        refine wp_gen (fun W8 hW8 => ?_)
        clear k0 k1
        have b8 : Hid (Below w7.heap.size w7 W8) := Lib.hid (by rw [hW8]; exact (ba _ _).trans ((ba _ _).mono (by simp)))
        have sD : Hid (Seg W8 w7.heap.size 0 (dcL ktB (.slice (some ⟨S, 0, none⟩) i i) loc 13 66 imp)) := Lib.hid (by rw [hW8]; exact (Seg.new w7 (dcL ktB (.slice (some ⟨S, 0, none⟩) i i) loc 13 66 imp) 39).after (ba _ _))
        have oD : Hid (∃ cs : Array Value, W8.heap[w7.heap.size]? = some (.cells cs 39)) := Lib.hid ⟨_, by rw [hW8]; exact heap2' _ _ _⟩
        have rR : Hid (Room W8 (w7.heap.size + 1) 2) := Lib.hid (by
          rw [hW8]
          have := Room.made (w7.alloc (.cells (dcL ktB (.slice (some ⟨S, 0, none⟩) i i) loc 13 66 imp).toArray 39)) #[.nilIface, .int .i32 0] 2 46
          simpa using this)
        clear hW8 mk2
        have hS7 : S < w7.heap.size := Nat.lt_of_lt_of_le lS hL.out.only.size
        have o67 := Lib.hid hL.out.only
        have tS : Hid (∀ j, j < i → TAt W8 S (j * 7) (G j)) := Lib.hid (fun j hj => ((hL.out.ct j hj).tat (d6.out.sim j).1.ch).after b8.out)
        have hw7 : W6.heap.size ≤ w7.heap.size := hL.out.only.size
        have hw8 : w7.heap.size ≤ W8.heap.size := b8.out.size
        clear hL rS
        obtain ⟨D2, hD2⟩ : ∃ z, w7.heap.size = z := ⟨_, rfl⟩
        obtain ⟨R2, hR2⟩ : ∃ z, D2 + 1 = z := ⟨_, rfl⟩
        rw [hD2] at sD oD rR hS7 hw7 hw8 ⊢
        rw [hR2] at rR ⊢
        have lR : R2 < W8.heap.size := rR.out.lt (by omega)
        replace hD2 := Lib.hid hD2
        go_upto_region 20 with (first | ((with_reducible refine wpList_at (o := ⟨none, .store 46 (.tmp 88) (.tmp 87), _, _, _, _⟩) ?_); refine wpList_store_room (op := ⟨none, .store 46 (.tmp 88) (.tmp 87), _, _, _, _⟩) rfl 46 (.tmp 88) (.tmp 87) rfl R2 (0) (2) ([.iface 36 (.pointer (some ⟨D2, 0, none⟩)), .int .i32 loc]) rR.out (by show 0 + 2 ≤ 2; omega) rfl rfl (i46n _ _) (rule_onen _ rfl _) ?_; intro V8 hV8; replace hV8 := Lib.hid hV8) | (go_at_call 6; (with_reducible refine (new_c _).mono ?_); rintro e W9 ⟨rfl, b9, t9, l9⟩; replace b9 := Lib.hid b9; replace t9 := Lib.hid t9; replace l9 := Lib.hid l9))
        have o8 : Hid (Only (fun z => z = R2) W8 V8) := Lib.hid (by rw [hV8.out]; exact Only.setCells (S := fun z => z = R2) R2 rfl _ _ (Only.refl _))
        have rl : Hid (Rul V8 R2 1 (fun _ => .iface 36 (.pointer (some ⟨D2, 0, none⟩))) (fun _ => loc)) := Lib.hid (Rul.one rR.out hV8.out)
        have hV8s : V8.heap.size = W8.heap.size := by rw [hV8.out, setCells_size]
        clear hV8 rR
        obtain ⟨B, hB⟩ : ∃ z, V8.heap.size = z := ⟨_, rfl⟩
        rw [hB] at t9 l9 ⊢
        replace hB := Lib.hid (hV8s.symm.trans hB)
        clear hV8s
        have l9' := l9.out
        have hBB := hB.out
        have o9 : Hid (Only (fun z => z = R2) W8 W9) := Lib.hid (o8.out.trans (Only.of b9.out))
        have tS9 : Hid (∀ j, j < i → TAt W9 S (j * 7) (G j)) := Lib.hid (fun j hj => (((tS.out j hj).seg (d6.out.sim j).1.ch).only o9.out (by show ¬ S = R2; omega)).tat (d6.out.sim j).1.ch)
        have C8 := Lib.hid (crn_c B R2 1 D2 S i i imp m g G ktB loc 13 66 _ _ W9 t9.out (rl.out.after b9.out) (sD.out.only o9.out (by show ¬ D2 = R2; omega)) tS9.out (fun j hj => ⟨(d6.out.sim j).1, hg7.out j⟩) (by omega) (Nat.le_refl _) (by omega) (by omega) (by omega) (by omega))
        go_upto_region 21 with (go_at_call 8; (with_reducible refine C8.out.mono ?_); rintro e W10 hc; obtain rfl := hc.ret; replace hc := Lib.hid hc)
        clear C8 tS9 tS t9 rl
        rcases hc.out.cas with ⟨c0', hno⟩ | ⟨bs', sa', hok', Q2, T2, G2, hQ2, hT2, c0', hd2⟩
        · exact absurd hag.out hno
        obtain ⟨g1, g2, g3⟩ := hsm.out bs' sa' hok'
        rw [g1, g2, g3] at hd2
        clear g1 g2 g3 hok'
        obtain ⟨l2, cl⟩ := hc.out.l
        have o810 : Hid (Only (fun z => z = B ∨ z = R2) W8 W10) := Lib.hid ((o9.out.wide (fun _ e => .inr e)).trans hc.out.only)
        replace hd2 := Lib.hid hd2
        clear hc
        have C10 := Lib.hid (fun w => declOf_c ⟨Q2, 0, none⟩ l2 w)
        go_upto_region 22 with (go_at_call 10; (with_reducible refine (C10.out _).mono ?_); rintro e W11 ⟨rfl, b11⟩; replace b11 := Lib.hid b11)
        clear c0' cl C10
        have o811 : Hid (Only (fun z => z = B ∨ z = R2) W8 W11) := Lib.hid (o810.out.trans (Only.of b11.out))
        have o611 : Hid (Only (fun z => S ≤ z) W6 W11) := Lib.hid ((o67.out.wide (fun z e => by omega)).trans ((Only.of b8.out).trans (o811.out.wide (fun z e => by omega))))
        have d11 : Hid (DcC W11 Q T i G g u loc 13 imp) := Lib.hid (d6.out.only o611.out (by omega) (by omega))
        have e11 : Hid (DcC W11 Q2 T2 i G2 g u loc 13 imp) := Lib.hid (hd2.out.only (S := fun _ => False) (Only.of b11.out) id id)
        have bw11 : Hid (Below w.heap.size w W11) := Lib.hid (b06.out.trans (o611.out.below w.heap.size b06.out.size (fun z e => Nat.le_trans hSw e)))
        obtain ⟨cD, oD⟩ := oD.out
        have oD11 : W11.heap[D2]? = some (.cells cD 39) := (o811.out.obj D2 (by omega) (by omega)).trans oD
        obtain ⟨cQ2, oQ2⟩ := e11.out.obj
        obtain ⟨cc2, sQ2⟩ := e11.out.cc
        have E2 := ptr_nen W11 (by omega : ¬ Q2 = D2) oQ2 oD11
        have q2 : W11.cell? ⟨Q2, 1, none⟩ = some (.slice (some ⟨T2, 0, none⟩) i cc2) := by simpa using sQ2 1 _ rfl
        replace sQ2 := Lib.hid sQ2
        obtain ⟨cc1, sQ1⟩ := d11.out.cc
        replace sQ1 := Lib.hid sQ1
        clear oD oD11 oQ2 o611 o811 o810 o9 o8 o67 b8 b9 hd2 hsm hag
        go_wp2
        clear E2 q2
        go_loopw [20] (fun v wr => ∃ k : Nat, k ≤ i ∧ v = .int .i64 k ∧ Below W11.heap.size W11 wr) (fun v _ => i - (intOf v).toNat)
        case atStart => exact ⟨0, by omega, rfl, Below.refl _ _⟩
        case round =>
          obtain ⟨k, hk, rfl, hBel⟩ := hrel
          obtain ⟨w12, rfl⟩ : ∃ w12 : World, w12 = wr := ⟨_, rfl⟩
          replace hBel := Lib.hid hBel
          by_cases hlt : k < i
          · have i0 : (0 : Int) ≤ k := by omega
            have i1 : (k : Int) < i := by omega
            have q1 : w12.cell? ⟨Q, 1, none⟩ = some (.slice (some ⟨T, 0, none⟩) i cc1) := ac hBel.out (by simpa using sQ1.out 1 _ rfl)
            have q2 := fun o => al (ac hBel.out (by simpa using sQ2.out 1 _ rfl) : w12.cell? ⟨Q2, 1, none⟩ = some (.slice (some ⟨T2, 0, none⟩) i cc2)) o
            have sg : Hid (Seg w12 T (k * 7) (tkL (G k))) := Lib.hid (((d11.out.tok k hlt).seg (d11.out.sim k).1.ch).after hBel.out)
            have sg2 : Hid (Seg w12 T2 (k * 7) (tkL (G2 k))) := Lib.hid (((e11.out.tok k hlt).seg (e11.out.sim k).1.ch).after hBel.out)
            have ekd : (G2 k).kd = (G k).kd := (e11.out.sim k).1.kd.trans (d11.out.sim k).1.kd.symm
            have etx : (G2 k).tx = (G k).tx := (e11.out.sim k).1.tx.trans (d11.out.sim k).1.tx.symm
            have ews : (G2 k).ws = (G k).ws := (e11.out.sim k).2.trans (d11.out.sim k).2.symm
            go_upto_region 26 with (first | ((with_reducible refine wpList_at (o := ⟨some 126, .load 32 (.tmp 125), _, _, _, _⟩) ?_); refine wpList_load_seg (op := ⟨some 126, .load 32 (.tmp 125), _, _, _, _⟩) rfl 32 (.tmp 125) rfl T (k * 7) rfl (tkL (G k)) _ Tryd.underlying32 rfl (i32k (G k)) sg.out ?_) | ((with_reducible refine wpList_at (o := ⟨some 133, .load 32 (.tmp 132), _, _, _, _⟩) ?_); refine wpList_load_seg (op := ⟨some 133, .load 32 (.tmp 132), _, _, _, _⟩) rfl 32 (.tmp 132) rfl T2 (k * 7) rfl (tkL (G2 k)) _ Tryd.underlying32 rfl (i32k (G2 k)) (sg2.out.after (ba _ _)) ?_))
            go_wp2
            go_roundw
            case rel => exact ⟨k + 1, by omega, by go_num, hBel.out.trans (((ba _ _).trans ((ba _ _).mono (by simp))).mono hBel.out.size)⟩
            case measure => simp [intOf]; omega
          · obtain rfl : k = i := by omega
            have q5 : w12.cell? ⟨Q2, 5, none⟩ = some (.bool imp) := ac hBel.out (by simpa using sQ2.out 5 _ rfl)
            go_wp2
            go_ret
            exact ⟨by simp, bw11.out.trans (hBel.out.mono bw11.out.size)⟩
end Go.Proofs.YthdogpahkglaoaaDoor
