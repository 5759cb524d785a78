/- FnSubstituteAmpersandsClosedForm: substituteAmpersandsInCompoundSelector, in full. -/
import Derived.Test.YtjigljpodkfchaaFmtSuk
set_option linter.unusedVariables false
set_option linter.unusedSimpArgs false
namespace Go.Proofs.YtjigljpodkfchaaFmt
open Go.RowKit
set_option maxRecDepth 100000
set_option maxHeartbeats 40000000
theorem inf40 : (Tryf.prog.info? 40).isSome = true := by kernel_rfl
theorem inf107 : (Tryf.prog.info? 107).isSome = true := by kernel_rfl
def F20P (c0 : Int) (k : Nat) (st rc : Int) (rep : List SK) (nm : List ByteArray) (base n : Nat) (v : Value) (xs : List Value) (w : World) (e : Ending) (w' : World) : Prop := ∃ (a : Option Addr) (c : Nat) (r : CpR SK) (Zs : Nat → Prop), e = .returned (.slice a (n + 1) c) ∧ w'.ownsRow base 40 6 (.slice a (n + 1) c) (n + 1) (xs ++ r.cells) ∧ r.cb = ecomb c0 k st rc ∧ r.nn = 0 ∧ r.ls.map SubR.k = subk k rep nm ∧ RowG Zs (Ob (.slice a (n + 1) c)) w' r.a r.ls ∧ Kp (Ob v) w w' ∧ (∀ b, Ob (.slice a (n + 1) c) b → Ob v b ∨ w.heap.size ≤ b)
/-- what a key may say -/
def GoodK (pk : List (List (CK ByteArray))) : Prop := pk.length ≤ 1048576 ∧ ∀ x ∈ pk, x.length ≤ 1048576 ∧ ∀ s ∈ x, s.nn = 0 ∧ s.ks.length ≤ 1048576
theorem sub20_c (p : Value) (fn : Nat) (caps : Array Value) (rc : Int) (rep : List SK) (st : Int) (hst : st = 0 ∨ st = 1) (r : CpR ByteArray) (am : Nat) (hnn : r.nn = am) (ham : am ≤ 255) (hl : r.ls.length ≤ 1048576) (hrep : am * rep.length ≤ 65536) (hgood : ∀ pk, Sum.inr pk ∈ rep → GoodK pk) (w : World) (base n : Nat) (v : Value) (xs : List Value) (h : GCp G0 (Ob v) w r) (hO : w.ownsRow base 40 6 v n xs) (hn : n ≤ 1048576) (hb : base ≤ w.heap.size) (hcf : ∀ W, (callFunc fn (#[.agg #[.int .i32 0]] ++ caps)).run Tryf.prog W = .ok (.enter fn (#[.agg #[.int .i32 0]] ++ caps)) W) (hF : ∀ W, Below w.heap.size w W → Calls Tryf.prog fn (#[.agg #[.int .i32 0]] ++ caps) W (FnP rc rep v w.heap.size W)) : Calls Tryf.prog 20 #[p, .agg r.arr, .func (.func fn) #[] caps, v, .int .u8 st] w (F20P r.cb am st rc rep (r.ls.map SubR.k) base n v xs w) := by
  obtain ⟨a, c, ls, nx, nn, nc, cb⟩ := r
  simp only at hnn hl
  subst hnn
  obtain ⟨va, vc, rfl⟩ := own_head hO
  obtain ⟨m, hm⟩ : ∃ m, ls.length = m := ⟨_, rfl⟩
  obtain ⟨hRS, -, hRL⟩ := h
  simp only at hRS hRL
  show Calls Tryf.prog 20 #[p, .agg #[.pointer none, .slice a ls.length c, .slice nx nn nc, .int .i32 0, .int .u8 cb, .bool false], .func (.func fn) #[] caps, .slice va n vc, .int .u8 st] w (F20P cb nn st rc rep (ls.map SubR.k) base n (.slice va n vc) xs w)
  generalize hQ : F20P cb nn st rc rep (ls.map SubR.k) base n (.slice va n vc) xs w = QQ
  replace hQ := Lib.hid hQ
  rw [hm] at hl ⊢
  replace hm := Lib.hid hm
  replace hRS := Lib.hid hRS
  replace hRL := Lib.hid hRL
  replace hO := Lib.hid hO
  replace hF := Lib.hid hF
  replace hgood := Lib.hid hgood
  replace hrep := Lib.hid hrep
  go_enter Tryf.func20, Tryf.ntmps20
  go_upto_region 1 with fail
  refine wp_gen (fun W hW => ?_)
  have bW : Hid (Below w.heap.size w W) := Lib.hid (by rw [hW]; exact ba _ _)
  have sP : Hid (Seg W w.heap.size 0 [.pointer none, .slice a m c, .slice nx nn nc, .int .i32 0, .int .u8 cb, .bool false]) := Lib.hid (by rw [hW]; exact Seg.new _ _ _)
  have rP : Hid (Room W w.heap.size 6) := Lib.hid (by rw [hW]; exact Room.newN _ _ rfl _)
  have zW : W.heap.size = w.heap.size + 1 := by rw [hW]; simp
  clear hW
  have hsP := segs6 sP.out
  simp only [Nat.zero_add] at hsP
  obtain ⟨p0, p1, p2, p3, p4, p5⟩ := hsP
  obtain ⟨P, hP⟩ : ∃ y, w.heap.size = y := ⟨_, rfl⟩
  rw [hP] at p0 p1 p2 p3 p4 p5 sP rP bW zW ⊢
  have hPw := Lib.hid hP
  clear hP
  go_wp2
  clear p0 p1 p2 p3 p4 p5
  go_loopw [3, 30] (fun rv i wr => ∃ (k : Nat) (lj : List (SubR SK)) (aj : Option Addr) (cj : Nat) (Zs : Nat → Prop), k ≤ nn ∧ i = .int .i64 k ∧ rv = .slice va n vc ∧ Seg wr P 0 [.pointer none, .slice aj lj.length cj, .slice nx nn nc, .int .i32 0, .int .u8 (ecomb cb k st rc), .bool false] ∧ Room wr P 6 ∧ lj.map SubR.k = subk k rep (ls.map SubR.k) ∧ RowG Zs (fun b => Ob (.slice va n vc) b ∨ b = P) wr aj lj ∧ (∀ Z, Zs Z → P < Z ∧ Room wr Z 4) ∧ Dist lj ∧ Below P w wr) (fun _ i _ => nn - (intOf i).toNat)
  case atStart =>
    have bW2 : Below w.heap.size w W := by rw [hPw.out]; exact bW.out
    refine ⟨0, ls.map (fun s => ⟨s.t, s.p, .inl s.k⟩), a, c, fun _ => False, by omega, rfl, rfl, ?_, rP.out, by rw [subk_zero, List.map_map, List.map_map]; rfl, fun i s hi => ?_, fun _ q => q.elim, Dist.plain (fun s hs => ?_), bW.out⟩
    · rw [List.length_map, hm.out, show ecomb cb 0 st rc = cb by simp [ecomb]]
      exact sP.out
    · rw [List.getElem?_map] at hi
      cases hs : ls[i]? with
      | none => rw [hs] at hi; cases hi
      | some s0 =>
        rw [hs] at hi
        injection hi with hi
        subst hi
        obtain ⟨g, e1, e2, e3, e4⟩ := hRS.out i s0 hs
        have hgl := e3.lt
        have e4' := G1.of0 e4
        have hPl := hPw.out
        exact ⟨g, e1, fun q => by rcases q with q | q; (exact e2 q); omega, id, e3.after bW2, G1.keep (S := fun _ => False) e4' (Kc.of_below bW2) (fun b hb q => by rcases q with q | q; exact q; omega) (fun _ _ => Iff.rfl) (fun _ q => q.elim) (fun _ _ _ q => q)⟩
    · obtain ⟨s', hs', rfl⟩ := List.mem_map.1 hs
      obtain ⟨i, hi⟩ := List.getElem?_of_mem hs'
      obtain ⟨g, -, -, -, hg⟩ := hRS.out i s' hi
      exact hg.1
  case round =>
    obtain ⟨k, lj, aj, cj, Zs, hk, rfl, rfl, hS, hRm, hkey, hRG, hZ, hD, hB⟩ := hrel
    obtain ⟨Wr, rfl⟩ : ∃ y, y = wr := ⟨_, rfl⟩
    replace hRm := Lib.hid hRm; replace hS := Lib.hid hS; replace hkey := Lib.hid hkey; replace hRG := Lib.hid hRG; replace hZ := Lib.hid hZ; replace hD := Lib.hid hD; replace hB := Lib.hid hB
    have hbz : base ≤ Wr.heap.size := by have := hB.out.size; have := hPw.out; omega
    obtain ⟨mj, hmj⟩ : ∃ y, lj.length = y := ⟨_, rfl⟩
    obtain ⟨cbj, hcbj⟩ : ∃ y, ecomb cb k st rc = y := ⟨_, rfl⟩
    rw [hmj, hcbj] at hS
    replace hmj := Lib.hid hmj
    replace hcbj := Lib.hid hcbj
    have hmj2 : Hid (mj = k * rep.length + m) := Lib.hid (by have q := congrArg List.length hkey.out; rw [List.length_map, subk_len, List.length_map] at q; have := hmj.out; have := hm.out; omega)
    by_cases hlt : k < nn
    · obtain ⟨gl, rfl, -, hgl⟩ := hRL.out k hlt
      have hgl2 := ac (show Below w.heap.size w Wr by rw [hPw.out]; exact hB.out) hgl
      clear hgl
      have hrl : rep.length ≤ 65536 := Nat.le_trans (Nat.le_mul_of_pos_left _ (by omega)) hrep.out
      have hmjb : mj ≤ 1114112 := by
        have h1 : k * rep.length ≤ nn * rep.length := Nat.mul_le_mul_right _ hk
        have := hmj2.out; have := hrep.out; omega
      have i0 : (0 : Int) ≤ k := by omega
      have i1 : (k : Int) < nn := by omega
      go_upto_region 4 with fail
      refine wp_gen (fun W2 hW => ?_)
      have b2 : Hid (Below Wr.heap.size Wr W2) := Lib.hid (by rw [hW]; exact ba _ _)
      have t0 : W2.cell? ⟨Wr.heap.size, 0, none⟩ = some (.int .i32 0) := by rw [hW]; simp [go_sem]
      clear hW
      have bwF : Hid (Below w.heap.size w W2) := Lib.hid (by have q1 := hB.out; have q2 := b2.out; rw [hPw.out]; exact q1.trans (q2.mono (by have := hB.out.size; have := hPw.out; omega)))
      have CF := Lib.hid (hF.out W2 bwF.out)
      go_upto_region 6 with ((with_reducible refine CF.out.mono ?_); rintro e w7 ⟨g, c1, s1, Zs1, rfl, hsg, hsk, hRG1, hZ1, hD1, b7⟩; (obtain ⟨m1, hm1⟩ : ∃ y, s1.ls.length = y := ⟨_, rfl⟩); rw [hm1] at hsg; replace hm1 := Lib.hid hm1; replace hsg := Lib.hid hsg; replace hsk := Lib.hid hsk; replace hRG1 := Lib.hid hRG1; replace hZ1 := Lib.hid hZ1; replace hD1 := Lib.hid hD1; replace b7 := Lib.hid b7)
      refine wp_gen (fun W5 hW => ?_)
      have b5 : Hid (Below w7.heap.size w7 W5) := Lib.hid (by rw [hW]; exact (ba _ _).alloc (by simp) _)
      have x0 : W5.cell? ⟨w7.heap.size, 0, none⟩ = some (.slice (some ⟨g, 0, none⟩) 1 c1) := by rw [hW]; simp [go_sem]
      have sS : Hid (Seg W5 (w7.heap.size + 1) 0 [.pointer none, .slice none 0 0, .slice none 0 0, .int .i32 0, .int .u8 0, .bool false]) := Lib.hid (by
        rw [hW]
        have := Seg.new (w7.alloc (.cells #[Value.slice (some ⟨g, 0, none⟩) 1 c1] 110)) [.pointer none, .slice none 0 0, .slice none 0 0, .int .i32 0, .int .u8 0, .bool false] 40
        simpa using this)
      have rS : Hid (Room W5 (w7.heap.size + 1) 6) := Lib.hid (by
        rw [hW]
        have := Room.newN (w7.alloc (.cells #[Value.slice (some ⟨g, 0, none⟩) 1 c1] 110)) #[.pointer none, .slice none 0 0, .slice none 0 0, .int .i32 0, .int .u8 0, .bool false] (n := 6) rfl 40
        simpa using this)
      have z5 : W5.heap.size = w7.heap.size + 2 := by rw [hW]; simp
      clear hW
      have z7 := b7.out.size
      have z2 := b2.out.size
      have zB := hB.out.size
      have b27 : Hid (Below Wr.heap.size Wr W5) := Lib.hid (b2.out.trans ((b7.out.mono z2).trans (b5.out.mono (by omega))))
      obtain ⟨X, hX⟩ : ∃ y, w7.heap.size = y := ⟨_, rfl⟩
      obtain ⟨S, hS'⟩ : ∃ y, X + 1 = y := ⟨_, rfl⟩
      rw [hX] at x0 sS rS z5 z7
      rw [hS'] at sS rS
      rw [hX, hS']
      have zPr : P < Wr.heap.size := hRm.out.lt (by omega)
      have zPX : P < X := by omega
      have zXS : X < S := by omega
      have zS5 : S < W5.heap.size := by omega
      replace hX := Lib.hid hX
      clear hS' t0
      have sP5 := Lib.hid (hS.out.after b27.out)
      have rP5 := Lib.hid (hRm.out.after b27.out)
      have sg5 := Lib.hid (hsg.out.after b5.out)
      have q1 := segs6 sP5.out
      have q2 := segs6 sS.out
      have q3 := segs6 sg5.out
      simp only [Nat.zero_add] at q1 q2 q3
      obtain ⟨p0, p1, p2, p3, p4, p5⟩ := q1
      obtain ⟨s0, s1', s2, s3, s4, s5⟩ := q2
      obtain ⟨g0, g1, g2, g3, g4, g5⟩ := q3
      have hO5 : Hid (W5.ownsRow base 40 6 (.slice va n vc) n xs) := Lib.hid (own_below hO.out (by have q1 := hB.out; have q2 := b27.out; rw [hPw.out]; exact q1.trans (q2.mono (by have := hPw.out; omega))))
      obtain ⟨_, _, fS0⟩ := rS.out 0 (by omega); obtain ⟨_, _, fS1⟩ := rS.out 1 (by omega); obtain ⟨_, _, fS2⟩ := rS.out 2 (by omega); obtain ⟨_, _, fS3⟩ := rS.out 3 (by omega); obtain ⟨_, _, fS4⟩ := rS.out 4 (by omega); obtain ⟨_, _, fS5⟩ := rS.out 5 (by omega)
      obtain ⟨_, _, fP3⟩ := rP5.out 3 (by omega); obtain ⟨_, _, fP4⟩ := rP5.out 4 (by omega)
      have i3 : (0 : Int) ≤ c1 := by omega
      have i4 : ((1 : Int) - 1) = 0 := rfl
      rcases Decidable.em (cbj = 0) with hcb0 | hcb0
      · go_upto_if 51 with fail
        go_cut [3] (fun rv wx => rv = .slice va n vc ∧ ∃ cb1, Seg wx S 0 [.pointer none, .slice s1.a m1 s1.c, .slice s1.nx s1.nn s1.nc, .int .i32 0, .int .u8 cb1, .bool false] ∧ Seg wx P 0 [.pointer none, .slice aj mj cj, .slice (some ⟨gl, 0, none⟩) nn nc, .int .i32 0, .int .u8 (ecomb cb (k + 1) st rc), .bool false] ∧ Room wx P 6 ∧ Kp (fun b => b = P ∨ b = S) W5 wx)
        case first =>
          rcases hst with rfl | rfl
          · go_upto_region 10 with (at_builtin; go_loud (refine app0 (.tmp 56) (.tmp 60) 30 40 base 6 (.slice va n vc) n xs _ _ rfl rfl rfl rfl Tryf.underlying30 inf40 hO5.out ?_))
            refine wp_gen (fun W9 hW => ?_)
            obtain ⟨s9, r9, k9⟩ := put6z _ _ _ _ _ _ rS.out hW
            clear hW s0 s1' s2 s3 s4 s5 fS0 fS1 fS2 fS3 fS4 fS5 hO5
            replace s9 := Lib.hid s9; replace r9 := Lib.hid r9; replace k9 := Lib.hid k9
            have sP9 : Hid (Seg W9 P 0 [.pointer none, .slice aj mj cj, .slice (some ⟨gl, 0, none⟩) nn nc, .int .i32 0, .int .u8 cbj, .bool false]) := Lib.hid (sP5.out.keep (Kc.of_kp k9.out (fun _ _ q => q)) (by show ¬ P = S; omega))
            have rP9 := Lib.hid (room_kept rP5.out k9.out (by show ¬ P = S; omega))
            obtain ⟨p0', p1', p2', p3', p4', p5'⟩ := segs6 sP9.out
            simp only [Nat.zero_add] at p0' p1' p2' p3' p4' p5'
            obtain ⟨q0, q1, q2, q3, q4, q5⟩ := segs6 s9.out
            simp only [Nat.zero_add] at q0 q1 q2 q3 q4 q5
            obtain ⟨_, _, fP3'⟩ := rP9.out 3 (by omega); obtain ⟨_, _, fP4'⟩ := rP9.out 4 (by omega)
            obtain ⟨_, _, fS3'⟩ := r9.out 3 (by omega); obtain ⟨_, _, fS4'⟩ := r9.out 4 (by omega)
            clear p0 p1 p2 p3 p4 p5 fP3 fP4
            go_wp2
            have hec : ecomb cb (k + 1) 0 rc = rc := ecomb_next0 (by rw [hcbj.out]; exact hcb0)
            go_meet
            rw [hec]
            obtain ⟨t1, t2, t3⟩ := put2z (w := W9) (.int .i32 0) (.int .u8 rc) rP9.out sP9.out rfl
            exact ⟨rfl, _, s9.out.keep (Kc.of_kp t3 (fun _ _ q => q)) (by show ¬ S = P; omega), t1, t2, (k9.out.wide (S' := fun b => b = P ∨ b = S) (fun _ q => .inr q)).trans (t3.wide (fun _ q => .inl q))⟩
          · go_upto_region 10 with (at_builtin; go_loud (refine app0 (.tmp 56) (.tmp 60) 30 40 base 6 (.slice va n vc) n xs _ _ rfl rfl rfl rfl Tryf.underlying30 inf40 hO5.out ?_))
            refine wp_gen (fun W9 hW => ?_)
            obtain ⟨s9, r9, k9⟩ := put6z _ _ _ _ _ _ rS.out hW
            clear hW s0 s1' s2 s3 s4 s5 fS0 fS1 fS2 fS3 fS4 fS5 hO5
            replace s9 := Lib.hid s9; replace r9 := Lib.hid r9; replace k9 := Lib.hid k9
            have sP9 : Hid (Seg W9 P 0 [.pointer none, .slice aj mj cj, .slice (some ⟨gl, 0, none⟩) nn nc, .int .i32 0, .int .u8 cbj, .bool false]) := Lib.hid (sP5.out.keep (Kc.of_kp k9.out (fun _ _ q => q)) (by show ¬ P = S; omega))
            have rP9 := Lib.hid (room_kept rP5.out k9.out (by show ¬ P = S; omega))
            obtain ⟨p0', p1', p2', p3', p4', p5'⟩ := segs6 sP9.out
            simp only [Nat.zero_add] at p0' p1' p2' p3' p4' p5'
            obtain ⟨q0, q1, q2, q3, q4, q5⟩ := segs6 s9.out
            simp only [Nat.zero_add] at q0 q1 q2 q3 q4 q5
            obtain ⟨_, _, fP3'⟩ := rP9.out 3 (by omega); obtain ⟨_, _, fP4'⟩ := rP9.out 4 (by omega)
            obtain ⟨_, _, fS3'⟩ := r9.out 3 (by omega); obtain ⟨_, _, fS4'⟩ := r9.out 4 (by omega)
            clear p0 p1 p2 p3 p4 p5 fP3 fP4
            go_upto_region 12 with fail
            refine wp_gen (fun W11 hW => ?_)
            obtain ⟨s11, r11, k11⟩ := put2z _ _ r9.out s9.out hW
            clear hW q0 q1 q2 q3 q4 q5 p0' p1' p2' p3' p4' p5' fP3' fP4' fS3' fS4'
            replace k11 := Lib.hid (k9.out.trans k11)
            replace s9 := Lib.hid s11; replace r9 := Lib.hid r11
            have sP9' : Hid (Seg W11 P 0 [.pointer none, .slice aj mj cj, .slice (some ⟨gl, 0, none⟩) nn nc, .int .i32 0, .int .u8 cbj, .bool false]) := Lib.hid (sP5.out.keep (Kc.of_kp k11.out (fun _ _ q => q)) (by show ¬ P = S; omega))
            replace rP9 := Lib.hid (room_kept rP5.out k11.out (by show ¬ P = S; omega))
            clear sP9 k9 s11 r11
            obtain ⟨p0', p1', p2', p3', p4', p5'⟩ := segs6 sP9'.out
            simp only [Nat.zero_add] at p0' p1' p2' p3' p4' p5'
            obtain ⟨q0, q1, q2, q3, q4, q5⟩ := segs6 s9.out
            simp only [Nat.zero_add] at q0 q1 q2 q3 q4 q5
            obtain ⟨_, _, fP3'⟩ := rP9.out 3 (by omega); obtain ⟨_, _, fP4'⟩ := rP9.out 4 (by omega)
            go_wp2
            have hec : ecomb cb (k + 1) 1 rc = 0 := ecomb_next1 (by rw [hcbj.out]; exact hcb0)
            go_meet
            rw [hec]
            obtain ⟨t1, t2, t3⟩ := put2z (w := W11) (.int .i32 0) (.int .u8 0) rP9.out sP9'.out rfl
            exact ⟨rfl, _, s9.out.keep (Kc.of_kp t3 (fun _ _ q => q)) (by show ¬ S = P; omega), t1, t2, (k11.out.wide (S' := fun b => b = P ∨ b = S) (fun _ q => .inr q)).trans (t3.wide (fun _ q => .inl q))⟩
        case rest =>
          obtain ⟨rfl, cb1, s9, p9, r9, k9⟩ := hcut
          obtain ⟨Wc, rfl⟩ : ∃ y, y = wc := ⟨_, rfl⟩
          clear p0 p1 p2 p3 p4 p5 s0 s1' s2 s3 s4 s5 g0 g1 g2 g3 g4 g5 fS0 fS1 fS2 fS3 fS4 fS5 fP3 fP4 x0 sS rS sP5 rP5 sg5 hsg hgl2
          replace p9 := Lib.hid p9; replace s9 := Lib.hid s9; replace r9 := Lib.hid r9; replace k9 := Lib.hid k9
          have zc := k9.out.size
          obtain ⟨q0, q1, q2, q3, q4, q5⟩ := segs6 s9.out
          obtain ⟨p0, p1, p2, p3, p4, p5⟩ := segs6 p9.out
          simp only [Nat.zero_add] at q0 q1 q2 q3 q4 q5 p0 p1 p2 p3 p4 p5
          obtain ⟨_, _, fP1⟩ := r9.out 1 (by omega)
          have hm1r : Hid (m1 = rep.length) := Lib.hid (by rw [← hm1.out, ← hsk.out, List.length_map])
          have hm1b : m1 ≤ 65536 := by have := hm1r.out; omega
          by_cases hz1 : m1 = 0
          · have hl0 : s1.ls = [] := List.eq_nil_of_length_eq_zero (by rw [hm1.out]; exact hz1)
            have hr0 : rep = [] := List.eq_nil_of_length_eq_zero (by have := hm1r.out; omega)
            have K : Kp (fun b => b = P) Wr Wc := chain_k b27.out k9.out (by omega) (Kp.refl _) (v1 := .slice none 0 0) (fun b q => .inl q) (Kp.refl _) (Kp.refl _)
            have RR : ∃ (k' : Nat) (lj : List (SubR SK)) (aj : Option Addr) (cj : Nat) (Zs : Nat → Prop), k' ≤ nn ∧ Value.int .i64 ((k : Int) + 1) = .int .i64 k' ∧ Value.slice va n vc = .slice va n vc ∧ Seg Wc P 0 [.pointer none, .slice aj lj.length cj, .slice (some ⟨gl, 0, none⟩) nn nc, .int .i32 0, .int .u8 (ecomb cb k' st rc), .bool false] ∧ Room Wc P 6 ∧ lj.map SubR.k = subk k' rep (ls.map SubR.k) ∧ RowG Zs (fun b => Ob (.slice va n vc) b ∨ b = P) Wc aj lj ∧ (∀ Z, Zs Z → P < Z ∧ Room Wc Z 4) ∧ Dist lj ∧ Below P w Wc := ⟨k + 1, lj, aj, cj, Zs, by omega, by go_num, rfl, by rw [hmj.out]; exact p9.out, r9.out, by rw [hkey.out, hr0, subk_succ]; rfl, hRG.out.keep (Kc.of_kp K (fun _ _ q => .inr q)) (fun _ _ q => q) (fun _ _ => Iff.rfl), fun Z q => ⟨(hZ.out Z q).1, room_kept (hZ.out Z q).2 K (by show ¬ Z = P; have := (hZ.out Z q).1; omega)⟩, hD.out, hB.out.trans (K.below (by omega) (fun b e => by omega))⟩
            replace RR := Lib.hid RR
            clear hl0 hr0 K
            subst hz1
            go_wp2_with (at_builtin; go_loud (refine app0 (.tmp 130) (.tmp 132) 33 107 0 3 (.slice none 0 0) 0 [] _ _ rfl rfl rfl rfl Tryf.underlying33 inf107 (World.ownsRow_nil _ _ _ _) ?_))
            exact ⟨RR.out, by simp [intOf] <;> omega⟩
          · go_upto_region 26 with (at_builtin; go_loud (refine appR (.tmp 130) (.tmp 132) 33 107 Wc.heap.size 3 24 #[.nilIface, .int .i32 0, .int .i32 0] (.slice none 0 0) 0 [] s1.a m1 s1.c (flat SubR.cells s1.ls) rfl rfl rfl rfl Tryf.underlying33 info107 rfl (by omega) (World.ownsRow_nil _ _ _ _) (by rw [flat_len SubR.cells 3 (fun _ => rfl), hm1.out]) (flat_cells (fun i s hi => by obtain ⟨g, e1, e2, e3, e4, -⟩ := hRG1.out i s hi; exact ⟨g, e1, e4.keep (O := fun b => Ob (.slice va n vc) b ∨ w.heap.size ≤ b ∧ b < W2.heap.size) (Kc.of_kp (k9.out.pre b5.out) (fun b hb q => by have := hX.out; have := hPw.out; rcases q with q | q; (right; omega); omega)) e2⟩)) flat_mem_one (by omega) (by omega) (Nat.le_refl _) ?_); intro v1 w1 h1 k1 n1; rw [Nat.zero_add, List.nil_append] at h1; obtain ⟨a1, c1', hu⟩ := own_head h1; subst hu; replace h1 := Lib.hid h1; replace k1 := Lib.hid k1; replace n1 := Lib.hid n1)
            have i5 : (0 : Int) < m1 := by omega
            have z1 := k1.out.size
            have p1' := k1.out.cell p1 ob_nil
            have fP1' := k1.out.froz p1 fP1 ob_nil
            have Kj : Hid (Kp (fun b => b = P) Wr w1) := Lib.hid (chain_k b27.out k9.out (by omega) k1.out n1.out (Kp.refl _) (Kp.refl _))
            have hjs : Hid (∀ i s, lj[i]? = some s → ∃ g, aj = some ⟨g, 0, none⟩ ∧ Seg w1 g (i * 3) s.cells) := Lib.hid (fun i s hi => by
              obtain ⟨g, e1, e2, e3, e4, -⟩ := hRG.out i s hi
              exact ⟨g, e1, e4.keep (O := fun b => Ob (.slice va n vc) b ∨ b = P) (Kc.of_kp Kj.out (fun _ _ q => .inr q)) e2⟩)
            clear p1 fP1
            go_upto_region 28 with (at_builtin; go_loud (refine appR (.tmp 137) (.tmp 139) 33 107 Wc.heap.size 3 24 #[.nilIface, .int .i32 0, .int .i32 0] (.slice a1 m1 c1') m1 _ aj mj cj (flat SubR.cells lj) rfl rfl rfl rfl Tryf.underlying33 info107 rfl (by omega) h1.out (by rw [flat_len SubR.cells 3 (fun _ => rfl), hmj.out]) (flat_cells hjs.out) flat_mem_one (by omega) (by omega) (by omega) ?_); intro v2 w2 h2 k2 n2; obtain ⟨a2, c2, hu⟩ := own_head h2; subst hu; have fP1'' := k2.froz p1' fP1' (fun q => by rcases n1.out P q with q | q; (exact ob_nil q); omega); have p1'' := k2.cell p1' (fun q => by rcases n1.out P q with q | q; (exact ob_nil q); omega); replace h2 := Lib.hid h2; replace k2 := Lib.hid k2; replace n2 := Lib.hid n2)
            refine wp_gen (fun W3 hW => ?_)
            have z12 := k2.out.size
            have hPn : ¬ Ob (.slice a1 m1 c1') P := fun q => by
              rcases n1.out P q with q | q
              · exact ob_nil q
              · omega
            obtain ⟨p3', r3, k3⟩ := put1z _ (room_kept (room_kept r9.out k1.out ob_nil) k2.out hPn) ((p9.out.keep (Kc.of_kp k1.out (fun _ _ q => q)) ob_nil).keep (Kc.of_kp k2.out (fun _ _ q => q)) hPn) hW
            clear hW
            have K : Kp (fun b => b = P) Wr W3 := chain_k b27.out k9.out (by omega) k1.out n1.out k2.out k3
            have K7 : Kp (fun b => b = P) w7 W3 := chain_k b5.out k9.out (by have := hX.out; omega) k1.out n1.out k2.out k3
            have hOlt : ∀ b, Ob (.slice va n vc) b → b < w.heap.size := fun b q => (hO.out.lt b q).2
            have hZlt : ∀ b, Zs b → P < b ∧ b < Wr.heap.size := fun b q => ⟨(hZ.out b q).1, (hZ.out b q).2.lt (by omega)⟩
            have hZlt1 : ∀ b, Zs1 b → W2.heap.size ≤ b ∧ b < w7.heap.size := fun b q => ⟨(hZ1.out b q).1, (hZ1.out b q).2.lt (by omega)⟩
            have hO3 : W3.ownsRow Wc.heap.size 107 3 (.slice a2 (m1 + mj) c2) (m1 + mj) (flat SubR.cells (s1.ls ++ lj)) := by
              have := k3.own h2.out (fun b q e => by rcases n2.out b q with q | q; (exact hPn (e ▸ q)); omega)
              rw [show flat SubR.cells (s1.ls ++ lj) = flat SubR.cells s1.ls ++ flat SubR.cells lj by simp [flat]]
              exact this
            obtain ⟨hJ, hJD⟩ := join_row (Zs := Zs) (Zs1 := Zs1) (O := fun b => Ob (.slice va n vc) b ∨ b = P) (O1 := fun b => Ob (.slice va n vc) b ∨ w.heap.size ≤ b ∧ b < W2.heap.size) hRG.out hRG1.out (Kc.of_kp K (fun _ _ q => .inr q)) (Kc.of_kp K7 (fun b _ q => .inr (by have := hPw.out; omega))) (fun b q => q.imp id (fun q => by have := hPw.out; omega)) (fun b q => .inr (by have := hPw.out; have := hZlt b q; omega)) (fun b q => by have := hZlt1 b q; omega) (fun b q => by have := hZlt b q; omega) (fun b q => by have := hZlt1 b q; have := hX.out; omega) (fun b q => by rcases q with q | q; (have := hOlt b q; have := hPw.out; omega); omega) hD.out hD1.out (by rw [List.length_append, hm1.out, hmj.out]) hO3
            have RR : ∃ (k' : Nat) (lj : List (SubR SK)) (aj : Option Addr) (cj : Nat) (Zs : Nat → Prop), k' ≤ nn ∧ Value.int .i64 ((k : Int) + 1) = .int .i64 k' ∧ Value.slice va n vc = .slice va n vc ∧ Seg W3 P 0 [.pointer none, .slice aj lj.length cj, .slice (some ⟨gl, 0, none⟩) nn nc, .int .i32 0, .int .u8 (ecomb cb k' st rc), .bool false] ∧ Room W3 P 6 ∧ lj.map SubR.k = subk k' rep (ls.map SubR.k) ∧ RowG Zs (fun b => Ob (.slice va n vc) b ∨ b = P) W3 aj lj ∧ (∀ Z, Zs Z → P < Z ∧ Room W3 Z 4) ∧ Dist lj ∧ Below P w W3 := ⟨k + 1, s1.ls ++ lj, a2, c2, _, by omega, by go_num, rfl, by rw [List.length_append, hm1.out, hmj.out]; exact p3', r3, by rw [List.map_append, hkey.out, hsk.out, subk_succ], hJ, (fun Z q => by
              rcases q with q | q
              · exact ⟨(hZ.out Z q).1, room_kept (hZ.out Z q).2 K (by show ¬ Z = P; have := (hZ.out Z q).1; omega)⟩
              · exact ⟨by have := hZlt1 Z q; omega, room_kept (hZ1.out Z q).2 K7 (by show ¬ Z = P; have := hZlt1 Z q; omega)⟩), hJD, hB.out.trans (K.below (by omega) (fun b e => by omega))⟩
            clear hJ hJD hO3 K K7 hOlt hZlt hZlt1 p3' r3 k3
            replace RR := Lib.hid RR
            go_wp2
            exact ⟨RR.out, by simp [intOf] <;> omega⟩
      · go_upto_if 51 with fail
        go_cut [3] (fun rv wx => rv = .slice va n vc ∧ ∃ cb1, Seg wx S 0 [.pointer none, .slice s1.a m1 s1.c, .slice s1.nx s1.nn s1.nc, .int .i32 0, .int .u8 cb1, .bool false] ∧ Seg wx P 0 [.pointer none, .slice aj mj cj, .slice (some ⟨gl, 0, none⟩) nn nc, .int .i32 0, .int .u8 (ecomb cb (k + 1) st rc), .bool false] ∧ Room wx P 6 ∧ Kp (fun b => b = P ∨ b = S) W5 wx)
        case first =>
          rcases hst with rfl | rfl
          · go_upto_region 15 with fail
            refine wp_gen (fun W9 hW => ?_)
            obtain ⟨s9, r9, k9⟩ := put6z _ _ _ _ _ _ rS.out hW
            clear hW s0 s1' s2 s3 s4 s5 fS0 fS1 fS2 fS3 fS4 fS5 hO5
            replace s9 := Lib.hid s9; replace r9 := Lib.hid r9; replace k9 := Lib.hid k9
            have sP9 : Hid (Seg W9 P 0 [.pointer none, .slice aj mj cj, .slice (some ⟨gl, 0, none⟩) nn nc, .int .i32 0, .int .u8 cbj, .bool false]) := Lib.hid (sP5.out.keep (Kc.of_kp k9.out (fun _ _ q => q)) (by show ¬ P = S; omega))
            have rP9 := Lib.hid (room_kept rP5.out k9.out (by show ¬ P = S; omega))
            obtain ⟨p0', p1', p2', p3', p4', p5'⟩ := segs6 sP9.out
            simp only [Nat.zero_add] at p0' p1' p2' p3' p4' p5'
            obtain ⟨q0, q1, q2, q3, q4, q5⟩ := segs6 s9.out
            simp only [Nat.zero_add] at q0 q1 q2 q3 q4 q5
            obtain ⟨_, _, fP3'⟩ := rP9.out 3 (by omega); obtain ⟨_, _, fP4'⟩ := rP9.out 4 (by omega)
            obtain ⟨_, _, fS3'⟩ := r9.out 3 (by omega); obtain ⟨_, _, fS4'⟩ := r9.out 4 (by omega)
            clear p0 p1 p2 p3 p4 p5 fP3 fP4
            go_wp2
            have hec : ecomb cb (k + 1) 0 rc = cbj := by rw [← hcbj.out]; exact ecomb_nextn (by rw [hcbj.out]; exact hcb0)
            go_meet
            rw [hec]
            exact ⟨rfl, _, s9.out, sP9.out, rP9.out, k9.out.wide (S' := fun b => b = P ∨ b = S) (fun _ q => .inr q)⟩
          · go_upto_region 15 with fail
            refine wp_gen (fun W9 hW => ?_)
            obtain ⟨s9, r9, k9⟩ := put6z _ _ _ _ _ _ rS.out hW
            clear hW s0 s1' s2 s3 s4 s5 fS0 fS1 fS2 fS3 fS4 fS5 hO5
            replace s9 := Lib.hid s9; replace r9 := Lib.hid r9; replace k9 := Lib.hid k9
            have sP9 : Hid (Seg W9 P 0 [.pointer none, .slice aj mj cj, .slice (some ⟨gl, 0, none⟩) nn nc, .int .i32 0, .int .u8 cbj, .bool false]) := Lib.hid (sP5.out.keep (Kc.of_kp k9.out (fun _ _ q => q)) (by show ¬ P = S; omega))
            have rP9 := Lib.hid (room_kept rP5.out k9.out (by show ¬ P = S; omega))
            obtain ⟨p0', p1', p2', p3', p4', p5'⟩ := segs6 sP9.out
            simp only [Nat.zero_add] at p0' p1' p2' p3' p4' p5'
            obtain ⟨q0, q1, q2, q3, q4, q5⟩ := segs6 s9.out
            simp only [Nat.zero_add] at q0 q1 q2 q3 q4 q5
            obtain ⟨_, _, fP3'⟩ := rP9.out 3 (by omega); obtain ⟨_, _, fP4'⟩ := rP9.out 4 (by omega)
            obtain ⟨_, _, fS3'⟩ := r9.out 3 (by omega); obtain ⟨_, _, fS4'⟩ := r9.out 4 (by omega)
            clear p0 p1 p2 p3 p4 p5 fP3 fP4
            go_wp2
            have hec : ecomb cb (k + 1) 1 rc = cbj := by rw [← hcbj.out]; exact ecomb_nextn (by rw [hcbj.out]; exact hcb0)
            go_meet
            rw [hec]
            obtain ⟨s11, r11, k11⟩ := put2z (w := W9) (.int .i32 0) (.int .u8 0) r9.out s9.out rfl
            exact ⟨rfl, _, s11, sP9.out.keep (Kc.of_kp k11 (fun _ _ q => q)) (by show ¬ P = S; omega), room_kept rP9.out k11 (by show ¬ P = S; omega), (k9.out.trans k11).wide (S' := fun b => b = P ∨ b = S) (fun _ q => .inr q)⟩
        case rest =>
          obtain ⟨rfl, cb1, s9, p9, r9, k9⟩ := hcut
          obtain ⟨Wc, rfl⟩ : ∃ y, y = wc := ⟨_, rfl⟩
          clear p0 p1 p2 p3 p4 p5 s0 s1' s2 s3 s4 s5 g0 g1 g2 g3 g4 g5 fS0 fS1 fS2 fS3 fS4 fS5 fP3 fP4 x0 sS rS sP5 rP5 sg5 hsg hgl2
          replace p9 := Lib.hid p9; replace s9 := Lib.hid s9; replace r9 := Lib.hid r9; replace k9 := Lib.hid k9
          have zc := k9.out.size
          obtain ⟨q0, q1, q2, q3, q4, q5⟩ := segs6 s9.out
          obtain ⟨p0, p1, p2, p3, p4, p5⟩ := segs6 p9.out
          simp only [Nat.zero_add] at q0 q1 q2 q3 q4 q5 p0 p1 p2 p3 p4 p5
          obtain ⟨_, _, fP1⟩ := r9.out 1 (by omega)
          have hm1r : Hid (m1 = rep.length) := Lib.hid (by rw [← hm1.out, ← hsk.out, List.length_map])
          have hm1b : m1 ≤ 65536 := by have := hm1r.out; omega
          by_cases hz1 : m1 = 0
          · have hl0 : s1.ls = [] := List.eq_nil_of_length_eq_zero (by rw [hm1.out]; exact hz1)
            have hr0 : rep = [] := List.eq_nil_of_length_eq_zero (by have := hm1r.out; omega)
            have K : Kp (fun b => b = P) Wr Wc := chain_k b27.out k9.out (by omega) (Kp.refl _) (v1 := .slice none 0 0) (fun b q => .inl q) (Kp.refl _) (Kp.refl _)
            have RR : ∃ (k' : Nat) (lj : List (SubR SK)) (aj : Option Addr) (cj : Nat) (Zs : Nat → Prop), k' ≤ nn ∧ Value.int .i64 ((k : Int) + 1) = .int .i64 k' ∧ Value.slice va n vc = .slice va n vc ∧ Seg Wc P 0 [.pointer none, .slice aj lj.length cj, .slice (some ⟨gl, 0, none⟩) nn nc, .int .i32 0, .int .u8 (ecomb cb k' st rc), .bool false] ∧ Room Wc P 6 ∧ lj.map SubR.k = subk k' rep (ls.map SubR.k) ∧ RowG Zs (fun b => Ob (.slice va n vc) b ∨ b = P) Wc aj lj ∧ (∀ Z, Zs Z → P < Z ∧ Room Wc Z 4) ∧ Dist lj ∧ Below P w Wc := ⟨k + 1, lj, aj, cj, Zs, by omega, by go_num, rfl, by rw [hmj.out]; exact p9.out, r9.out, by rw [hkey.out, hr0, subk_succ]; rfl, hRG.out.keep (Kc.of_kp K (fun _ _ q => .inr q)) (fun _ _ q => q) (fun _ _ => Iff.rfl), fun Z q => ⟨(hZ.out Z q).1, room_kept (hZ.out Z q).2 K (by show ¬ Z = P; have := (hZ.out Z q).1; omega)⟩, hD.out, hB.out.trans (K.below (by omega) (fun b e => by omega))⟩
            replace RR := Lib.hid RR
            clear hl0 hr0 K
            subst hz1
            go_wp2_with (at_builtin; go_loud (refine app0 (.tmp 130) (.tmp 132) 33 107 0 3 (.slice none 0 0) 0 [] _ _ rfl rfl rfl rfl Tryf.underlying33 inf107 (World.ownsRow_nil _ _ _ _) ?_))
            exact ⟨RR.out, by simp [intOf] <;> omega⟩
          · go_upto_region 26 with (at_builtin; go_loud (refine appR (.tmp 130) (.tmp 132) 33 107 Wc.heap.size 3 24 #[.nilIface, .int .i32 0, .int .i32 0] (.slice none 0 0) 0 [] s1.a m1 s1.c (flat SubR.cells s1.ls) rfl rfl rfl rfl Tryf.underlying33 info107 rfl (by omega) (World.ownsRow_nil _ _ _ _) (by rw [flat_len SubR.cells 3 (fun _ => rfl), hm1.out]) (flat_cells (fun i s hi => by obtain ⟨g, e1, e2, e3, e4, -⟩ := hRG1.out i s hi; exact ⟨g, e1, e4.keep (O := fun b => Ob (.slice va n vc) b ∨ w.heap.size ≤ b ∧ b < W2.heap.size) (Kc.of_kp (k9.out.pre b5.out) (fun b hb q => by have := hX.out; have := hPw.out; rcases q with q | q; (right; omega); omega)) e2⟩)) flat_mem_one (by omega) (by omega) (Nat.le_refl _) ?_); intro v1 w1 h1 k1 n1; rw [Nat.zero_add, List.nil_append] at h1; obtain ⟨a1, c1', hu⟩ := own_head h1; subst hu; replace h1 := Lib.hid h1; replace k1 := Lib.hid k1; replace n1 := Lib.hid n1)
            have i5 : (0 : Int) < m1 := by omega
            have z1 := k1.out.size
            have p1' := k1.out.cell p1 ob_nil
            have fP1' := k1.out.froz p1 fP1 ob_nil
            have Kj : Hid (Kp (fun b => b = P) Wr w1) := Lib.hid (chain_k b27.out k9.out (by omega) k1.out n1.out (Kp.refl _) (Kp.refl _))
            have hjs : Hid (∀ i s, lj[i]? = some s → ∃ g, aj = some ⟨g, 0, none⟩ ∧ Seg w1 g (i * 3) s.cells) := Lib.hid (fun i s hi => by
              obtain ⟨g, e1, e2, e3, e4, -⟩ := hRG.out i s hi
              exact ⟨g, e1, e4.keep (O := fun b => Ob (.slice va n vc) b ∨ b = P) (Kc.of_kp Kj.out (fun _ _ q => .inr q)) e2⟩)
            clear p1 fP1
            go_upto_region 28 with (at_builtin; go_loud (refine appR (.tmp 137) (.tmp 139) 33 107 Wc.heap.size 3 24 #[.nilIface, .int .i32 0, .int .i32 0] (.slice a1 m1 c1') m1 _ aj mj cj (flat SubR.cells lj) rfl rfl rfl rfl Tryf.underlying33 info107 rfl (by omega) h1.out (by rw [flat_len SubR.cells 3 (fun _ => rfl), hmj.out]) (flat_cells hjs.out) flat_mem_one (by omega) (by omega) (by omega) ?_); intro v2 w2 h2 k2 n2; obtain ⟨a2, c2, hu⟩ := own_head h2; subst hu; have fP1'' := k2.froz p1' fP1' (fun q => by rcases n1.out P q with q | q; (exact ob_nil q); omega); have p1'' := k2.cell p1' (fun q => by rcases n1.out P q with q | q; (exact ob_nil q); omega); replace h2 := Lib.hid h2; replace k2 := Lib.hid k2; replace n2 := Lib.hid n2)
            refine wp_gen (fun W3 hW => ?_)
            have z12 := k2.out.size
            have hPn : ¬ Ob (.slice a1 m1 c1') P := fun q => by
              rcases n1.out P q with q | q
              · exact ob_nil q
              · omega
            obtain ⟨p3', r3, k3⟩ := put1z _ (room_kept (room_kept r9.out k1.out ob_nil) k2.out hPn) ((p9.out.keep (Kc.of_kp k1.out (fun _ _ q => q)) ob_nil).keep (Kc.of_kp k2.out (fun _ _ q => q)) hPn) hW
            clear hW
            have K : Kp (fun b => b = P) Wr W3 := chain_k b27.out k9.out (by omega) k1.out n1.out k2.out k3
            have K7 : Kp (fun b => b = P) w7 W3 := chain_k b5.out k9.out (by have := hX.out; omega) k1.out n1.out k2.out k3
            have hOlt : ∀ b, Ob (.slice va n vc) b → b < w.heap.size := fun b q => (hO.out.lt b q).2
            have hZlt : ∀ b, Zs b → P < b ∧ b < Wr.heap.size := fun b q => ⟨(hZ.out b q).1, (hZ.out b q).2.lt (by omega)⟩
            have hZlt1 : ∀ b, Zs1 b → W2.heap.size ≤ b ∧ b < w7.heap.size := fun b q => ⟨(hZ1.out b q).1, (hZ1.out b q).2.lt (by omega)⟩
            have hO3 : W3.ownsRow Wc.heap.size 107 3 (.slice a2 (m1 + mj) c2) (m1 + mj) (flat SubR.cells (s1.ls ++ lj)) := by
              have := k3.own h2.out (fun b q e => by rcases n2.out b q with q | q; (exact hPn (e ▸ q)); omega)
              rw [show flat SubR.cells (s1.ls ++ lj) = flat SubR.cells s1.ls ++ flat SubR.cells lj by simp [flat]]
              exact this
            obtain ⟨hJ, hJD⟩ := join_row (Zs := Zs) (Zs1 := Zs1) (O := fun b => Ob (.slice va n vc) b ∨ b = P) (O1 := fun b => Ob (.slice va n vc) b ∨ w.heap.size ≤ b ∧ b < W2.heap.size) hRG.out hRG1.out (Kc.of_kp K (fun _ _ q => .inr q)) (Kc.of_kp K7 (fun b _ q => .inr (by have := hPw.out; omega))) (fun b q => q.imp id (fun q => by have := hPw.out; omega)) (fun b q => .inr (by have := hPw.out; have := hZlt b q; omega)) (fun b q => by have := hZlt1 b q; omega) (fun b q => by have := hZlt b q; omega) (fun b q => by have := hZlt1 b q; have := hX.out; omega) (fun b q => by rcases q with q | q; (have := hOlt b q; have := hPw.out; omega); omega) hD.out hD1.out (by rw [List.length_append, hm1.out, hmj.out]) hO3
            have RR : ∃ (k' : Nat) (lj : List (SubR SK)) (aj : Option Addr) (cj : Nat) (Zs : Nat → Prop), k' ≤ nn ∧ Value.int .i64 ((k : Int) + 1) = .int .i64 k' ∧ Value.slice va n vc = .slice va n vc ∧ Seg W3 P 0 [.pointer none, .slice aj lj.length cj, .slice (some ⟨gl, 0, none⟩) nn nc, .int .i32 0, .int .u8 (ecomb cb k' st rc), .bool false] ∧ Room W3 P 6 ∧ lj.map SubR.k = subk k' rep (ls.map SubR.k) ∧ RowG Zs (fun b => Ob (.slice va n vc) b ∨ b = P) W3 aj lj ∧ (∀ Z, Zs Z → P < Z ∧ Room W3 Z 4) ∧ Dist lj ∧ Below P w W3 := ⟨k + 1, s1.ls ++ lj, a2, c2, _, by omega, by go_num, rfl, by rw [List.length_append, hm1.out, hmj.out]; exact p3', r3, by rw [List.map_append, hkey.out, hsk.out, subk_succ], hJ, (fun Z q => by
              rcases q with q | q
              · exact ⟨(hZ.out Z q).1, room_kept (hZ.out Z q).2 K (by show ¬ Z = P; have := (hZ.out Z q).1; omega)⟩
              · exact ⟨by have := hZlt1 Z q; omega, room_kept (hZ1.out Z q).2 K7 (by show ¬ Z = P; have := hZlt1 Z q; omega)⟩), hJD, hB.out.trans (K.below (by omega) (fun b e => by omega))⟩
            clear hJ hJD hO3 K K7 hOlt hZlt hZlt1 p3' r3 k3
            replace RR := Lib.hid RR
            go_wp2
            exact ⟨RR.out, by simp [intOf] <;> omega⟩
    · obtain rfl : k = nn := by omega
      have hmjb : mj ≤ 1114112 := by have := hmj2.out; have := hrep.out; omega
      obtain ⟨p0, p1, p2, p3, p4, p5⟩ := segs6 hS.out
      simp only [Nat.zero_add] at p0 p1 p2 p3 p4 p5
      obtain ⟨_, _, fP2⟩ := hRm.out 2 (by omega)
      go_upto_region 30 with fail
      refine wp_gen (fun W4 hW => ?_)
      obtain ⟨sP4, rP4, k4⟩ := put2cell _ hRm.out hS.out hW
      clear hW p0 p1 p2 p3 p4 p5 fP2
      replace sP4 := Lib.hid sP4; replace rP4 := Lib.hid rP4; replace k4 := Lib.hid k4
      have hOlt : Hid (∀ b, Ob (.slice va n vc) b → b < P) := Lib.hid (fun b q => by rw [← hPw.out]; exact (hO.out.lt b q).2)
      have hRG4 : Hid (RowG Zs (fun b => Ob (.slice va n vc) b ∨ b = P) W4 aj lj) := Lib.hid (hRG.out.keep (Kc.of_kp k4.out (fun _ _ q => .inr q)) (fun _ _ q => q) (fun _ _ => Iff.rfl))
      have hZ4 : Hid (∀ Z, Zs Z → P < Z ∧ Room W4 Z 4) := Lib.hid (fun Z q => ⟨(hZ.out Z q).1, room_kept (hZ.out Z q).2 k4.out (by show ¬ Z = P; have := (hZ.out Z q).1; omega)⟩)
      have zPr : P < Wr.heap.size := hRm.out.lt (by omega)
      have B4 : Hid (Below P w W4) := Lib.hid (hB.out.trans (k4.out.below (by omega) (fun b e => by omega)))
      have hgood2 : Hid (∀ x pk, x ∈ lj → x.k = Sum.inr pk → GoodK pk) := Lib.hid (fun x pk hx he => hgood.out pk (subk_inr (by rw [← hkey.out, ← he]; exact List.mem_map_of_mem hx)))
      obtain ⟨ca, hca⟩ : ∃ y, ecomb cb k st rc = y := ⟨_, rfl⟩
      replace hca := Lib.hid (hcbj.out.symm.trans hca)
      have z4 := k4.out.size
      have hp1 := (segs6 sP4.out).2.1
      simp only [Nat.zero_add] at hp1
      go_wp2
      clear hp1
      go_loopw [147] (fun i wr => ∃ k2, k2 ≤ mj ∧ i = .int .i64 k2 ∧ RowG Zs (fun b => Ob (.slice va n vc) b ∨ b = P) wr aj lj ∧ Seg wr P 0 [.pointer none, .slice aj mj cj, .slice none 0 0, .int .i32 0, .int .u8 cbj, .bool false] ∧ (∀ Z, Zs Z → Room wr Z 4) ∧ Kp (fun b => Zs b) W4 wr) (fun i _ => mj - (intOf i).toNat)
      case atStart => exact ⟨0, by omega, rfl, hRG4.out, sP4.out, (fun Z q => (hZ4.out Z q).2), Kp.refl _⟩
      case round =>
        obtain ⟨k2, hk2, rfl, hR2, hP2, hZ2, K2⟩ := hrel
        obtain ⟨W2, rfl⟩ : ∃ y, y = wr := ⟨_, rfl⟩
        replace hR2 := Lib.hid hR2; replace hP2 := Lib.hid hP2; replace hZ2 := Lib.hid hZ2; replace K2 := Lib.hid K2
        have zr2 := K2.out.size
        by_cases hlt2 : k2 < mj
        · obtain ⟨x, hx⟩ : ∃ x, lj[k2]? = some x := ⟨_, List.getElem?_eq_getElem (by rw [hmj.out]; exact hlt2)⟩
          obtain ⟨g, rfl, hgO, hgZ, hsg, hG⟩ := hR2.out k2 x hx
          obtain ⟨d0, d1, d2⟩ := segs3 hsg
          have hxm := List.mem_of_getElem? hx
          have i0 : (0 : Int) ≤ k2 := by omega
          have i1 : (k2 : Int) < mj := by omega
          clear hsg
          obtain ⟨xt, xp, xk⟩ := x
          cases xk with
          | inl nm =>
            have hxt : xt = 125 := hG.1
            subst hxt
            clear hG hgO hgZ hx hxm
            have tq := fun W' => ta125 xp W'
            have RR : ∃ k', k' ≤ mj ∧ Value.int .i64 ((k2 : Int) + 1) = .int .i64 k' ∧ RowG Zs (fun b => Ob (.slice va n vc) b ∨ b = P) (W2.alloc (.cells #[.iface 125 xp, .int .i32 0, .int .i32 0] 107)) (some ⟨g, 0, none⟩) lj ∧ Seg (W2.alloc (.cells #[.iface 125 xp, .int .i32 0, .int .i32 0] 107)) P 0 [.pointer none, .slice (some ⟨g, 0, none⟩) mj cj, .slice none 0 0, .int .i32 0, .int .u8 cbj, .bool false] ∧ (∀ Z, Zs Z → Room (W2.alloc (.cells #[.iface 125 xp, .int .i32 0, .int .i32 0] 107)) Z 4) ∧ Kp (fun b => Zs b) W4 (W2.alloc (.cells #[.iface 125 xp, .int .i32 0, .int .i32 0] 107)) := ⟨k2 + 1, by omega, by go_num, hR2.out.keep (Kc.of_below (ba _ _)) (fun _ _ q => q) (fun _ _ => Iff.rfl), hP2.out.after (ba _ _), (fun Z q => (hZ2.out Z q).after (ba _ _)), K2.out.trans (Kp.of (ba _ _))⟩
            replace RR := Lib.hid RR
            go_wp2
            exact ⟨RR.out, by simp [intOf] <;> omega⟩
          | inr pk =>
            obtain ⟨hxt, Z, az, cz, nz, lz, hxp, hZs, hZO, hsz, hRx, hlz, hkz⟩ := hG
            simp only at hxt hxp
            subst hxt
            subst hxp
            obtain ⟨hgp1, hgp2⟩ := hgood2.out _ _ hxm rfl
            have hnz : nz ≤ 1048576 := by rw [← hlz, ← List.length_map (f := CxR.key), hkz]; exact hgp1
            have tq := fun W' => ta116 (.pointer (some ⟨Z, 0, none⟩)) W'
            have hrZ := Lib.hid (hZ2.out Z hZs)
            obtain ⟨z0, z1, z2, z3⟩ := segs4 hsz
            have hOZ : Hid (∀ b, ((Ob (.slice va n vc) b ∨ b = P) ∨ Zs b) → b < W2.heap.size) := Lib.hid (fun b q => by
              rcases q with (q | q) | q
              · have := hOlt.out b q; omega
              · omega
              · exact (hZ2.out b q).lt (by omega))
            have hRx2 : Hid (RCx G0 (fun b => ((Ob (.slice va n vc) b ∨ b = P) ∨ Zs b) ∨ W2.heap.size ≤ b) W2 az lz) := Lib.hid (hRx.keep G0.keep (fun _ _ q _ => q) (fun b hb q => by rcases q with q | q; exact q; omega))
            clear z1 z2 z3 hRx
            replace hlz := Lib.hid hlz; replace hkz := Lib.hid hkz; replace hgp2 := Lib.hid hgp2; replace hx := Lib.hid hx; replace hZs := Lib.hid hZs; replace hsz := Lib.hid hsz; replace hZO := Lib.hid hZO
            clear hgO hgZ hxm hgp1
            have mk := make0_z (P := Tryf.prog) #[.slice none 0 0] Tryf.underlying42 info110 nz (by omega) (by omega)
            simp only [Nat.mul_one] at mk
            have z0a := fun o => al z0 o
            go_upto_region 36 with fail
            clear mk
            refine wp_gen (fun Wm hW => ?_)
            have bm : Hid (Below W2.heap.size W2 Wm) := Lib.hid (by rw [hW]; exact (ba _ _).alloc (by simp) _)
            have hOm : Hid (Wm.ownsRow W2.heap.size 110 1 (.slice (some ⟨W2.heap.size + 1, 0, none⟩) 0 nz) 0 (flat CxR.cells ([] : List (CxR ByteArray)))) := Lib.hid (by
              rw [hW]
              have := World.ownsRow_made (base := W2.heap.size) (e := 110) (size := 1) (W2.alloc (.cells #[.iface 116 (.pointer (some ⟨Z, 0, none⟩)), .int .i32 0, .int .i32 0] 107)) (madeCells #[.slice none 0 0] nz) nz (by simp) (by unfold maxLen; omega) (by rw [size_madeCells]; omega)
              simpa [flat] using this)
            clear hW
            have z0' := ac bm.out z0
            clear z0 z0a d0 d1 d2
            go_wp2
            clear z0' tq
            go_loopw [21, 169] (fun o i wr3 => ∃ (k3 : Nat) (l3 : List (CxR ByteArray)) (a3 : Option Addr) (c3 : Nat), k3 ≤ nz ∧ i = .int .i64 k3 ∧ o = .slice a3 k3 c3 ∧ wr3.ownsRow W2.heap.size 110 1 (.slice a3 k3 c3) k3 (flat CxR.cells l3) ∧ l3.length = k3 ∧ (∀ r ∈ l3, GCx G0 (fun b => Ob (.slice a3 k3 c3) b ∨ ((Ob (.slice va n vc) b ∨ b = P) ∨ Zs b)) wr3 r) ∧ l3.map CxR.key = (lz.take k3).map CxR.key ∧ Below W2.heap.size W2 wr3) (fun _ i _ => nz - (intOf i).toNat)
            case atStart => exact ⟨0, [], _, _, by omega, rfl, rfl, hOm.out, rfl, (fun s h => by simp at h), rfl, bm.out⟩
            case round =>
              clear hOm bm
              obtain ⟨k3, l3, a3, c3, hk3, rfl, rfl, hO3, hl3, hG3, hky3, hB3⟩ := hrel
              obtain ⟨W3, rfl⟩ : ∃ y, y = wr := ⟨_, rfl⟩
              replace hO3 := Lib.hid hO3; replace hl3 := Lib.hid hl3; replace hG3 := Lib.hid hG3; replace hky3 := Lib.hid hky3; replace hB3 := Lib.hid hB3
              have zr3 := hB3.out.size
              by_cases hlt3 : k3 < nz
              · obtain ⟨y, hy⟩ : ∃ y, lz[k3]? = some y := ⟨_, List.getElem?_eq_getElem (by rw [hlz.out]; exact hlt3)⟩
                obtain ⟨gy, rfl, -, hcy, hGy⟩ := (hRx2.out.keep G0.keep (Kc.of_below hB3.out) (fun _ _ q => q)) k3 y hy
                obtain ⟨hyn, hys⟩ := hgp2.out (CxR.key y) (by rw [← hkz.out]; exact List.mem_map_of_mem (List.mem_of_getElem? hy))
                have htk3 := Lib.hid (mapt (f := CxR.key) hy)
                clear hy
                obtain ⟨ya, yc, yl⟩ := y
                obtain ⟨ny, hny⟩ : ∃ y, yl.length = y := ⟨_, rfl⟩
                simp only at hcy
                rw [hny] at hcy
                have hny2 : ny ≤ 1048576 := by rw [← hny, ← List.length_map (f := CpR.key)]; exact hyn
                replace hGy := Lib.hid hGy.1
                simp only at hGy
                replace hys := Lib.hid hys; replace hny := Lib.hid hny
                clear hyn
                have i0 : (0 : Int) ≤ k3 := by omega
                have i1 : (k3 : Int) < nz := by omega
                have mk := make0_z (P := Tryf.prog) #[.pointer none, .slice none 0 0, .slice none 0 0, .int .i32 0, .int .u8 0, .bool false] Tryf.underlying30 info40 ny (by omega) (by omega)
                go_upto_region 40 with fail
                clear mk
                refine wp_gen (fun Wn hW => ?_)
                have bn : Hid (Below W3.heap.size W3 Wn) := Lib.hid (by rw [hW]; exact (ba _ _).alloc (by simp) _)
                have hOn : Hid (Wn.ownsRow W3.heap.size 40 6 (.slice (some ⟨W3.heap.size + 1, 0, none⟩) 0 ny) 0 (flat CpR.cells ([] : List (CpR ByteArray)))) := Lib.hid (by
                  rw [hW]
                  have := World.ownsRow_made (base := W3.heap.size) (e := 40) (size := 6) (W3.alloc (.cells #[.slice ya ny yc] 110)) (madeCells #[.pointer none, .slice none 0 0, .slice none 0 0, .int .i32 0, .int .u8 0, .bool false] (ny * 6)) ny (by simp) (by unfold maxLen; omega) (by rw [size_madeCells])
                  simpa [flat] using this)
                have t23 : Wn.cell? ⟨W3.heap.size, 0, none⟩ = some (.slice ya ny yc) := by rw [hW]; simp [go_sem]
                clear hW hcy
                go_wp2
                clear t23
                go_loopw [24, 180] (fun o i wr4 => ∃ (k4 : Nat) (l4 : List (CpR ByteArray)) (a4 : Option Addr) (c4 : Nat), k4 ≤ ny ∧ i = .int .i64 k4 ∧ o = .slice a4 k4 c4 ∧ wr4.ownsRow W3.heap.size 40 6 (.slice a4 k4 c4) k4 (flat CpR.cells l4) ∧ l4.length = k4 ∧ (∀ r ∈ l4, GCp G0 (fun b => Ob (.slice a4 k4 c4) b ∨ (Ob (.slice a3 k3 c3) b ∨ ((Ob (.slice va n vc) b ∨ b = P) ∨ Zs b))) wr4 r) ∧ l4.map CpR.key = (yl.take k4).map CpR.key ∧ Below W3.heap.size W3 wr4) (fun _ i _ => ny - (intOf i).toNat)
                case atStart => exact ⟨0, [], _, _, by omega, rfl, rfl, hOn.out, rfl, (fun s h => by simp at h), rfl, bn.out⟩
                case round =>
                  clear hOn bn
                  obtain ⟨k4, l4, a4, c4, hk4, rfl, rfl, hO4, hl4, hG4, hky4, hB4⟩ := hrel
                  obtain ⟨W6, rfl⟩ : ∃ y, y = wr := ⟨_, rfl⟩
                  replace hO4 := Lib.hid hO4; replace hl4 := Lib.hid hl4; replace hG4 := Lib.hid hG4; replace hky4 := Lib.hid hky4; replace hB4 := Lib.hid hB4
                  have zr4 := hB4.out.size
                  by_cases hlt4 : k4 < ny
                  · obtain ⟨t, ht⟩ : ∃ t, yl[k4]? = some t := ⟨_, List.getElem?_eq_getElem (by rw [hny.out]; exact hlt4)⟩
                    obtain ⟨gt, rfl, -, hst4, hGt⟩ := (hGy.out.keep G0.keep (Kc.of_below hB4.out) (fun _ _ q => q)) k4 t ht
                    obtain ⟨htn, hts⟩ := hys.out (CpR.key t) (List.mem_map_of_mem (List.mem_of_getElem? ht))
                    have htk4 := Lib.hid (mapt (f := CpR.key) ht)
                    clear ht
                    have htl : t.ls.length ≤ 1048576 := by rw [← List.length_map (f := SubR.k)]; exact hts
                    have C20 := Lib.hid (fun W (hb : Below W6.heap.size W6 W) => sub0_c p (.func (.func fn) #[] caps) 1 t W htn (fun s hs => by
                      obtain ⟨i, hi⟩ := List.getElem?_of_mem hs
                      obtain ⟨g, -, -, -, hg⟩ := hGt.1 i s hi
                      exact hg.1) (fun i s hi => by
                      obtain ⟨g, e1, -, e3, -⟩ := hGt.1 i s hi
                      exact ⟨g, e1, e3.after hb⟩) (by omega) W3.heap.size k4 (.slice a4 k4 c4) l4 (own_below hO4.out hb) (by omega) (by have := hb.size; omega))
                    replace hGt := Lib.hid hGt
                    obtain ⟨ta, tc, tl, tx, tn, txc, tcb⟩ := t
                    have htn' : tn = 0 := htn
                    subst htn'
                    obtain ⟨mt, hmt⟩ : ∃ y, tl.length = y := ⟨_, rfl⟩
                    have hst6 := segs6 (show Seg W6 gt (k4 * 6) [.pointer none, .slice ta tl.length tc, .slice tx 0 txc, .int .i32 0, .int .u8 tcb, .bool false] from hst4)
                    rw [hmt] at hst6
                    replace C20 : Hid (∀ W, Below W6.heap.size W6 W → Calls Tryf.prog 20 #[p, .agg #[.pointer none, .slice ta mt tc, .slice tx 0 txc, .int .i32 0, .int .u8 tcb, .bool false], .func (.func fn) #[] caps, .slice a4 k4 c4, .int .u8 1] W (S0P l4 (⟨ta, tc, tl, none, 0, 0, tcb⟩ : CpR ByteArray) W3.heap.size k4 (.slice a4 k4 c4) W)) := by rw [← hmt]; exact C20
                    obtain ⟨e0, e1, e2, e3, e4, e5⟩ := hst6
                    clear hst4 hts htn hmt htl
                    have i2 : (0 : Int) ≤ k4 := by omega
                    have i3 : (k4 : Int) < ny := by omega
                    go_upto_region 43 with fail
                    refine wp_gen (fun Wq hW => ?_)
                    have bq : Hid (Below W6.heap.size W6 Wq) := Lib.hid (by rw [hW]; exact ba _ _)
                    have hsq : Seg Wq W6.heap.size 0 [.pointer none, .slice ta mt tc, .slice tx 0 txc, .int .i32 0, .int .u8 tcb, .bool false] := by rw [hW]; exact Seg.new _ _ _
                    clear hW e0 e1 e2 e3 e4 e5
                    obtain ⟨e0, e1, e2, e3, e4, e5⟩ := segs6 hsq
                    simp only [Nat.zero_add] at e0 e1 e2 e3 e4 e5
                    clear hsq
                    have C20' := Lib.hid (C20.out Wq bq.out)
                    clear C20
                    have zq := bq.out.size
                    go_wp2_with (go_at_call 20; (with_reducible refine C20'.out.mono ?_); rintro e w7 ⟨a5, c5, rfl, hO5, hkp5, hnew5⟩; replace hO5 := Lib.hid hO5; replace hkp5 := Lib.hid hkp5; replace hnew5 := Lib.hid hnew5)
                    have hGn := step_k (s' := (⟨ta, tc, tl, none, 0, 0, tcb⟩ : CpR ByteArray)) (GCp.keep G0.keep) (Oth' := fun b => (Ob (.slice a3 k3 c3) b ∨ ((Ob (.slice va n vc) b ∨ b = P) ∨ Zs b))) hG4.out (Kc.of_below bq.out) (fun _ _ q => q) (O' := fun b => ((Ob (.slice va n vc) b ∨ b = P) ∨ Zs b) ∨ W2.heap.size ≤ b) (by
                      have hg9 := GCp.keep G0.keep _ _ _ _ _ hGt.out (Kc.of_below bq.out) (fun _ _ q => q)
                      exact ⟨hg9.1, hg9.2.1, fun i hi => by simp at hi⟩) (fun b hb q => by
                      rcases q with q | q | q
                      · right; have := (hO4.out.lt b q).1; omega
                      · right; exact (hO3.out.lt b q).1
                      · exact .inl q) zq hkp5.out hnew5.out
                    exact ⟨⟨k4 + 1, l4 ++ [⟨ta, tc, tl, none, 0, 0, tcb⟩], a5, c5, by omega, by go_num, rfl, hO5.out, by simp [hl4.out], hGn, by rw [List.map_append, hky4.out, htk4.out]; rfl, hB4.out.trans ((bq.out.mono zr4).trans (hkp5.out.below (by omega) (fun b q => (hO4.out.lt b q).1)))⟩, by simp [intOf] <;> omega⟩
                  · obtain rfl : k4 = ny := by omega
                    have hO36 := Lib.hid (own_below hO3.out hB4.out)
                    go_wp2_with (at_builtin; go_loud (refine app1n (w := W6) (.tmp 190) (.tmp 193) 42 110 W2.heap.size 1 24 #[.slice none 0 0] #[.slice a4 k4 c4] _ k3 _ rfl rfl rfl rfl rfl Tryf.underlying42 info110 rfl (by omega) hO36.out rfl (by simp [Value.oneCell']) (by omega) (by omega) (by omega) ?_); intro v2 w8 hO8 hkp hnew; obtain ⟨a8, c8, hu⟩ := own_head hO8; subst hu; replace hO8 := Lib.hid hO8; replace hkp := Lib.hid hkp; replace hnew := Lib.hid hnew)
                    have hGn := step_k (s' := (⟨a4, c4, l4⟩ : CxR ByteArray)) (GCx.keep G0.keep) (Oth' := fun b => ((Ob (.slice va n vc) b ∨ b = P) ∨ Zs b)) hG3.out (Kc.of_below hB4.out) (fun _ _ q => q) (O' := fun b => Ob (.slice a3 k3 c3) b ∨ ((Ob (.slice va n vc) b ∨ b = P) ∨ Zs b)) ⟨rcp_of_own G0.keep hl4.out hO4.out hG4.out (fun b _ q => .inr q) (fun b q q' => by
                        have h1 := (hO4.out.lt b q).1
                        rcases q' with q' | q'
                        · have := (hO3.out.lt b q').2; omega
                        · have := hOZ.out b q'; omega), by show l4.length ≤ maxLen; rw [hl4.out]; unfold maxLen; omega⟩ (fun b _ q => q) zr4 hkp.out hnew.out
                    exact ⟨⟨k3 + 1, l3 ++ [⟨a4, c4, l4⟩], a8, c8, by omega, by go_num, rfl, by rw [← flat_add]; show World.ownsRow w8 _ 110 1 _ _ (flat CxR.cells l3 ++ [.slice a4 l4.length c4]); rw [hl4.out]; exact hO8.out, by simp [hl3.out], hGn, by
                      have hl4k : l4.map CpR.key = yl.map CpR.key := by rw [hky4.out, List.take_of_length_le (by rw [hny.out]; exact Nat.le_refl _)]
                      rw [List.map_append, hky3.out, htk3.out]
                      show _ ++ [l4.map CpR.key] = _
                      rw [hl4k]
                      rfl, hB3.out.trans ((hB4.out.mono zr3).trans (hkp.out.below (by omega) (fun b q => (hO3.out.lt b q).1)))⟩, by simp [intOf] <;> omega⟩
              · obtain rfl : k3 = nz := by omega
                have hrZ3 := Lib.hid (hrZ.out.after hB3.out)
                obtain ⟨_, zc, fZ⟩ := hrZ3.out 0 (by omega)
                have KZ : Kp (fun b => b = Z) W2 (W3.setCell ⟨Z, 0, none⟩ (.slice a3 k3 c3)) := (Kp.of hB3.out).set _ _ (.inl rfl)
                have hPZ : P < Z := (hZ4.out Z hZs.out).1
                have hnw : G1 Zs (fun b => Ob (.slice va n vc) b ∨ b = P) (W3.setCell ⟨Z, 0, none⟩ (.slice a3 k3 c3)) ⟨116, .pointer (some ⟨Z, 0, none⟩), .inr pk⟩ := ⟨rfl, Z, a3, c3, k3, l3, rfl, hZs.out, hZO.out, (hsz.out.after hB3.out).set 0 _ (by simp), RCx.keep G0.keep (rcx_of_own (O' := fun b => ((Ob (.slice va n vc) b ∨ b = P) ∨ Zs b)) G0.keep hl3.out hO3.out hG3.out (fun b _ q => .inr q) (fun b q q' => by have := (hO3.out.lt b q).1; have := hOZ.out b q'; omega)) (Kc.of_kp ((Kp.refl W3).set (S := fun b => b = Z) ⟨Z, 0, none⟩ (.slice a3 k3 c3) (.inl rfl)) (fun b _ q => .inr (by rw [show b = Z from q]; exact hZs.out))) (fun _ _ q => q), hl3.out, by rw [hky3.out, List.take_of_length_le (by rw [hlz.out]; exact Nat.le_refl _), hkz.out]⟩
                have RR : ∃ k', k' ≤ mj ∧ Value.int .i64 ((k2 : Int) + 1) = .int .i64 k' ∧ RowG Zs (fun b => Ob (.slice va n vc) b ∨ b = P) (W3.setCell ⟨Z, 0, none⟩ (.slice a3 k3 c3)) (some ⟨g, 0, none⟩) lj ∧ Seg (W3.setCell ⟨Z, 0, none⟩ (.slice a3 k3 c3)) P 0 [.pointer none, .slice (some ⟨g, 0, none⟩) mj cj, .slice none 0 0, .int .i32 0, .int .u8 cbj, .bool false] ∧ (∀ Z', Zs Z' → Room (W3.setCell ⟨Z, 0, none⟩ (.slice a3 k3 c3)) Z' 4) ∧ Kp (fun b => Zs b) W4 (W3.setCell ⟨Z, 0, none⟩ (.slice a3 k3 c3)) := ⟨k2 + 1, by omega, by go_num, hR2.out.redo hD.out hx.out rfl rfl hZs.out (Kc.of_kp KZ (fun _ _ q => q)) hnw, hP2.out.keep (Kc.of_kp KZ (fun _ _ q => q)) (by show ¬ P = Z; omega), (fun Z' q => ((hZ2.out Z' q).after hB3.out).setA _ _), K2.out.trans (KZ.wide (fun b q => by rw [show b = Z from q]; exact hZs.out))⟩
                clear KZ hnw
                replace RR := Lib.hid RR
                go_wp2
                exact ⟨RR.out, by simp [intOf] <;> omega⟩
        · obtain rfl : k2 = mj := by omega
          obtain ⟨s0, s1, s2, s3, s4, s5⟩ := segs6 hP2.out
          simp only [Nat.zero_add] at s0 s1 s2 s3 s4 s5
          have BW2 : Hid (Below P w W2) := Lib.hid (B4.out.trans (K2.out.below (by omega) (fun b q => by have := (hZ4.out b q).1; omega)))
          have hOr : Hid (W2.ownsRow base 40 6 (.slice va n vc) n xs) := Lib.hid (own_below hO.out (by rw [hPw.out]; exact BW2.out))
          go_wp2_with (at_builtin; go_loud (refine app1n (w := W2) (.tmp 201) (.tmp 203) 30 40 base 6 72 #[.pointer none, .slice none 0 0, .slice none 0 0, .int .i32 0, .int .u8 0, .bool false] #[.pointer none, .slice aj k2 cj, .slice none 0 0, .int .i32 0, .int .u8 cbj, .bool false] _ n _ rfl rfl rfl rfl rfl Tryf.underlying30 info40 rfl (by omega) hOr.out rfl (by simp [Value.oneCell']) (by omega) (by omega) (by omega) ?_); intro v2 w8 hO8 hkp hnew; obtain ⟨a8, c8, hu⟩ := own_head hO8; subst hu; replace hO8 := Lib.hid hO8; replace hkp := Lib.hid hkp; replace hnew := Lib.hid hnew)
          have hF : F20P cb k st rc rep (ls.map SubR.k) base n (.slice va n vc) xs w (.returned (.slice a8 (n + 1) c8)) w8 := ⟨a8, c8, ⟨aj, cj, lj, none, 0, 0, cbj⟩, Zs, rfl, (by show World.ownsRow w8 base 40 6 _ _ (xs ++ [.pointer none, .slice aj lj.length cj, .slice none 0 0, .int .i32 0, .int .u8 cbj, .bool false]); rw [hmj.out]; exact hO8.out), hcbj.out.symm, rfl, hkey.out, hR2.out.keep (O := fun b => Ob (.slice va n vc) b ∨ b = P) (Kc.of_kp hkp.out (fun b _ q => .inl q)) (fun b hb q => by
            rcases hnew.out b q with q | q
            · exact .inl q
            · omega) (fun _ _ => Iff.rfl), (Kp.of (S := Ob (.slice va n vc)) (by rw [hPw.out]; exact BW2.out)).trans hkp.out, fun b q => by
            rcases hnew.out b q with q | q
            · exact .inl q
            · right
              have := BW2.out.size
              omega⟩
          rw [hQ.out] at hF
          first | exact hF | exact bodyPost_ret (by simp [results, Tryf.results20, go_sem]) rfl hF
end Go.Proofs.YtjigljpodkfchaaFmt
