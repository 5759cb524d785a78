/- FnFlattenMatchesStreamModel: zzBuildComplex, the walk. -/
import Derived.Test.YtjigljpodkfchadFlg
set_option linter.unusedVariables false
set_option linter.unusedSimpArgs false
namespace Go.Proofs.Ytjigljpodkfchad
open Go.RowKit
set_option maxRecDepth 100000
set_option maxHeartbeats 40000000
def CxP (l : List Zc) (n : Nat) (w : World) (e : Ending) (w' : World) : Prop := ∃ (g c : Nat) (los his : Nat → Nat) (rs : List MR), e = .returned (.agg #[.slice (some ⟨g, 0, none⟩) n c]) ∧ RMk2 w' (.slice (some ⟨g, 0, none⟩) n c) w.heap.size n los his rs (l.map Zc.key) ∧ Below w.heap.size w w'
/-- the sizes that the law allows -/
def SzI (y : Zi) : Prop := y.nm.length ≤ 1048576
def SzS (x : Zs) : Prop := x.inn.length ≤ 1048576 ∧ ∀ y ∈ x.inn, SzI y
def SzC (x : Zc) : Prop := x.ss.length ≤ 1048576 ∧ ∀ y ∈ x.ss, SzS y
theorem cplx10_c (l : List Zc) (n : Nat) (hn : l.length = n) (hn2 : n ≤ 1048576) (hin : ∀ x ∈ l, SzC x) (a : Option Addr) (cc : Nat) (w : World) (h : RC w a l) : Calls Try.prog 10 #[.slice a n cc] w (CxP l n w) := by
  replace h := Lib.hid h
  replace hn := Lib.hid hn
  replace hin := Lib.hid hin
  have mk := make0_z (P := Try.prog) #[.pointer none, .slice none 0 0, .slice none 0 0, .int .i32 0, .int .u8 0, .bool false] Try.underlying30 info102 n (by omega) (by omega)
  go_enter Try.func10, Try.ntmps10
  go_upto_region 2 with fail
  clear mk
  refine wp_gen (fun W hW => ?_)
  have hO : Hid (RMk2 W (.slice (some ⟨w.heap.size + 1, 0, none⟩) 0 n) (w.heap.size + 1) 0 (fun _ => 0) (fun _ => 0) [] []) := Lib.hid ⟨by
    rw [hW]
    have := World.ownsRow_made (base := w.heap.size + 1) (e := 102) (size := 6) (w.alloc (.cells #[.slice none 0 0] 32)) (madeCells #[.pointer none, .slice none 0 0, .slice none 0 0, .int .i32 0, .int .u8 0, .bool false] (n * 6)) n (by simp) (by unfold maxLen; omega) (by rw [size_madeCells])
    simpa [flat] using this, rfl, rfl, fun j r x hr _ => by simp at hr, fun j hj => by omega, fun i j _ hj => by omega, fun j hj => by omega⟩
  have hB : Hid (Below w.heap.size w W) := Lib.hid (by rw [hW]; exact (ba _ _).alloc (by simp) _)
  have t2 : W.cell? ⟨w.heap.size, 0, none⟩ = some (.slice none 0 0) := by rw [hW]; simp [go_sem]
  have f2 : W.frozen? ⟨w.heap.size, 0, none⟩ = false := by rw [hW]; simp [go_sem]
  have hnob : ¬ Ob (.slice (some ⟨w.heap.size + 1, 0, none⟩) 0 n) w.heap.size := fun q => by simp [Ob, Value.ownBlock] at q
  clear hW
  obtain ⟨P, hP⟩ : ∃ y, w.heap.size = y := ⟨_, rfl⟩
  obtain ⟨g0, hg0⟩ : ∃ y, P + 1 = y := ⟨_, rfl⟩
  have hPw := Lib.hid hP
  have hPW : P < W.heap.size := by rw [← hP]; exact block_lt_of_cell t2
  rw [hP] at hO hnob
  have hO' := Lib.hid hO.out.1
  rw [hg0] at hO' hnob
  have hO2 : Hid (RMk2 W (.slice (some ⟨g0, 0, none⟩) 0 n) (P + 1) 0 (fun _ => 0) (fun _ => 0) [] []) := by rw [← hg0]; exact hO
  clear hO hO'
  have hO := hO2
  clear hO2
  rw [hP] at t2 f2
  rw [hP, hg0]
  clear hP hg0
  have hTT : Hid (W.cell? ⟨P, 0, none⟩ = some (.slice none 0 0) ∧ W.frozen? ⟨P, 0, none⟩ = false) := Lib.hid ⟨t2, f2⟩
  clear t2 f2
  go_wp2
  go_loopw [3, 4] (fun o i wr => ∃ (k : Nat) (los his : Nat → Nat) (rs : List MR) (g c1 : Nat), k ≤ n ∧ i = .int .i64 k ∧ o = .slice (some ⟨g, 0, none⟩) k c1 ∧ RMk2 wr (.slice (some ⟨g, 0, none⟩) k c1) (P + 1) k los his rs ((l.take k).map Zc.key) ∧ Below w.heap.size w wr ∧ wr.cell? ⟨P, 0, none⟩ = some (.slice none 0 0) ∧ wr.frozen? ⟨P, 0, none⟩ = false ∧ ¬ Ob (.slice (some ⟨g, 0, none⟩) k c1) P) (fun _ i _ => n - (intOf i).toNat)
  case atStart => exact ⟨0, _, _, [], _, _, by omega, rfl, rfl, hO.out, hB.out, hTT.out.1, hTT.out.2, hnob⟩
  case round =>
    clear hO hB hTT hnob
    obtain ⟨k, los, his, rs, g, c1, hk, rfl, rfl, hO, hB, t2, f2, hnob⟩ := hrel
    obtain ⟨Wr, rfl⟩ : ∃ y, y = wr := ⟨_, rfl⟩
    replace hO := Lib.hid hO; replace hB := Lib.hid hB; replace hnob := Lib.hid hnob
    have hzr := hB.out.size
    have hPr : P < Wr.heap.size := block_lt_of_cell t2
    by_cases hlt : k < n
    · have hTT := Lib.hid (And.intro t2 f2)
      clear t2 f2
      obtain ⟨x, hx⟩ : ∃ x, l[k]? = some x := ⟨_, List.getElem?_eq_getElem (by rw [hn.out]; exact hlt)⟩
      obtain ⟨b, o, a', c', rfl, hs, hRS, -, hcb, hty, ham⟩ := (h.out.after hB.out) k x hx
      have htk := Lib.hid (mapt (f := Zc.key) hx)
      obtain ⟨hxn, hxs⟩ := hin.out x (List.mem_of_getElem? hx)
      clear hx
      obtain ⟨xcb, xty, xam, xss⟩ := x
      simp only at hcb hty ham hxn hxs hRS
      obtain ⟨m, hm⟩ : ∃ y, xss.length = y := ⟨_, rfl⟩
      obtain ⟨d0, d1, d2, d3⟩ := segs4' (show Seg Wr b (o + k * 4) [.int .u8 xcb, .int .u8 xty, .int .u8 xam, .slice a' m c'] by rw [← hm]; exact hs)
      rw [hm] at hxn
      replace hm := Lib.hid hm
      have i0 : (0 : Int) ≤ k := by omega
      have i1 : (k : Int) < n := by omega
      have C18 := Lib.hid (fun W => comb18_c xcb hcb.1 hcb.2 W)
      have C19 := Lib.hid (fun W => type19_c xty hty.1 hty.2 W)
      have C20 := Lib.hid (fun W => nest20_c xam (by omega) W)
      have hwam := wk64 (x := (xam : Int)) (by omega) (by omega)
      replace hRS := Lib.hid hRS
      replace hxs := Lib.hid hxs
      clear hs hcb hty
      go_upto_region 7 with fail
      refine wp_gen (fun W0 hW => ?_)
      have b0 : Hid (Below Wr.heap.size Wr W0) := Lib.hid (by rw [hW]; exact (ba _ _).alloc (by simp) _)
      have sT : Hid (Seg W0 Wr.heap.size 0 [.int .u8 xcb, .int .u8 xty, .int .u8 xam, .slice a' m c']) := Lib.hid (by rw [hW]; exact (Seg.new _ _ _).after (ba _ _))
      have s0 : Hid (Seg W0 (Wr.heap.size + 1) 0 [.pointer none, .slice none 0 0, .slice none 0 0, .int .i32 0, .int .u8 0, .bool false]) := Lib.hid (by
        rw [hW]
        have := Seg.new (Wr.alloc (.cells #[.int .u8 xcb, .int .u8 xty, .int .u8 xam, .slice a' m c'] 42)) [.pointer none, .slice none 0 0, .slice none 0 0, .int .i32 0, .int .u8 0, .bool false] 102
        simpa using this)
      have r0 : Hid (Room W0 (Wr.heap.size + 1) 6) := Lib.hid (by
        rw [hW]
        have := Room.newN (Wr.alloc (.cells #[.int .u8 xcb, .int .u8 xty, .int .u8 xam, .slice a' m c'] 42)) #[.pointer none, .slice none 0 0, .slice none 0 0, .int .i32 0, .int .u8 0, .bool false] (n := 6) rfl 102
        simpa using this)
      clear hW d0 d1 d2 d3
      obtain ⟨T, hT⟩ : ∃ y, Wr.heap.size = y := ⟨_, rfl⟩
      obtain ⟨V, hV⟩ : ∃ y, T + 1 = y := ⟨_, rfl⟩
      rw [hT] at sT hzr hPr
      rw [hT, hV] at s0 r0
      rw [hT, hV]
      have hTr := Lib.hid hT
      have hTV : T < V := by omega
      clear hT
      replace hV := Lib.hid hV
      obtain ⟨e0, e1, e2, e3⟩ := segs4' sT.out
      obtain ⟨v0, v1, v2, v3, v4, v5⟩ := segs6 s0.out
      simp only [Nat.zero_add] at v0 v1 v2 v3 v4 v5 e0 e1 e2 e3
      obtain ⟨_, _, f4⟩ := r0.out 4 (by omega)
      go_upto_region 8 with (go_at_call 18; (with_reducible refine (C18.out _).mono ?_); rintro e w7 ⟨rfl, rfl⟩)
      refine wp_gen (fun W1 hW => ?_)
      obtain ⟨s1, r1, k1⟩ := put4z _ r0.out s0.out hW
      clear hW v0 v1 v2 v3 v4 v5 f4 s0 r0 e0 e1 e2 e3
      replace s1 := Lib.hid s1; replace r1 := Lib.hid r1
      replace sT := Lib.hid (sT.out.keep (Kc.of_kp k1 (fun _ _ q => q)) (by show ¬ T = V; omega))
      have b1 : Hid (Below Wr.heap.size Wr W1) := Lib.hid (b0.out.trans (k1.below b0.out.size (fun b e => by have := hTr.out; omega)))
      clear k1 b0
      have z1 := b1.out.size
      obtain ⟨e0, e1, e2, e3⟩ := segs4' sT.out
      obtain ⟨v0, v1, v2, v3, v4, v5⟩ := segs6 s1.out
      simp only [Nat.zero_add] at v0 v1 v2 v3 v4 v5 e0 e1 e2 e3
      obtain ⟨_, _, f0⟩ := r1.out 0 (by omega)
      have zV1 : V < W1.heap.size := r1.out.lt (by omega)
      go_upto_if 28 with fail
      go_cut [] (fun wx => ∃ tv, Seg wx V 0 [tv, .slice none 0 0, .slice none 0 0, .int .i32 0, .int .u8 (combZ xcb), .bool false] ∧ TyR (fun b => b ≤ V) wx tv (tyK xty) ∧ Room wx V 6 ∧ Kp (fun b => b = V) W1 wx)
      case first =>
        by_cases h0 : xty = 0
        · have q : (xty != 0) = false := by simp [h0]
          have hty : Hid (tyK xty = none) := Lib.hid (by unfold tyK; rw [if_pos h0])
          clear h0
          go_wp2
          go_meet
          exact ⟨_, s1.out, by rw [hty.out]; rfl, r1.out, Kp.refl _⟩
        · have q : (xty != 0) = true := by simp [h0]
          have hty : Hid (tyK xty = some (bs [letZ xty])) := Lib.hid (by unfold tyK; rw [if_neg h0])
          clear h0
          go_wp2_with (go_at_call 19; (with_reducible refine (C19.out _).mono ?_); rintro e w7 ⟨tv, rfl, hT, ⟨B, rfl⟩, b7⟩; have f0' := af b7 v0 f0; have v0' := ac b7 v0; replace hT := Lib.hid hT; replace b7 := Lib.hid b7)
          go_meet
          obtain ⟨t1, t2, t3⟩ := put0z (w := w7) (.pointer (some ⟨B, 0, none⟩)) (r1.out.after b7.out) (s1.out.after b7.out) rfl
          refine ⟨_, t1, ?_, t2, (Kp.of b7.out).trans t3⟩
          rw [hty.out]
          exact hT.out.keep t3 (fun b _ e => by show b < W1.heap.size; have : b = V := e; omega) (fun b _ q => by show b < W1.heap.size; have : b ≤ V := q; omega)
      case rest =>
        obtain ⟨tv, s2, hT, r2, k2⟩ := hcut
        obtain ⟨W2, rfl⟩ : ∃ y, y = wc := ⟨_, rfl⟩
        clear v0 v1 v2 v3 v4 v5 f0 e0 e1 e2 e3
        replace s2 := Lib.hid s2; replace r2 := Lib.hid r2; replace hT := Lib.hid hT
        replace sT := Lib.hid (sT.out.keep (Kc.of_kp k2 (fun _ _ q => q)) (by show ¬ T = V; omega))
        have b2 : Hid (Below Wr.heap.size Wr W2) := Lib.hid (b1.out.trans (k2.below b1.out.size (fun b e => by have := hTr.out; omega)))
        have z2 := k2.size
        clear k2
        obtain ⟨e0, e1, e2, e3⟩ := segs4' sT.out
        obtain ⟨v0, v1, v2, v3, v4, v5⟩ := segs6 s2.out
        simp only [Nat.zero_add] at v0 v1 v2 v3 v4 v5 e0 e1 e2 e3
        obtain ⟨_, _, f2⟩ := r2.out 2 (by omega)
        go_upto_region 11 with (go_at_call 20; (with_reducible refine (C20.out _).mono ?_); rintro e w9 ⟨nv, rfl, hN, b9⟩; (have hN2 := hN); obtain ⟨na, nc, hnv, -⟩ := hN2; subst hnv; have f2' := af b9 v2 f2; have v2' := ac b9 v2; replace hN := Lib.hid hN; replace b9 := Lib.hid b9)
        refine wp_gen (fun W3 hW => ?_)
        obtain ⟨s3, r3, k3⟩ := put2cell _ (r2.out.after b9.out) (s2.out.after b9.out) hW
        clear hW v0 v1 v2 v3 v4 v5 f2 e0 e1 e2 e3 v2' f2'
        replace s3 := Lib.hid s3; replace r3 := Lib.hid r3
        have z9 := b9.out.size
        replace sT := Lib.hid ((sT.out.after b9.out).keep (Kc.of_kp k3 (fun _ _ q => q)) (by show ¬ T = V; omega))
        have b3 : Hid (Below Wr.heap.size Wr W3) := Lib.hid (b2.out.trans ((b9.out.mono b2.out.size).trans (k3.below (by have := b2.out.size; omega) (fun b e => by have := hTr.out; omega))))
        have zV3 : V < W3.heap.size := r3.out.lt (by omega)
        have hT3 : Hid (TyR (fun b => b ≤ V) W3 tv (tyK xty)) := Lib.hid (hT.out.keep (S := fun b => b = V) ((Kp.of b9.out).trans k3) (fun b _ e => by show b ≤ V; have : b = V := e; omega) (fun _ _ q => q))
        have hN3 : Hid (NnR (fun b => b ≤ V) W3 (.slice na xam nc) xam) := Lib.hid (hN.out.keep k3 (fun b _ e => by show b < W2.heap.size; have : b = V := e; omega) (fun b _ q => by have q' : b ≤ V := q; show b < W2.heap.size; omega))
        have hco : Hid (RCo1 (V + 1) (fun b => b ≤ V) W3 tv (.slice none 0 0) (.slice na xam nc) 0 (tyK xty) xam []) := Lib.hid ⟨hT3.out.wide (fun b _ q => q.resolve_left ob_nil), hN3.out.wide (fun b _ q => q.resolve_left ob_nil), [], fun _ => W3.heap.size, rfl, World.ownsRow_nil _ _ _ _, fun b q => absurd q ob_nil, fun j s hs => by simp at hs, fun _ => Nat.le_refl _, zV3, Nat.le_refl _, rfl, hT3.out.wide (fun b hb q => by rcases q with q | q | q; exact absurd q ob_nil; exact q; (have q2 : W3.heap.size ≤ b := q; omega)), hN3.out.wide (fun b hb q => by rcases q with q | q | q; exact absurd q ob_nil; exact q; (have q2 : W3.heap.size ≤ b := q; omega))⟩
        clear hT hN hT3 hN3 k3 b9 b2
        have s3' := segs6 s3.out
        have d3' := segs4' sT.out
        simp only [Nat.zero_add] at s3' d3'
        go_wp2
        clear s3' d3'
        go_loopw [7] (fun i wr => ∃ (j : Nat) (sa : Option Addr) (sc : Nat), j ≤ m ∧ i = .int .i64 j ∧ Seg wr V 0 [tv, .slice sa j sc, .slice na xam nc, .int .i32 0, .int .u8 (combZ xcb), .bool false] ∧ Room wr V 6 ∧ Seg wr T 0 [.int .u8 xcb, .int .u8 xty, .int .u8 xam, .slice a' m c'] ∧ RCo1 (V + 1) (fun b => b ≤ V) wr tv (.slice sa j sc) (.slice na xam nc) j (tyK xty) xam ((xss.take j).map Zs.key) ∧ Below Wr.heap.size Wr wr) (fun i _ => m - (intOf i).toNat)
        case atStart => exact ⟨0, none, 0, by omega, rfl, s3.out, r3.out, sT.out, hco.out, b3.out⟩
        case round =>
          clear s3 r3 hco b3 sT
          obtain ⟨j, sa, sc, hj, rfl, s4, r4, sT, hco, b4⟩ := hrel
          obtain ⟨W4, rfl⟩ : ∃ y, y = wr := ⟨_, rfl⟩
          replace s4 := Lib.hid s4; replace r4 := Lib.hid r4; replace hco := Lib.hid hco; replace b4 := Lib.hid b4; replace sT := Lib.hid sT
          obtain ⟨e0, e1, e2, e3⟩ := segs4' sT.out
          obtain ⟨x0, x1, x2, x3, x4, x5⟩ := segs6 s4.out
          simp only [Nat.zero_add] at x0 x1 x2 x3 x4 x5 e0 e1 e2 e3
          have zV4 : V < W4.heap.size := r4.out.lt (by omega)
          by_cases hltj : j < m
          · obtain ⟨s, hsj⟩ : ∃ s, xss[j]? = some s := ⟨_, List.getElem?_eq_getElem (by rw [hm.out]; exact hltj)⟩
            obtain ⟨nb, no, ia, ic, rfl, hcs, hRI, -, hkd, hnm⟩ := (hRS.out.after b4.out) j s hsj
            have htj := Lib.hid (mapt (f := Zs.key) hsj)
            obtain ⟨hsz1, hsz2⟩ := hxs.out s (List.mem_of_getElem? hsj)
            clear hsj
            have C21b := Lib.hid (fun W (hb : Below W4.heap.size W4 W) => sub21_c s ia ic hkd hnm hsz1 hsz2 W (hRI.after hb))
            clear hRI hsz2 hsz1
            obtain ⟨y0, y1, y2, y3⟩ := segs4' hcs
            obtain ⟨il, hil⟩ : ∃ y, s.inn.length = y := ⟨_, rfl⟩
            simp only [hil] at C21b y3
            clear hil hcs
            have C21a := C21b
            clear C21b
            have j0 : (0 : Int) ≤ j := by omega
            have j1 : (j : Int) < m := by omega
            have hjn : j ≤ 1048576 := by omega
            go_upto_region 14 with fail
            have hps : PsOk [(fun v _ => v = .pointer (some ⟨V, 1, none⟩)), (fun v _ => v = .slice sa j sc), (fun v _ => v = .pointer (some ⟨T, 3, none⟩)), (fun v _ => v = .slice (some ⟨nb, no, none⟩) m c'), (fun v _ => v = .int .i64 j), (fun v _ => v = .pointer (some ⟨nb, no + j * 4, none⟩)), (fun v _ => v = .agg #[.bool s.wr, .int .u8 s.kd, .string s.nm, .slice ia il ic]), (fun v W => ∃ t : SubR SK, v = .agg t.arr ∧ t.k = s.key ∧ G1 (fun b => b < W4.heap.size) W t), (fun v W => ∃ (t : SubR SK) (bk : Nat), v = .slice (some ⟨bk, 0, none⟩) 1 1 ∧ W4.heap.size ≤ bk ∧ NewAt W bk t.arr 111 ∧ t.k = s.key ∧ G1 (fun b => b < W4.heap.size) W t)] := PsOk.eq (PsOk.eq (PsOk.eq (PsOk.eq (PsOk.eq (PsOk.eq (PsOk.eq (PsOk.cons (fun v W W' hb ⟨t, e1, e2, e3⟩ => ⟨t, e1, e2, G1.after hb e3⟩) (PsOk.cons (fun v W W' hb ⟨t, bk, e1, e2, e3, e4, e5⟩ => ⟨t, bk, e1, e2, NewAt.after e3 hb, e4, G1.after hb e5⟩) (PsOk.nil)))))))))
            refine QTail.drawn_rel 9 (PsR [(fun v _ => v = .pointer (some ⟨V, 1, none⟩)), (fun v _ => v = .slice sa j sc), (fun v _ => v = .pointer (some ⟨T, 3, none⟩)), (fun v _ => v = .slice (some ⟨nb, no, none⟩) m c'), (fun v _ => v = .int .i64 j), (fun v _ => v = .pointer (some ⟨nb, no + j * 4, none⟩)), (fun v _ => v = .agg #[.bool s.wr, .int .u8 s.kd, .string s.nm, .slice ia il ic]), (fun v W => ∃ t : SubR SK, v = .agg t.arr ∧ t.k = s.key ∧ G1 (fun b => b < W4.heap.size) W t), (fun v W => ∃ (t : SubR SK) (bk : Nat), v = .slice (some ⟨bk, 0, none⟩) 1 1 ∧ W4.heap.size ≤ bk ∧ NewAt W bk t.arr 111 ∧ t.k = s.key ∧ G1 (fun b => b < W4.heap.size) W t)]) (by kernel_rfl) (by kernel_rfl) (fun i v W W' h1 h2 => PsR.after hps i v W W' h1 h2) ?_ ?_
            · clear hps
              simp only [List.take_succ_cons, List.take_zero]
              refine ⟨?_, ?_, ?_, ?_, ?_, ?_, ?_, ?_, ?_, trivial⟩
              all_goals intro vs W' hC hd
              · clear hd hC
                simp only [QTail.putA, Nat.reduceAdd, Act.put, List.setIfInBounds_toArray, List.set_cons_succ, List.set_cons_zero]
                go_wp2
                exact ⟨rfl, Below.refl _ _⟩
              · have e0 : vs 0 = .pointer (some ⟨V, 1, none⟩) := hd { on := 0, ground := Ground.data } (by simp) rfl
                replace x1 := ac hC x1
                clear hd hC
                simp only [QTail.putA, Nat.reduceAdd, Act.put, List.setIfInBounds_toArray, List.set_cons_succ, List.set_cons_zero]
                rw [e0]
                go_wp2
                exact ⟨rfl, Below.refl _ _⟩
              · clear hd hC
                simp only [QTail.putA, Nat.reduceAdd, Act.put, List.setIfInBounds_toArray, List.set_cons_succ, List.set_cons_zero]
                go_wp2
                exact ⟨rfl, Below.refl _ _⟩
              · have e2 : vs 2 = .pointer (some ⟨T, 3, none⟩) := hd { on := 2, ground := Ground.data } (by simp) rfl
                replace e3 := ac hC e3
                clear hd hC
                simp only [QTail.putA, Nat.reduceAdd, Act.put, List.setIfInBounds_toArray, List.set_cons_succ, List.set_cons_zero]
                rw [e2]
                go_wp2
                exact ⟨rfl, Below.refl _ _⟩
              · clear hd hC
                simp only [QTail.putA, Nat.reduceAdd, Act.put, List.setIfInBounds_toArray, List.set_cons_succ, List.set_cons_zero]
                go_wp2
                exact ⟨rfl, Below.refl _ _⟩
              · have e3 : vs 3 = .slice (some ⟨nb, no, none⟩) m c' := hd { on := 3, ground := Ground.data } (by simp) rfl
                have e4 : vs 4 = .int .i64 j := hd { on := 4, ground := Ground.data } (by simp) rfl
                clear hd hC
                simp only [QTail.putA, Nat.reduceAdd, Act.put, List.setIfInBounds_toArray, List.set_cons_succ, List.set_cons_zero]
                rw [e3]
                rw [e4]
                go_wp2
                exact ⟨rfl, Below.refl _ _⟩
              · have e5 : vs 5 = .pointer (some ⟨nb, no + j * 4, none⟩) := hd { on := 5, ground := Ground.data } (by simp) rfl
                replace y0 := ac hC y0
                replace y1 := ac hC y1
                replace y2 := ac hC y2
                replace y3 := ac hC y3
                clear hd hC
                simp only [QTail.putA, Nat.reduceAdd, Act.put, List.setIfInBounds_toArray, List.set_cons_succ, List.set_cons_zero]
                rw [e5]
                go_wp2
                exact ⟨rfl, Below.refl _ _⟩
              · have e6 : vs 6 = .agg #[.bool s.wr, .int .u8 s.kd, .string s.nm, .slice ia il ic] := hd { on := 6, ground := Ground.data } (by simp) rfl
                have hC' := Lib.hid hC
                have C21 := Lib.hid (C21a.out W' hC)
                clear hd hC
                simp only [QTail.putA, Nat.reduceAdd, Act.put, List.setIfInBounds_toArray, List.set_cons_succ, List.set_cons_zero]
                rw [e6]
                go_wp2_with (go_at_call 21; (with_reducible refine C21.out.mono ?_); rintro e w5 ⟨t, rfl, tk, tg, tb⟩; replace tg := Lib.hid tg; replace tb := Lib.hid tb)
                exact ⟨⟨t, rfl, tk, G1.keep.wide tg.out (fun b _ q => by have := hC'.out.size; show b < W'.heap.size; omega)⟩, tb.out⟩
              · obtain ⟨t, e7, tk, tg⟩ : ∃ t : SubR SK, vs 7 = .agg t.arr ∧ t.k = s.key ∧ G1 (fun b => b < W4.heap.size) W' t := hd { on := 7, ground := Ground.data } (by simp) rfl
                replace tg := Lib.hid tg
                have hC' := Lib.hid hC
                clear hd hC
                simp only [QTail.putA, Nat.reduceAdd, Act.put, List.setIfInBounds_toArray, List.set_cons_succ, List.set_cons_zero]
                rw [e7]
                go_wp2
                exact ⟨⟨t, _, rfl, hC'.out.size, by show (W'.heap.push _)[W'.heap.size]? = _; simp, tk, G1.after (ba _ _) tg.out⟩, ba _ _⟩
            · clear hps
              intro vs W3 b3 hR
              have e1 : vs 1 = .slice sa j sc := hR 1 (by omega)
              obtain ⟨t, bk, e8, hbk, hnb, tk, tg⟩ : ∃ (t : SubR SK) (bk : Nat), vs 8 = .slice (some ⟨bk, 0, none⟩) 1 1 ∧ W4.heap.size ≤ bk ∧ NewAt W3 bk t.arr 111 ∧ t.k = s.key ∧ G1 (fun b => b < W4.heap.size) W3 t := hR 8 (by omega)
              replace tg := Lib.hid tg
              replace hnb := Lib.hid hnb
              replace b3 := Lib.hid b3
              clear hR
              simp only [List.take_succ_cons, List.take_zero, List.drop_succ_cons, List.drop_zero, QTail.putA, Nat.reduceAdd, Act.put, List.setIfInBounds_toArray, List.set_cons_succ, List.set_cons_zero]
              rw [e1]
              rw [e8]
              clear e1 e8
              generalize vs 0 = zz0
              generalize vs 2 = zz2
              generalize vs 3 = zz3
              generalize vs 4 = zz4
              generalize vs 5 = zz5
              generalize vs 6 = zz6
              generalize vs 7 = zz7
              clear vs
              have zb3 := b3.out.size
              obtain ⟨h1, h2, ls, ms, h3, h4, h5, h6, h7, h8, h9, h10, h11, h12⟩ := hco.out
              replace h1 := Lib.hid h1; replace h2 := Lib.hid h2; replace h3 := Lib.hid h3; replace h4 := Lib.hid h4; replace h5 := Lib.hid h5; replace h6 := Lib.hid h6; replace h7 := Lib.hid h7; replace h8 := Lib.hid h8; replace h9 := Lib.hid h9; replace h10 := Lib.hid h10; replace h11 := Lib.hid h11; replace h12 := Lib.hid h12
              have hO3 := Lib.hid (own_below h4.out b3.out)
              obtain ⟨_, w1, f1⟩ := r4.out 1 (by omega)
              have w1' := ac b3.out w1
              have f1' := af b3.out w1 f1
              clear w1 f1
              have hVn : Hid (¬ Ob (.slice sa j sc) V) := Lib.hid (fun q => h5.out V q (Nat.le_refl _))
              have hTn : Hid (¬ Ob (.slice sa j sc) T) := Lib.hid (fun q => h5.out T q (by show T ≤ V; omega))
              go_upto_region 13 with (at_builtin; go_loud (refine app1g (W := W3) (.tmp 46) (.tmp 53) 97 111 (V + 1) 3 24 #[.nilIface, .int .i32 0, .int .i32 0] t.arr bk _ j _ rfl rfl rfl rfl hnb.out Try.underlying97 info111 rfl (by omega) hO3.out rfl (SubR.one t) hjn (by omega) (by omega) ?_); intro v' W5 hO5 hkp hnew; obtain ⟨a5, c5, hu⟩ := own_head hO5; subst hu; have w2' := hkp.cell w1' hVn.out; have f2' := hkp.froz w1' f1' hVn.out; replace hO5 := Lib.hid hO5; replace hkp := Lib.hid hkp; replace hnew := Lib.hid hnew)
              refine wp_gen (fun W6 hW => ?_)
              have z35 := hkp.out.size
              obtain ⟨s6, r6, k6⟩ := put1z _ (room_kept (r4.out.after b3.out) hkp.out hVn.out) ((s4.out.after b3.out).keep (Kc.of_kp hkp.out (fun _ _ q => q)) hVn.out) hW
              clear hW
              have sT6 := ((sT.out.after b3.out).keep (Kc.of_kp hkp.out (fun _ _ q => q)) hTn.out).keep (Kc.of_kp k6 (fun _ _ q => q)) (by show ¬ T = V; omega)
              have hst := RCo1.step (nn := xam) h1.out h2.out h3.out h4.out h5.out h6.out h7.out h8.out h9.out h11.out h12.out b3.out tg.out hO5.out hkp.out hnew.out (fun b q => by have : b ≤ V := q; omega)
              rw [h10.out, tk, ← htj.out] at hst
              have RR : ∃ (j' : Nat) (sa : Option Addr) (sc : Nat), j' ≤ m ∧ Value.int .i64 ((j : Int) + 1) = .int .i64 j' ∧ Seg W6 V 0 [tv, .slice sa j' sc, .slice na xam nc, .int .i32 0, .int .u8 (combZ xcb), .bool false] ∧ Room W6 V 6 ∧ Seg W6 T 0 [.int .u8 xcb, .int .u8 xty, .int .u8 xam, .slice (some ⟨nb, no, none⟩) m c'] ∧ RCo1 (V + 1) (fun b => b ≤ V) W6 tv (.slice sa j' sc) (.slice na xam nc) j' (tyK xty) xam ((xss.take j').map Zs.key) ∧ Below Wr.heap.size Wr W6 := ⟨j + 1, a5, c5, by omega, by go_num, s6, r6, sT6, hst.keep k6 (fun b _ e => by show b ≤ V; have : b = V := e; omega), b4.out.trans ((b3.out.mono b4.out.size).trans ((hkp.out.below (by have := b4.out.size; omega) (fun b q => by have := (h4.out.lt b q).1; have := hTr.out; omega)).trans (k6.below (by have := b4.out.size; omega) (fun b e => by have := hTr.out; omega))))⟩
              clear hst s6 r6 k6 sT6
              replace RR := Lib.hid RR
              go_wp2
              exact ⟨RR.out, by simp [intOf] <;> omega⟩
          · obtain rfl : j = m := by omega
            have hOr : Hid (W4.ownsRow (P + 1) 102 6 (.slice (some ⟨g, 0, none⟩) k c1) k (flat MR.cells rs)) := Lib.hid (own_below hO.out.1 b4.out)
            have htv : tv.oneCell' = true := by
              have := hco.out.1
              revert this
              cases tyK xty with
              | none => intro q; rw [show tv = .pointer none from q]; rfl
              | some s => intro q; obtain ⟨B, e, -⟩ := q; rw [e]; rfl
            have hzw : P + 1 ≤ W4.heap.size := by have := b4.out.size; have := hTr.out; omega
            go_wp2_with (at_builtin; go_loud (refine app1n (w := W4) (.tmp 56) (.tmp 58) 30 102 (P + 1) 6 72 #[.pointer none, .slice none 0 0, .slice none 0 0, .int .i32 0, .int .u8 0, .bool false] #[tv, .slice sa j sc, .slice na xam nc, .int .i32 0, .int .u8 (combZ xcb), .bool false] _ k _ rfl rfl rfl rfl rfl Try.underlying30 info102 rfl (by omega) hOr.out rfl (arr6_one htv rfl rfl rfl rfl rfl) (by omega) (by omega) hzw ?_); intro v2 w8 hO8 hkp hnew; obtain ⟨g8, c8, hu, -⟩ := own_some hO8 (by omega); subst hu; replace hO8 := Lib.hid hO8; replace hkp := Lib.hid hkp; replace hnew := Lib.hid hnew)
            have hst := RMk2.step hO.out (by have := hTr.out; omega) b4.out (hco.out.shut (cb := combZ xcb) (by have := hTr.out; omega) (fun b q => by show b ≤ V; have := hTr.out; omega)) hO8.out hkp.out hnew.out
            have hzz : (l.take k).map Zc.key ++ [(⟨combZ xcb, tyK xty, xam, (xss.take j).map Zs.key⟩ : Ck SK)] = (l.take (k + 1)).map Zc.key := by
              have hxt : xss.take j = xss := List.take_of_length_le (by rw [hm.out]; exact Nat.le_refl _)
              rw [htk.out, hxt]; rfl
            rw [hzz] at hst
            have hBB : Below w.heap.size w w8 := hB.out.trans ((b4.out.mono (by have := hTr.out; omega)).trans (hkp.out.below (by rw [hPw.out]; omega) (fun b q => by have := (hO.out.1.lt b q).1; have := hPw.out; omega)))
            have hob8 : ¬ Ob (.slice (some ⟨g8, 0, none⟩) (k + 1) c8) P := fun q => by
              rcases hnew.out P q with q | q
              · exact hnob.out q
              · have := b4.out.size; have := hTr.out; omega
            exact ⟨⟨k + 1, _, _, _, g8, c8, by omega, by go_num, rfl, hst, hBB, hkp.out.cell (ac b4.out hTT.out.1) hnob.out, hkp.out.froz (ac b4.out hTT.out.1) (af b4.out hTT.out.1 hTT.out.2) hnob.out, hob8⟩, by simp [intOf] <;> omega⟩
    · obtain rfl : k = n := by omega
      go_wp2
      have K : Kp (fun b => b = P) Wr (Wr.setCell ⟨P, 0, none⟩ (.slice (some ⟨g, 0, none⟩) k c1)) := (Kp.refl Wr).set _ _ (.inl rfl)
      have hlk : l.take k = l := List.take_of_length_le (by rw [hn.out]; exact Nat.le_refl _)
      rw [hlk] at hO
      obtain ⟨h1, h2, h3, h4, h5, h6, h7⟩ := hO.out
      refine bodyPost_ret (v := .agg #[.slice (some ⟨g, 0, none⟩) k c1]) (by simp [results, Try.results10, go_sem, t2]) rfl ⟨g, c1, los, his, rs, rfl, ?_, hB.out.trans (K.below hzr (fun b e => by have := hPw.out; omega))⟩
      rw [hPw.out]
      exact (hO.out.keep K (fun b e => by omega)).base (by omega)
end Go.Proofs.Ytjigljpodkfchad
