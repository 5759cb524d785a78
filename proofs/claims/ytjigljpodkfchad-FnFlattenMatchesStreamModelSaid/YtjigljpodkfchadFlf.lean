/- FnFlattenMatchesStreamModel: zzBuildSub; words on the outer compounds. -/
import Derived.Test.YtjigljpodkfchadFle
set_option linter.unusedVariables false
set_option linter.unusedSimpArgs false
namespace Go.Proofs.Ytjigljpodkfchad
open Go.RowKit
set_option maxRecDepth 100000
set_option maxHeartbeats 40000000
def WrpP (kd : Int) (v : Value) (w : World) (e : Ending) (w' : World) : Prop := ∃ Z, e = .returned (.agg #[.iface 128 (.pointer (some ⟨Z, 0, none⟩)), .int .i32 0, .int .i32 0]) ∧ w.heap.size ≤ Z ∧ Seg w' Z 0 [v, .string ⟨#[]⟩, .string ⟨#[]⟩, .int .u8 kd] ∧ Below w.heap.size w w'
theorem wrap31_c (kd : Int) (Y c1 : Nat) (w : World) : Calls Try.prog 31 #[.int .u8 kd, .slice (some ⟨Y, 0, none⟩) 1 c1] w (WrpP kd (.slice (some ⟨Y, 0, none⟩) 1 c1) w) := by
  go_enter Try.func31, Try.ntmps31
  go_wp2
  exact bodyPost_ret (v := .agg #[.iface 128 (.pointer (some ⟨w.heap.size + 1, 0, none⟩)), .int .i32 0, .int .i32 0]) (by simp [results, Try.results31, go_sem]) rfl ⟨_, rfl, by omega, segN _ _ [.slice (some ⟨Y, 0, none⟩) 1 c1, .string ⟨#[]⟩, .string ⟨#[]⟩, .int .u8 kd] _, (ba _ _).alloc (by simp) _⟩
def InnV (M : Nat) (ks : List (Ck ByteArray)) (v : Value) (W : World) : Prop := ∃ (Y c1 g c : Nat) (ms : Nat → Nat) (rs : List MR), v = .slice (some ⟨Y, 0, none⟩) 1 c1 ∧ M ≤ Y ∧ M ≤ g ∧ W.cell? ⟨Y, 0, none⟩ = some (.slice (some ⟨g, 0, none⟩) ks.length c) ∧ g < W.heap.size ∧ ks.length ≤ c ∧ (∀ k, ms k ≤ ms (k + 1)) ∧ RIn (fun b => b < M) W g ms rs ks
theorem InnV.after {M : Nat} {ks : List (Ck ByteArray)} {v : Value} {W W' : World} (hb : Below W.heap.size W W') (h : InnV M ks v W) : InnV M ks v W' := by
  obtain ⟨Y, c1, g, c, ms, rs, e1, e2, e3, e4, e5, e6, e7, e8⟩ := h
  exact ⟨Y, c1, g, c, ms, rs, e1, e2, e3, ac hb e4, Nat.lt_of_lt_of_le e5 hb.size, e6, e7, e8.keep (S := fun _ => False) (by omega) (Kp.of hb) (fun _ _ q => q.elim) (fun _ _ q => q)⟩
def Sub1P (k : SK) (w : World) (e : Ending) (w' : World) : Prop := ∃ s : SubR SK, e = .returned (.agg s.arr) ∧ s.k = k ∧ G1 (fun b => b < w.heap.size) w' s ∧ Below w.heap.size w w'
theorem G1.after {M : Nat} {s : SubR SK} {W W' : World} (hb : Below W.heap.size W W') (h : G1 (fun b => b < M) W s) : G1 (fun b => b < M) W' s := G1.keep _ _ (fun _ => False) _ _ _ h (Kp.of hb) (fun _ _ q => q.elim) (fun _ _ q => q)
theorem sub21_c (x : Zs) (a' : Option Addr) (c' : Nat) (hkd : U8 x.kd) (hnm : x.nm.size ≤ maxLen) (hn2 : x.inn.length ≤ 1048576) (hin : ∀ y ∈ x.inn, y.nm.length ≤ 1048576) (w : World) (hI : RI w a' x.inn) : Calls Try.prog 21 #[.agg #[.bool x.wr, .int .u8 x.kd, .string x.nm, .slice a' x.inn.length c']] w (Sub1P x.key w) := by
  obtain ⟨wr, kd, nm, inn⟩ := x
  simp only at hkd hnm hn2 hin hI ⊢
  obtain ⟨n, hn⟩ : ∃ y, inn.length = y := ⟨_, rfl⟩
  rw [hn] at hn2 ⊢
  replace hn := Lib.hid hn
  replace hI := Lib.hid hI
  replace hin := Lib.hid hin
  have C32 := Lib.hid (fun W => kind32_c kd hkd.1 hkd.2 W)
  cases wr
  · have C34 := Lib.hid (fun W => bare34_c nm hnm W)
    go_enter Try.func21, Try.ntmps21
    go_upto_region 1 with fail
    refine wp_gen (fun W hW => ?_)
    have bW : Hid (Below w.heap.size w W) := Lib.hid (by rw [hW]; exact (ba _ _).alloc (by simp) _)
    have sP : Hid (Seg W w.heap.size 0 [.bool false, .int .u8 kd, .string nm, .slice a' n c']) := Lib.hid (by rw [hW]; exact (Seg.new _ _ _).after (ba _ _))
    have rR : Hid (Room W (w.heap.size + 1) 3) := Lib.hid (by
      rw [hW]
      have := Room.newN (w.alloc (.cells #[.bool false, .int .u8 kd, .string nm, .slice a' n c'] 45)) #[.nilIface, .int .i32 0, .int .i32 0] (n := 3) rfl 111
      simpa using this)
    have zW : W.heap.size = w.heap.size + 2 := by rw [hW]; simp
    clear hW
    obtain ⟨p0, p1, p2, p3⟩ := segs4' sP.out
    simp only [Nat.zero_add] at p0 p1 p2 p3
    obtain ⟨P, hP⟩ : ∃ y, w.heap.size = y := ⟨_, rfl⟩
    obtain ⟨R, hR⟩ : ∃ y, P + 1 = y := ⟨_, rfl⟩
    have hPw := Lib.hid hP
    rw [hP] at p0 p1 p2 p3 rR ⊢
    rw [hR] at rR
    rw [hR]
    have hPR : P < R := by omega
    have hRW : R < W.heap.size := rR.out.lt (by omega)
    have hPW : w.heap.size ≤ R := by omega
    clear hP hR sP
    obtain ⟨_, w0, f0⟩ := rR.out 0 (by omega); obtain ⟨_, w1, f1⟩ := rR.out 1 (by omega); obtain ⟨_, w2, f2⟩ := rR.out 2 (by omega)
    go_wp2_with (go_at_call 34; (with_reducible refine (C34.out _).mono ?_); rintro e w7 ⟨s, rfl, sk, sg, b7⟩; have f0' := af b7 w0 f0; have f1' := af b7 w1 f1; have f2' := af b7 w2 f2; replace w0 := ac b7 w0; replace w1 := ac b7 w1; replace w2 := ac b7 w2; replace sg := Lib.hid sg; replace b7 := Lib.hid b7)
    have Z : ∀ (w1 : World) (j : Nat) (v : Value), Kp (fun b => b = R) w7 w1 → Kp (fun b => b = R) w7 (w1.setCell ⟨R, j, none⟩ v) := fun w1 j v hh => hh.set _ _ (.inl rfl)
    have K := Z _ 2 (.int .i32 0) (Z _ 1 (.int .i32 0) (Z _ 0 (.iface s.t s.p) (Kp.refl w7)))
    refine bodyPost_ret (v := .agg #[.iface s.t s.p, .int .i32 0, .int .i32 0]) (by simp [results, Try.results21, go_sem, w0, w1, w2]) rfl ⟨⟨s.t, s.p, .inl s.k⟩, rfl, by rw [sk]; rfl, ?_, bW.out.trans ((b7.out.mono bW.out.size).trans (K.below (by have := b7.out.size; omega) (fun b e => by omega)))⟩
    exact Gn.keep _ _ _ _ _ _ sg.out K (fun b _ e => by show b < W.heap.size; omega) (fun b _ q => by have : b < w.heap.size := q; show b < W.heap.size; omega)
  · skip
    go_enter Try.func21, Try.ntmps21
    go_upto_region 2 with fail
    refine wp_gen (fun W hW => ?_)
    have bW : Hid (Below w.heap.size w W) := Lib.hid (by rw [hW]; exact (ba _ _).alloc (by simp) _)
    have sP : Hid (Seg W w.heap.size 0 [.bool true, .int .u8 kd, .string nm, .slice a' n c']) := Lib.hid (by rw [hW]; exact (Seg.new _ _ _).after (ba _ _))
    have rR : Hid (Room W (w.heap.size + 1) 3) := Lib.hid (by
      rw [hW]
      have := Room.newN (w.alloc (.cells #[.bool true, .int .u8 kd, .string nm, .slice a' n c'] 45)) #[.nilIface, .int .i32 0, .int .i32 0] (n := 3) rfl 111
      simpa using this)
    have zW : W.heap.size = w.heap.size + 2 := by rw [hW]; simp
    clear hW
    obtain ⟨p0, p1, p2, p3⟩ := segs4' sP.out
    simp only [Nat.zero_add] at p0 p1 p2 p3
    obtain ⟨P, hP⟩ : ∃ y, w.heap.size = y := ⟨_, rfl⟩
    obtain ⟨R, hR⟩ : ∃ y, P + 1 = y := ⟨_, rfl⟩
    have hPw := Lib.hid hP
    rw [hP] at p0 p1 p2 p3 rR ⊢
    rw [hR] at rR
    rw [hR]
    have hPR : P < R := by omega
    have hRW : R < W.heap.size := rR.out.lt (by omega)
    have hPW : w.heap.size ≤ R := by omega
    clear hP hR sP
    replace hI := Lib.hid (hI.out.after bW.out)
    obtain ⟨M, hM⟩ : ∃ y, W.heap.size = y := ⟨_, rfl⟩
    have hMw := Lib.hid hM
    clear hM
    have hps : PsOk [(fun v _ => v = .pointer (some ⟨P, 1, none⟩)), (fun v _ => v = .int .u8 kd), (fun v _ => v = .int .u8 (kindZ kd)), (fun v _ => v = .pointer (some ⟨P, 3, none⟩)), (fun v _ => v = .slice a' n c'), (fun v W => InnV M (inn.map Zi.key) v W), (fun v W => ∃ s : SubR SK, v = .agg s.arr ∧ s.k = .inr (kindZ kd, inn.map Zi.key) ∧ G1 (fun b => b < M) W s)] := PsOk.eq (PsOk.eq (PsOk.eq (PsOk.eq (PsOk.eq (PsOk.cons (fun v W W' hb h => InnV.after hb h) (PsOk.cons (fun v W W' hb ⟨s, e1, e2, e3⟩ => ⟨s, e1, e2, G1.after hb e3⟩) (PsOk.nil)))))))
    refine QTail.drawn_rel 7 (PsR [(fun v _ => v = .pointer (some ⟨P, 1, none⟩)), (fun v _ => v = .int .u8 kd), (fun v _ => v = .int .u8 (kindZ kd)), (fun v _ => v = .pointer (some ⟨P, 3, none⟩)), (fun v _ => v = .slice a' n c'), (fun v W => InnV M (inn.map Zi.key) v W), (fun v W => ∃ s : SubR SK, v = .agg s.arr ∧ s.k = .inr (kindZ kd, inn.map Zi.key) ∧ G1 (fun b => b < M) W s)]) (by kernel_rfl) (by kernel_rfl) (fun i v W W' h1 h2 => PsR.after hps i v W W' h1 h2) ?_ ?_
    · clear hps
      simp only [List.take_succ_cons, List.take_zero]
      refine ⟨?_, ?_, ?_, ?_, ?_, ?_, ?_, trivial⟩
      all_goals intro vs W' hC hd
      · clear hd hC
        simp only [QTail.putA, Nat.reduceAdd, Act.put, List.setIfInBounds_toArray, List.set_cons_succ, List.set_cons_zero]
        go_wp2
        exact ⟨rfl, Below.refl _ _⟩
      · have e0 : vs 0 = .pointer (some ⟨P, 1, none⟩) := hd { on := 0, ground := Ground.data } (by simp) rfl
        replace p1 := ac hC p1
        clear hd hC
        simp only [QTail.putA, Nat.reduceAdd, Act.put, List.setIfInBounds_toArray, List.set_cons_succ, List.set_cons_zero]
        rw [e0]
        go_wp2
        exact ⟨rfl, Below.refl _ _⟩
      · have e1 : vs 1 = .int .u8 kd := hd { on := 1, ground := Ground.data } (by simp) rfl
        clear hd hC
        simp only [QTail.putA, Nat.reduceAdd, Act.put, List.setIfInBounds_toArray, List.set_cons_succ, List.set_cons_zero]
        rw [e1]
        go_wp2_with (go_at_call 32; (with_reducible refine (C32.out _).mono ?_); rintro e w5 ⟨rfl, rfl⟩)
        exact ⟨rfl, Below.refl _ _⟩
      · clear hd hC
        simp only [QTail.putA, Nat.reduceAdd, Act.put, List.setIfInBounds_toArray, List.set_cons_succ, List.set_cons_zero]
        go_wp2
        exact ⟨rfl, Below.refl _ _⟩
      · have e3 : vs 3 = .pointer (some ⟨P, 3, none⟩) := hd { on := 3, ground := Ground.data } (by simp) rfl
        replace p3 := ac hC p3
        clear hd hC
        simp only [QTail.putA, Nat.reduceAdd, Act.put, List.setIfInBounds_toArray, List.set_cons_succ, List.set_cons_zero]
        rw [e3]
        go_wp2
        exact ⟨rfl, Below.refl _ _⟩
      · have e4 : vs 4 = .slice a' n c' := hd { on := 4, ground := Ground.data } (by simp) rfl
        have hC' := Lib.hid hC
        have C33 := Lib.hid (inner33_c inn n hn.out hn2 hin.out a' c' W' (hI.out.after hC))
        clear hd hC
        simp only [QTail.putA, Nat.reduceAdd, Act.put, List.setIfInBounds_toArray, List.set_cons_succ, List.set_cons_zero]
        rw [e4]
        go_wp2_with (go_at_call 33; (with_reducible refine C33.out.mono ?_); rintro e w5 ⟨Y, c1, g, c, ms, rs, rfl, q2, q3, q4, q5, q6, q7, q8, tb⟩; replace q4 := Lib.hid q4; replace q7 := Lib.hid q7; replace q8 := Lib.hid q8; replace tb := Lib.hid tb)
        exact ⟨⟨Y, c1, g, c, ms, rs, rfl, by have := hC'.out.size; have := hMw.out; omega, by have := hC'.out.size; have := hMw.out; omega, q4.out, q5, q6, q7.out, q8.out.keep (S := fun _ => False) (by show ¬ g < W'.heap.size; omega) (Kp.refl _) (fun _ _ q => q.elim) (fun b _ q => by have := hC'.out.size; have := hMw.out; have : b < M := q; show b < W'.heap.size; omega)⟩, tb.out⟩
      · have e2 : vs 2 = .int .u8 (kindZ kd) := hd { on := 2, ground := Ground.data } (by simp) rfl
        obtain ⟨Y, c1, g, c, ms, rs, e5, q2, q3, q4, q5, q6, q7, q8⟩ : InnV M (inn.map Zi.key) (vs 5) W' := hd { on := 5, ground := Ground.data } (by simp) rfl
        replace q4 := Lib.hid q4; replace q7 := Lib.hid q7; replace q8 := Lib.hid q8
        have hC' := Lib.hid hC
        have C31 := Lib.hid (wrap31_c (kindZ kd) Y c1 W')
        clear hd hC
        simp only [QTail.putA, Nat.reduceAdd, Act.put, List.setIfInBounds_toArray, List.set_cons_succ, List.set_cons_zero]
        rw [e2]
        rw [e5]
        go_wp2_with (go_at_call 31; (with_reducible refine C31.out.mono ?_); rintro e w5 ⟨Z, rfl, z1, z2, tb⟩; replace z2 := Lib.hid z2; replace tb := Lib.hid tb)
        have hz := hC'.out.size
        have hz2 := hMw.out
        exact ⟨⟨⟨128, .pointer (some ⟨Z, 0, none⟩), .inr (kindZ kd, inn.map Zi.key)⟩, rfl, rfl, ⟨rfl, Z, Y, c1, g, c, ms, rs, rfl, (by show ¬ Z < M; omega), (by show ¬ Y < M; omega), (by show ¬ g < M; omega), z2.out, ac tb.out q4.out, Nat.lt_of_lt_of_le q5 tb.out.size, q6, q7.out, q8.out.keep (S := fun _ => False) (by show ¬ g < M; omega) (Kp.of tb.out) (fun _ _ q => q.elim) (fun _ _ q => q)⟩⟩, tb.out⟩
    · clear hps
      intro vs W3 b3 hR
      obtain ⟨s, e6, sk, sg⟩ : ∃ s : SubR SK, vs 6 = .agg s.arr ∧ s.k = .inr (kindZ kd, inn.map Zi.key) ∧ G1 (fun b => b < M) W3 s := hR 6 (by omega)
      replace sg := Lib.hid sg
      replace b3 := Lib.hid b3
      clear hR
      simp only [List.take_succ_cons, List.take_zero, List.drop_succ_cons, List.drop_zero, QTail.putA, Nat.reduceAdd, Act.put, List.setIfInBounds_toArray, List.set_cons_succ, List.set_cons_zero]
      rw [e6]
      clear e6
      generalize vs 0 = zz0
      generalize vs 1 = zz1
      generalize vs 2 = zz2
      generalize vs 3 = zz3
      generalize vs 4 = zz4
      generalize vs 5 = zz5
      clear vs
      have z3 := b3.out.size
      obtain ⟨_, w0, f0⟩ := (rR.out.after b3.out) 0 (by omega); obtain ⟨_, w1, f1⟩ := (rR.out.after b3.out) 1 (by omega); obtain ⟨_, w2, f2⟩ := (rR.out.after b3.out) 2 (by omega)
      go_wp2
      have Z : ∀ (w1 : World) (j : Nat) (v : Value), Kp (fun b => b = R) W3 w1 → Kp (fun b => b = R) W3 (w1.setCell ⟨R, j, none⟩ v) := fun w1 j v hh => hh.set _ _ (.inl rfl)
      have K := Z _ 2 (.int .i32 0) (Z _ 1 (.int .i32 0) (Z _ 0 (.iface s.t s.p) (Kp.refl W3)))
      refine bodyPost_ret (v := .agg #[.iface s.t s.p, .int .i32 0, .int .i32 0]) (by simp [results, Try.results21, go_sem, w0, w1, w2]) rfl ⟨s, rfl, sk, ?_, bW.out.trans ((b3.out.mono bW.out.size).trans (K.below (by omega) (fun b e => by omega)))⟩
      exact G1.keep _ _ _ _ _ _ sg.out K (fun b _ e => by show b < M; have := hMw.out; omega) (fun b _ q => by have : b < w.heap.size := q; have := hMw.out; show b < M; omega)
end Go.Proofs.Ytjigljpodkfchad
