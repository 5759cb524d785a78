/- FnSubstituteAmpersandsClosedForm: the maker, for none or many parents. -/
import Derived.Test.YtjigljpodkfchaaFmtSuf
set_option linter.unusedVariables false
set_option linter.unusedSimpArgs false
namespace Go.Proofs.YtjigljpodkfchaaFmt
open Go.RowKit
set_option maxRecDepth 100000
set_option maxHeartbeats 4000000
/-- the leading combinator of the last -/
def lastCb {K : Type} (l : List (CxR K)) : Int := match l.getLast? with | none => 0 | some x => match x.ls with | [] => 0 | s :: _ => s.cb
theorem lastCb_take {K : Type} {l : List (CxR K)} {k : Nat} {x : CxR K} {s : CpR K} {t : List (CpR K)} (h : l[k]? = some x) (hx : x.ls = s :: t) : lastCb (l.take (k + 1)) = s.cb := by
  rw [List.take_add_one, h]
  simp [lastCb, hx]
def R21 (C N n : Nat) (k : Nat) (x : Value) (ky : List (CK ByteArray)) (M : Nat) (j : Nat) (v : Value) (W : World) : Prop :=
  (j = 0 → v = .slice (some ⟨N, 0, none⟩) n n) ∧ (j = 1 → v = .int .i64 k) ∧ (j = 2 → v = x) ∧ (j = 3 → ∃ r : CxR ByteArray, v = .agg r.arr ∧ r.key = ky ∧ GCx G0 (fun b => b < M) W r) ∧ (j = 4 → v = .pointer (some ⟨N, k, none⟩))
theorem R21.after {C N n : Nat} {k : Nat} {x : Value} {ky : List (CK ByteArray)} {M : Nat} (j : Nat) (v : Value) (W W' : World) (hb : Below W.heap.size W W') (h : R21 C N n k x ky M j v W) : R21 C N n k x ky M j v W' := by
  obtain ⟨h0, h1, h2, h3, h4⟩ := h
  refine ⟨h0, h1, h2, fun q => ?_, h4⟩
  obtain ⟨r, e1, e2, e3⟩ := h3 q
  exact ⟨r, e1, e2, GCx.keep G0.keep _ _ _ _ _ e3 (Kc.of_below hb) (fun _ _ q => q)⟩
def MkP (ks : List (List (CK ByteArray))) (n : Nat) (lc : Int) (w : World) (e : Ending) (w' : World) : Prop := ∃ (B C : Nat) (a : Option Addr) (c : Nat) (ls : List (CxR ByteArray)), e = .returned (.func (.func 31) #[] #[.pointer (some ⟨B, 0, none⟩), .pointer (some ⟨C, 0, none⟩)]) ∧ w'.cell? ⟨B, 0, none⟩ = some (.int .i32 0) ∧ w'.cell? ⟨B, 1, none⟩ = some (.int .u8 lc) ∧ w'.cell? ⟨C, 0, none⟩ = some (.slice a n c) ∧ w.heap.size ≤ B ∧ w.heap.size ≤ C ∧ RCx G0 (fun b => b < w.heap.size) w' a ls ∧ ls.length = n ∧ ls.map CxR.key = ks ∧ Below w.heap.size w w'
theorem maker21m_c (p : Value) (ls : List (CxR ByteArray)) (a : Option Addr) (c n : Nat) (hn : ls.length = n) (hn1 : n ≠ 1) (hsz : n ≤ 1048576) (hin : ∀ x ∈ ls, x.ls ≠ [] ∧ x.ls.length ≤ 1048576 ∧ ∀ s ∈ x.ls, s.nn = 0 ∧ s.ls.length ≤ 1048576) (O : Nat → Prop) (w : World) (h : RCx G0 O w a ls) : Calls Tryf.prog 21 #[p, .slice a n c] w (MkP (ls.map CxR.key) n (lastCb ls) w) := by
  replace hn := Lib.hid hn
  replace h := Lib.hid h
  replace hin := Lib.hid hin
  have mk := make_z (P := Tryf.prog) (b := 24) #[.slice none 0 0] Tryf.underlying42 info110 n (by omega) (by omega)
  simp only [Nat.mul_one] at mk
  have hni : ((n : Int) == 1) = false := by simp; omega
  go_enter Tryf.func21, Tryf.ntmps21
  go_upto_region 5 with fail
  clear mk
  refine wp_gen (fun W hW => ?_)
  have bW : Hid (Below w.heap.size w W) := Lib.hid (by rw [hW]; exact (((ba _ _).alloc (by simp) _).alloc (by simp; omega) _).alloc (by simp; omega) _)
  have p0 : W.cell? ⟨w.heap.size, 0, none⟩ = some (.slice a n c) := by rw [hW]; simp [go_sem]
  have b0 : W.cell? ⟨w.heap.size + 1, 0, none⟩ = some (.int .i32 0) := by rw [hW]; simp [go_sem]
  have b1 : W.cell? ⟨w.heap.size + 1, 1, none⟩ = some (.int .u8 0) := by rw [hW]; simp [go_sem]
  have rB : Hid (Room W (w.heap.size + 1) 2) := Lib.hid (by
    rw [hW]
    have := ((Room.newN (w.alloc (.cells #[Value.slice a n c] 42)) #[Value.int .i32 0, Value.int .u8 0] (n := 2) rfl 38).after (ba _ (.cells (madeCells #[.slice none 0 0] n) 110))).after (ba _ (.cells #[Value.slice (some ⟨w.heap.size + 1 + 1, 0, none⟩) n n] 42))
    simpa using this)
  have c0 : W.cell? ⟨w.heap.size + 1 + 1 + 1, 0, none⟩ = some (.slice (some ⟨w.heap.size + 1 + 1, 0, none⟩) n n) := by rw [hW]; simp [go_sem]
  have rN : Hid (Room W (w.heap.size + 1 + 1) n) := Lib.hid (by
    rw [hW]
    have := (Room.made ((w.alloc (.cells #[Value.slice a n c] 42)).alloc (.cells #[Value.int .i32 0, Value.int .u8 0] 38)) #[.slice none 0 0] n 110).after (ba _ (.cells #[Value.slice (some ⟨w.heap.size + 1 + 1, 0, none⟩) n n] 42))
    simpa using this)
  have zW : W.heap.size = w.heap.size + 4 := by rw [hW]; simp
  clear hW
  have hCQ : Hid (∀ B C a' ls' W', w.heap.size ≤ B → w.heap.size ≤ C → W'.cell? ⟨B, 0, none⟩ = some (.int .i32 0) → W'.cell? ⟨B, 1, none⟩ = some (.int .u8 (lastCb ls)) → W'.cell? ⟨C, 0, none⟩ = some (.slice a' n n) → RCx G0 (fun b => b < w.heap.size) W' a' ls' → ls'.length = n → ls'.map CxR.key = ls.map CxR.key → Below w.heap.size w W' → MkP (ls.map CxR.key) n (lastCb ls) w (.returned (.func (.func 31) #[] #[.pointer (some ⟨B, 0, none⟩), .pointer (some ⟨C, 0, none⟩)])) W') := Lib.hid (fun B C a' ls' W' q1 q2 q3 q4 q5 q6 q7 q8 q9 => ⟨B, C, a', n, ls', rfl, q3, q4, q5, q1, q2, q6, q7, q8, q9⟩)
  generalize MkP (ls.map CxR.key) n (lastCb ls) w = QQ at *
  obtain ⟨P, hP⟩ : ∃ y, w.heap.size = y := ⟨_, rfl⟩
  rw [hP] at p0 b0 b1 rB c0 rN bW hCQ zW ⊢
  have hPw := Lib.hid hP
  clear hP
  obtain ⟨B, hB⟩ : ∃ y, P + 1 = y := ⟨_, rfl⟩
  obtain ⟨N, hN⟩ : ∃ y, B + 1 = y := ⟨_, rfl⟩
  obtain ⟨C, hC⟩ : ∃ y, N + 1 = y := ⟨_, rfl⟩
  simp only [hB, hN, hC] at b0 b1 rB c0 rN ⊢
  have zPB : P < B := by omega
  have zBN : B < N := by omega
  have zNC : N < C := by omega
  have zCW : C < W.heap.size := by omega
  clear hB hN hC zW
  go_wp2
  go_loopw [18] (fun i wr => ∃ (k : Nat) (ls' : List (CxR ByteArray)), k ≤ n ∧ i = .int .i64 k ∧ Room wr N n ∧ (∀ i s, ls'[i]? = some s → wr.cell? ⟨N, i, none⟩ = some (.slice s.a s.ls.length s.c)) ∧ ls'.length = k ∧ (∀ s ∈ ls', GCx G0 (fun b => b = N ∨ b < N) wr s) ∧ ls'.map CxR.key = (ls.take k).map CxR.key ∧ wr.cell? ⟨B, 0, none⟩ = some (.int .i32 0) ∧ wr.cell? ⟨B, 1, none⟩ = some (.int .u8 (lastCb (ls.take k))) ∧ Room wr B 2 ∧ Kp (fun b => b = N ∨ b = B) W wr) (fun i _ => n - (intOf i).toNat)
  case atStart => exact ⟨0, [], by omega, rfl, rN.out, (fun i s h => by simp at h), rfl, (fun s h => by simp at h), rfl, b0, b1, rB.out, Kp.refl _⟩
  case round =>
    obtain ⟨k, ls', hk, rfl, hRm, hSg, hll, hG, hkey, hb0, hb1, hRB, hKp⟩ := hrel
    obtain ⟨Wr, rfl⟩ : ∃ y, y = wr := ⟨_, rfl⟩
    replace hRm := Lib.hid hRm; replace hSg := Lib.hid hSg; replace hll := Lib.hid hll; replace hG := Lib.hid hG; replace hkey := Lib.hid hkey; replace hKp := Lib.hid hKp; replace hRB := Lib.hid hRB
    have zr := hKp.out.size
    clear b0 b1
    have kc : Hid (∀ x v, W.cell? x = some v → x.block ≠ N → x.block ≠ B → Wr.cell? x = some v) := Lib.hid (fun x v hc hx hx2 => hKp.out.cell hc (fun e => e.elim hx hx2))
    have c0' := kc.out _ _ c0 (by show C ≠ N; omega) (by show C ≠ B; omega)
    by_cases hlt : k < n
    · obtain ⟨x, hx⟩ : ∃ x, ls[k]? = some x := ⟨_, List.getElem?_eq_getElem (by rw [hn.out]; exact hlt)⟩
      obtain ⟨g, rfl, -, hsg, hx0⟩ := h.out k x hx
      have bWr : Hid (Below w.heap.size w Wr) := Lib.hid (by rw [hPw.out]; exact bW.out.trans (hKp.out.below (by have := bW.out.size; have := hPw.out; omega) (fun b e => by omega)))
      obtain ⟨hxn, hxz, hxs⟩ := hin.out x (List.mem_of_getElem? hx)
      obtain ⟨xa, xc, xl⟩ := x
      simp only at hxn hxz hxs hsg
      obtain ⟨s0, xt, rfl⟩ : ∃ s t, xl = s :: t := by
        cases xl with
        | nil => exact absurd rfl hxn
        | cons s t => exact ⟨s, t, rfl⟩
      clear hxn
      obtain ⟨xn, hxe⟩ : ∃ m, (s0 :: xt).length = m := ⟨_, rfl⟩
      have hxn0 : 0 < xn := by rw [← hxe]; simp
      have htk := Lib.hid (mapt (f := CxR.key) hx)
      have hlc := Lib.hid (lastCb_take hx rfl)
      clear hx
      have hx0w := Lib.hid hx0
      have hx0 := Lib.hid (GCx.keep G0.keep _ _ _ _ _ hx0 (Kc.of_below bWr.out) (fun _ _ q => q))
      obtain ⟨g2, hxa, -, hs2, -⟩ := hx0.out.1 0 s0 rfl
      simp only at hxa
      subst hxa
      have hs6 := segs6 hs2
      simp only [Nat.zero_mul, Nat.zero_add] at hs6
      obtain ⟨d0, d1, d2, d3, d4, d5⟩ := hs6
      clear hs2 d0 d1 d2 d5
      have hsg' := ac bWr.out hsg
      rw [hxe] at hsg'
      clear hsg
      have i0 : (0 : Int) ≤ k := by omega
      have i1 : (k : Int) < n := by omega
      have i2 : (0 : Int) < xn := by omega
      go_upto_region 8 with fail
      refine wp_gen (fun W2 hW => ?_)
      have b2 : Hid (Below Wr.heap.size Wr W2) := Lib.hid (by rw [hW]; exact ba _ _)
      have t0 : W2.cell? ⟨Wr.heap.size, 0, none⟩ = some (.slice (some ⟨g2, 0, none⟩) xn xc) := by rw [hW]; simp [go_sem]
      clear hW
      obtain ⟨T, hT⟩ : ∃ y, Wr.heap.size = y := ⟨_, rfl⟩
      rw [hT] at t0 b2
      rw [hT]
      have hTr := Lib.hid hT
      have zT : T < W2.heap.size := block_lt_of_cell t0
      clear hT hsg'
      have b2' : Hid (Below Wr.heap.size Wr W2) := Lib.hid (by rw [hTr.out]; exact b2.out)
      have e3 := ac b2'.out d3; have e4 := ac b2'.out d4
      have hRB2 := Lib.hid (hRB.out.after b2'.out)
      obtain ⟨_, y0, f0⟩ := hRB2.out 0 (by omega)
      obtain ⟨_, y1, f1⟩ := hRB2.out 1 (by omega)
      clear d3 d4
      go_upto_region 9 with fail
      refine wp_gen (fun W4 hW => ?_)
      have k4 : Hid (Kp (fun b => b = B) W2 W4) := Lib.hid (by rw [hW]; exact Kp.set (S := fun b => b = B) (Kp.set (Kp.refl W2) _ _ (.inl rfl)) _ _ (.inl rfl))
      have q0 : W4.cell? ⟨B, 0, none⟩ = some (.int .i32 0) := by rw [hW, co (by intro q; injection q; omega)]; exact cs y0
      have q1 : W4.cell? ⟨B, 1, none⟩ = some (.int .u8 s0.cb) := by rw [hW]; exact cs (by rw [co (by intro q; injection q; omega)]; exact y1)
      have hRB4 : Hid (Room W4 B 2) := Lib.hid (by rw [hW]; exact (hRB2.out.setA _ _).setA _ _)
      clear hW y0 y1 f0 f1 e3 e4 hb0 hb1 hRB2
      have c0'' := k4.out.cell (ac b2'.out c0') (by show ¬ C = B; omega)
      have t0' := k4.out.cell t0 (by show ¬ T = B; have := hTr.out; omega)
      have k14 : Hid (Kp (fun b => b = B) Wr W4) := Lib.hid ((Kp.of b2'.out).trans k4.out)
      clear c0' t0
      obtain ⟨X, hX⟩ : ∃ X : CxR ByteArray, X = ⟨some ⟨g2, 0, none⟩, xc, s0 :: xt⟩ := ⟨_, rfl⟩
      have hxW : Hid (∀ W', Below W4.heap.size W4 W' → GCx G0 O W' X) := Lib.hid (fun W' hb => by
        rw [hX]
        exact GCx.keep G0.keep _ _ _ _ _ hx0w.out (Kc.of_kp ((Kp.of (S := fun b => b = B) bWr.out).trans' (k14.out.trans (Kp.of hb)) (fun _ q _ => q)) (fun b hb2 e => by have := hPw.out; exfalso; omega)) (fun _ _ q => q))
      have z4 := k4.out.size
      clear hx0
      refine QTail.drawn_rel 5 (R21 C N n k (.agg #[.slice (some ⟨g2, 0, none⟩) xn xc]) (CxR.key X) W4.heap.size) (by kernel_rfl) (by kernel_rfl) (fun i v W W' h1 h2 => R21.after i v W W' h1 h2) ?_ ?_
      · simp only [List.take_succ_cons, List.take_zero]
        refine ⟨?_, ?_, ?_, ?_, ?_, trivial⟩
        all_goals intro vs W' hC hd
        · have q0 := ac hC c0''
          clear hd hC
          simp only [QTail.putA, Nat.reduceAdd, Act.put, List.setIfInBounds_toArray, List.set_cons_succ, List.set_cons_zero]
          go_wp2
          exact ⟨⟨(fun _ => rfl), (fun q => by cases q), (fun q => by cases q), (fun q => by cases q), (fun q => by cases q)⟩, Below.refl _ _⟩
        · clear hd hC
          simp only [QTail.putA, Nat.reduceAdd, Act.put, List.setIfInBounds_toArray, List.set_cons_succ, List.set_cons_zero]
          go_wp2
          exact ⟨⟨(fun q => by cases q), (fun _ => rfl), (fun q => by cases q), (fun q => by cases q), (fun q => by cases q)⟩, Below.refl _ _⟩
        · have q0 := ac hC t0'
          clear hd hC
          simp only [QTail.putA, Nat.reduceAdd, Act.put, List.setIfInBounds_toArray, List.set_cons_succ, List.set_cons_zero]
          go_wp2
          exact ⟨⟨(fun q => by cases q), (fun q => by cases q), (fun _ => rfl), (fun q => by cases q), (fun q => by cases q)⟩, Below.refl _ _⟩
        · have e2 := (hd { on := 2, ground := Ground.data } (by simp) rfl).2.2.1 rfl
          have hC' := Lib.hid hC
          have C28 := Lib.hid (clone28_c X _ W' (hxW.out W' hC) (by rw [hX]; exact hxs) (by rw [hX]; exact hxz))
          have hXa : CxR.arr X = #[.slice (some ⟨g2, 0, none⟩) xn xc] := by rw [hX, ← hxe]
          rw [hXa] at C28
          clear hd hC hXa
          simp only [QTail.putA, Nat.reduceAdd, Act.put, List.setIfInBounds_toArray, List.set_cons_succ, List.set_cons_zero]
          rw [e2]
          go_wp2_with (go_at_call 28; (with_reducible refine C28.out.mono ?_); rintro e w5 ⟨t, rfl, tk, tg, tb⟩; replace tg := Lib.hid tg; replace tb := Lib.hid tb)
          exact ⟨⟨(fun q => by cases q), (fun q => by cases q), (fun q => by cases q), (fun _ => ⟨t, rfl, (by first | exact tk | exact tk.trans (congrArg CxR.key hX)), GCx.keep G0.keep _ _ _ _ _ tg.out (fun _ _ q _ => q) (fun b _ q => by have := hC'.out.size; show b < W'.heap.size; omega)⟩), (fun q => by cases q)⟩, tb.out⟩
        · have e0 := (hd { on := 0, ground := Ground.data } (by simp) rfl).1 rfl
          have e1 := (hd { on := 1, ground := Ground.data } (by simp) rfl).2.1 rfl
          clear hd hC
          simp only [QTail.putA, Nat.reduceAdd, Act.put, List.setIfInBounds_toArray, List.set_cons_succ, List.set_cons_zero]
          rw [e0, e1]
          go_wp2
          exact ⟨⟨(fun q => by cases q), (fun q => by cases q), (fun q => by cases q), (fun q => by cases q), (fun _ => rfl)⟩, Below.refl _ _⟩
      · intro vs W3 b3 hR
        obtain ⟨t, e4, htk2, htg⟩ := (hR 3 (by omega)).2.2.2.1 rfl
        have e5 := (hR 4 (by omega)).2.2.2.2 rfl
        replace htg := Lib.hid htg
        replace b3 := Lib.hid b3
        clear hR
        simp only [List.take_succ_cons, List.take_zero, List.drop_succ_cons, List.drop_zero, QTail.putA, Nat.reduceAdd, Act.put, List.setIfInBounds_toArray, List.set_cons_succ, List.set_cons_zero]
        rw [e4, e5]
        clear e4 e5
        generalize vs 0 = z0
        generalize vs 1 = z1
        generalize vs 2 = z2
        clear vs
        have z3 := b3.out.size
        have hTr2 := hTr.out
        have z2 := b2.out.size
        have k13 : Hid (Kp (fun b => b = B) Wr W3) := Lib.hid (k14.out.trans (Kp.of b3.out))
        have hRm3 : Hid (Room W3 N n) := Lib.hid (room_kept hRm.out k13.out (by omega))
        obtain ⟨_, c1, f1⟩ := hRm3.out k (by omega)
        have K9 : Kp (fun b => b = N) W3 (W3.setCell ⟨N, k, none⟩ (.slice t.a t.ls.length t.c)) := (Kp.refl W3).set _ _ (.inl rfl)
        have RR : ∃ (k' : Nat) (ls2 : List (CxR ByteArray)), k' ≤ n ∧ Value.int .i64 ((k : Int) + 1) = .int .i64 k' ∧ Room (W3.setCell ⟨N, k, none⟩ (.slice t.a t.ls.length t.c)) N n ∧ (∀ i s, ls2[i]? = some s → (W3.setCell ⟨N, k, none⟩ (.slice t.a t.ls.length t.c)).cell? ⟨N, i, none⟩ = some (.slice s.a s.ls.length s.c)) ∧ ls2.length = k' ∧ (∀ s ∈ ls2, GCx G0 (fun b => b = N ∨ b < N) (W3.setCell ⟨N, k, none⟩ (.slice t.a t.ls.length t.c)) s) ∧ ls2.map CxR.key = (ls.take k').map CxR.key ∧ (W3.setCell ⟨N, k, none⟩ (.slice t.a t.ls.length t.c)).cell? ⟨B, 0, none⟩ = some (.int .i32 0) ∧ (W3.setCell ⟨N, k, none⟩ (.slice t.a t.ls.length t.c)).cell? ⟨B, 1, none⟩ = some (.int .u8 (lastCb (ls.take k'))) ∧ Room (W3.setCell ⟨N, k, none⟩ (.slice t.a t.ls.length t.c)) B 2 ∧ Kp (fun b => b = N ∨ b = B) W (W3.setCell ⟨N, k, none⟩ (.slice t.a t.ls.length t.c)) := by
          refine ⟨k + 1, ls' ++ [t], by omega, by go_num, hRm3.out.setA _ _, ?_, by simp [hll.out], ?_, by rw [List.map_append, hkey.out, htk.out]; simp [htk2, hX], ?_, ?_, ?_, ?_⟩
          · intro i s hi
            by_cases hik : i < k
            · rw [List.getElem?_append_left (by rw [hll.out]; exact hik)] at hi
              rw [co (by intro q; injection q; omega)]
              exact k13.out.cell (hSg.out i s hi) (by show ¬ N = B; omega)
            · rw [List.getElem?_append_right (by rw [hll.out]; omega), hll.out] at hi
              have hi0 : i - k = 0 := by
                have := (List.getElem?_eq_some_iff.1 hi).1
                simp at this
                omega
              rw [hi0] at hi
              injection hi with hi
              subst hi
              obtain rfl : i = k := by omega
              exact cs c1
          · intro s hs
            rcases List.mem_append.1 hs with hs | hs
            · exact GCx.keep G0.keep _ _ _ _ _ (hG.out s hs) (Kc.of_kp ((k13.out.wide (S' := fun b => b = N ∨ b = B) (fun _ q => .inr q)).trans (K9.wide (fun _ q => .inl q))) (fun b _ e => by rcases e with e | e; exact .inl e; exact .inr (by omega))) (fun _ _ q => q)
            · rw [List.mem_singleton] at hs
              subst hs
              exact GCx.keep G0.keep _ _ _ _ _ htg.out (Kc.of_kp K9 (fun b _ e => by show b < W4.heap.size; omega)) (fun b _ q => by show b < W4.heap.size; rcases q with q | q <;> omega)
          · exact K9.cell (ac b3.out q0) (by show ¬ B = N; omega)
          · rw [hlc.out]; exact K9.cell (ac b3.out q1) (by show ¬ B = N; omega)
          · exact (hRB4.out.after b3.out).setA _ _
          · exact hKp.out.trans ((k13.out.wide (fun _ q => .inr q)).trans (K9.wide (fun _ q => .inl q)))
        clear K9
        replace RR := Lib.hid RR
        go_wp2
        exact ⟨RR.out, by simp [intOf] <;> omega⟩
    · obtain rfl : k = n := by omega
      go_wp2
      have hF := hCQ.out B C (some ⟨N, 0, none⟩) ls' Wr (by omega) (by omega) hb0 (by rw [hb1, List.take_of_length_le (by rw [hn.out]; exact Nat.le_refl _)]) c0' (fun i s hi => ⟨N, rfl, by show ¬ N < P; omega, hSg.out i s hi, GCx.keep G0.keep _ _ _ _ _ (hG.out s (List.mem_of_getElem? hi)) (fun _ _ q _ => q) (fun b _ q => .inr (by have : b < P := q; omega))⟩) hll.out (by rw [hkey.out, List.take_of_length_le (by rw [hn.out]; exact Nat.le_refl _)]) (bW.out.trans (hKp.out.below (by have := hPw.out; have := bW.out.size; omega) (fun b e => by omega)))
      exact hF
end Go.Proofs.YtjigljpodkfchaaFmt
