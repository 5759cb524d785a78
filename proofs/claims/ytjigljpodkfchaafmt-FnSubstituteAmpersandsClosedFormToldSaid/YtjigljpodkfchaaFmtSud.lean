/- FnSubstituteAmpersandsClosedForm: clones. -/
import Derived.Test.YtjigljpodkfchaaFmtSuc
set_option linter.unusedVariables false
set_option linter.unusedSimpArgs false
namespace Go.Proofs.YtjigljpodkfchaaFmt
open Go.RowKit
set_option maxRecDepth 100000
set_option maxHeartbeats 4000000
theorem put3 {w : World} {T o : Nat} (v0 v1 v2 : Value) (h : ∀ j, j < 3 → ∃ v, w.cell? ⟨T, o + j, none⟩ = some v) : Seg (((w.setCell ⟨T, o, none⟩ v0).setCell ⟨T, o + 1, none⟩ v1).setCell ⟨T, o + 2, none⟩ v2) T o [v0, v1, v2] ∧ ∀ a v, w.cell? a = some v → (a.block ≠ T ∨ a.off < o ∨ o + 3 ≤ a.off) → (((w.setCell ⟨T, o, none⟩ v0).setCell ⟨T, o + 1, none⟩ v1).setCell ⟨T, o + 2, none⟩ v2).cell? a = some v := by
  obtain ⟨u0, g0⟩ := h 0 (by omega); obtain ⟨u1, g1⟩ := h 1 (by omega); obtain ⟨u2, g2⟩ := h 2 (by omega)
  rw [Nat.add_zero] at g0
  refine ⟨fun j v hj => ?_, fun a v hc hn => ?_⟩
  · match j, hj with
    | 0, hj =>
      show (_ : World).cell? ⟨T, o, none⟩ = some v
      rw [co (by intro q; injection q; omega), co (by intro q; injection q; omega), cs g0]
      exact hj
    | 1, hj =>
      rw [co (by intro q; injection q; omega), cs (u := u1) (by rw [co (by intro q; injection q; omega)]; exact g1)]
      exact hj
    | 2, hj =>
      rw [cs (u := u2) (by rw [co (by intro q; injection q; omega), co (by intro q; injection q; omega)]; exact g2)]
      exact hj
    | j + 3, hj => simp at hj
  · have hne : ∀ k, k < 3 → (⟨T, o + k, none⟩ : Addr) ≠ a := fun k hk e => by
      rw [← e] at hn
      simp only at hn
      omega
    rw [co (hne 2 (by omega)), co (hne 1 (by omega)), co (show (⟨T, o, none⟩ : Addr) ≠ a from hne 0 (by omega))]
    exact hc
def SubQ (k : ByteArray) (w : World) (e : Ending) (w' : World) : Prop := ∃ s : SubR ByteArray, e = .returned (.iface s.t s.p) ∧ s.k = k ∧ G0 (fun b => b < w.heap.size) w' s ∧ Below w.heap.size w w'
theorem clone78_c (O : Nat → Prop) (B : Nat) (k : ByteArray) (w : World) (hs : Seg w B 0 [.string k, .slice none 0 0, .bool false]) (hk : k.size ≤ maxLen) : Calls Tryf.prog 78 #[.pointer (some ⟨B, 0, none⟩)] w (SubQ k w) := by
  obtain ⟨d0, d1, d2⟩ := segs3 hs
  simp only [Nat.zero_add] at d0 d1 d2
  have x0 := fun o => al d0 o; have x1 := fun o => al d1 o
  clear hs
  have qn := fun W A n c => run_neq_slice_nil_any (P := Tryf.prog) W 126 _ A n c 0 0 Tryf.underlying126
  go_enter Tryf.func78, Tryf.ntmps78
  go_wp2
  exact bodyPost_ret (v := .iface 125 (.pointer (some ⟨w.heap.size, 0, none⟩))) (by simp [results, Tryf.results78, go_sem]) rfl ⟨⟨125, _, k⟩, rfl, rfl, ⟨rfl, _, rfl, (by show ¬ _ < _; omega), Seg.new w [.string k, .slice none 0 0, .bool false] 128, hk⟩, ba _ _⟩
theorem mc125 (a : Addr) (W : World) : (method 384 125 (.pointer (some a)) "Clone").run Tryf.prog W = .ok (78, .pointer (some a)) W := by kernel_rfl
theorem put6 {w : World} {T o : Nat} (v0 v1 v2 v3 v4 v5 : Value) (h : ∀ j, j < 6 → ∃ v, w.cell? ⟨T, o + j, none⟩ = some v) : Seg ((((((w.setCell ⟨T, o, none⟩ v0).setCell ⟨T, o + 1, none⟩ v1).setCell ⟨T, o + 2, none⟩ v2).setCell ⟨T, o + 3, none⟩ v3).setCell ⟨T, o + 4, none⟩ v4).setCell ⟨T, o + 5, none⟩ v5) T o [v0, v1, v2, v3, v4, v5] ∧ ∀ a v, w.cell? a = some v → (a.block ≠ T ∨ a.off < o ∨ o + 6 ≤ a.off) → ((((((w.setCell ⟨T, o, none⟩ v0).setCell ⟨T, o + 1, none⟩ v1).setCell ⟨T, o + 2, none⟩ v2).setCell ⟨T, o + 3, none⟩ v3).setCell ⟨T, o + 4, none⟩ v4).setCell ⟨T, o + 5, none⟩ v5).cell? a = some v := by
  have h1 := put3 (w := w) (T := T) (o := o) v0 v1 v2 (fun j hj => h j (by omega))
  have h2 := put3 (w := ((w.setCell ⟨T, o, none⟩ v0).setCell ⟨T, o + 1, none⟩ v1).setCell ⟨T, o + 2, none⟩ v2) (T := T) (o := o + 3) v3 v4 v5 (fun j hj => by
    obtain ⟨v, g⟩ := h (3 + j) (by omega)
    exact ⟨v, h1.2 _ _ (by rw [show o + 3 + j = o + (3 + j) by omega]; exact g) (.inr (.inr (by show o + 3 ≤ o + 3 + j; omega)))⟩)
  refine ⟨fun j v hj => ?_, fun a v hc hn => h2.2 _ _ (h1.2 _ _ hc (by omega)) (by omega)⟩
  by_cases hj3 : j < 3
  · have e : [v0, v1, v2][j]? = some v := by
      match j, hj3, hj with
      | 0, _, hj => exact hj
      | 1, _, hj => exact hj
      | 2, _, hj => exact hj
    exact h2.2 _ _ (h1.1 j v e) (.inr (.inl (by show o + j < o + 3; omega)))
  · have hl : j < 6 := (List.getElem?_eq_some_iff.1 hj).1
    have e : [v3, v4, v5][j - 3]? = some v := by
      match j, hj3, hl, hj with
      | 3, _, _, hj => exact hj
      | 4, _, _, hj => exact hj
      | 5, _, _, hj => exact hj
    have := h2.1 (j - 3) v e
    rw [show o + 3 + (j - 3) = o + j by omega] at this
    exact this
theorem three (w : World) (x y z : List Value) (t t' t'' : TypeId) (W : World) (hW : W = ((w.alloc (.cells x.toArray t)).alloc (.cells y.toArray t')).alloc (.cells z.toArray t'')) : Below w.heap.size w W ∧ Seg W w.heap.size 0 x ∧ Room W (w.heap.size + 1) y.length ∧ Seg W (w.heap.size + 1 + 1) 0 z ∧ Room W (w.heap.size + 1 + 1) z.length ∧ W.heap.size = w.heap.size + 3 := by
  subst hW
  refine ⟨((ba _ _).alloc (by simp) _).alloc (by simp; omega) _, ((Seg.new w x t).after (ba _ _)).after (ba _ _), ?_, ?_, ?_, by simp⟩
  · have := (Room.newN (w.alloc (.cells x.toArray t)) y.toArray (n := y.length) (by simp) t').after (ba _ (.cells z.toArray t''))
    simpa using this
  · have := Seg.new ((w.alloc (.cells x.toArray t)).alloc (.cells y.toArray t')) z t''
    simpa using this
  · have := Room.newN ((w.alloc (.cells x.toArray t)).alloc (.cells y.toArray t')) z.toArray (n := z.length) (by simp) t''
    simpa using this
def CpQ (k : CK ByteArray) (n : Nat) (w : World) (e : Ending) (w' : World) : Prop := ∃ r : CpR ByteArray, e = .returned (.agg r.arr) ∧ r.key = k ∧ r.ls.length = n ∧ GCp G0 (fun b => b < w.heap.size) w' r ∧ Below w.heap.size w w'
theorem clone39_c (r : CpR ByteArray) (O : Nat → Prop) (w : World) (h : GCp G0 O w r) (hnn : r.nn = 0) (hsz : r.ls.length ≤ 1048576) : Calls Tryf.prog 39 #[.agg r.arr] w (CpQ r.key r.ls.length w) := by
  obtain ⟨a, c, ls, nx, nn, nc, cb⟩ := r
  simp only at hnn hsz
  subst hnn
  obtain ⟨hRS, -, -⟩ := h
  simp only at hRS
  have hno : Hid (a = none → ls = []) := Lib.hid (fun e => by
    cases ls with
    | nil => rfl
    | cons x t =>
      obtain ⟨g, h1, -⟩ := hRS 0 x rfl
      rw [e] at h1; cases h1)
  obtain ⟨n, hn⟩ : ∃ n, ls.length = n := ⟨_, rfl⟩
  have hCQ : Hid (∀ (a' : Option Addr) (c' : Nat) (ls' : List (SubR ByteArray)) W, ls'.length = n → ls'.map SubR.k = ls.map SubR.k → RSub G0 (fun b => b < w.heap.size) W a' ls' → Below w.heap.size w W → CpQ (CpR.key (⟨a, c, ls, nx, 0, nc, cb⟩ : CpR ByteArray)) ls.length w (.returned (.agg #[.pointer none, .slice a' n c', .slice nx 0 nc, .int .i32 0, .int .u8 cb, .bool false])) W) := Lib.hid (fun a' c' ls' W h1 h2 h3 h4 => ⟨⟨a', c', ls', nx, 0, nc, cb⟩, by show _ = Ending.returned (.agg #[_, .slice a' ls'.length c', _, _, _, _]); rw [h1], by show (⟨cb, 0, ls'.map SubR.k⟩ : CK ByteArray) = ⟨cb, 0, ls.map SubR.k⟩; rw [h2], by rw [hn]; exact h1, ⟨h3, by show ls'.length ≤ maxLen; unfold maxLen; omega, fun i hi => absurd hi (Nat.not_lt_zero i)⟩, h4⟩)
  show Calls Tryf.prog 39 #[.agg #[.pointer none, .slice a ls.length c, .slice nx 0 nc, .int .i32 0, .int .u8 cb, .bool false]] w _
  generalize CpQ (CpR.key (⟨a, c, ls, nx, 0, nc, cb⟩ : CpR ByteArray)) ls.length w = QQ at *
  rw [hn] at hsz ⊢
  replace hn := Lib.hid hn
  replace hRS := Lib.hid hRS
  have qn := fun W A n c => run_neq_slice_nil_any (P := Tryf.prog) W 33 _ A n c 0 0 Tryf.underlying33
  go_enter Tryf.func39, Tryf.ntmps39
  go_upto_region 2 with fail
  refine wp_gen (fun W hW => ?_)
  obtain ⟨bW, sP, rR, sV, rV, zW⟩ := three w [.pointer none, .slice a n c, .slice nx 0 nc, .int .i32 0, .int .u8 cb, .bool false] [.pointer none, .slice none 0 0, .slice none 0 0, .int .i32 0, .int .u8 0, .bool false] [.pointer none, .slice a n c, .slice nx 0 nc, .int .i32 0, .int .u8 cb, .bool false] 40 40 40 W hW
  clear hW
  simp only [List.length_cons, List.length_nil] at rR rV
  replace bW := Lib.hid bW; replace sP := Lib.hid sP; replace rR := Lib.hid rR; replace sV := Lib.hid sV; replace rV := Lib.hid rV
  obtain ⟨P, hP⟩ : ∃ y, w.heap.size = y := ⟨_, rfl⟩
  replace hRS := Lib.hid (RSub.keep G0.keep hRS.out (Kc.of_below bW.out) (fun _ _ q => q))
  rw [hP] at sP rR rV sV bW hCQ zW ⊢
  have hPw := Lib.hid hP
  clear hP
  obtain ⟨R, hR⟩ : ∃ y, P + 1 = y := ⟨_, rfl⟩
  obtain ⟨V, hV⟩ : ∃ y, R + 1 = y := ⟨_, rfl⟩
  rw [hR] at rR
  rw [hR, hV] at rV sV
  rw [hR, hV]
  have zPR : P < R := by omega
  have zRV : R < V := by omega
  have zVW : V < W.heap.size := by omega
  clear hR hV zW
  have hsP := segs6 sP.out
  have hsV := segs6 sV.out
  simp only [Nat.zero_add] at hsP hsV
  obtain ⟨p0, p1, p2, p3, p4, p5⟩ := hsP
  obtain ⟨v0, v1, v2, v3, v4, v5⟩ := hsV
  go_upto_if 20 with fail
  go_cut [] (fun wx => ∃ (a' : Option Addr) (c' : Nat) (ls' : List (SubR ByteArray)), Seg wx V 0 [.pointer none, .slice a' n c', .slice nx 0 nc, .int .i32 0, .int .u8 cb, .bool false] ∧ RSub G0 (fun b => b < W.heap.size) wx a' ls' ∧ ls'.length = n ∧ ls'.map SubR.k = ls.map SubR.k ∧ Only (fun z => z = V) W wx)
  case first =>
    cases a with
    | none =>
      obtain rfl := hno.out rfl
      have hn0 := hn.out
      simp only [List.length_nil] at hn0
      subst hn0
      go_wp2
      go_meet
      exact ⟨none, c, [], sV.out, (fun i s hi => by simp at hi), rfl, rfl, Only.refl _⟩
    | some ad =>
      have mk := make_z (P := Tryf.prog) (b := 24) #[.nilIface, .int .i32 0, .int .i32 0] Tryf.underlying33 info107 n (by omega) (by omega)
      go_upto_region 7 with fail
      clear mk
      refine wp_gen (fun W1 hW => ?_)
      have rN : Hid (Room W1 W.heap.size (n * 3)) := Lib.hid (by rw [hW]; exact Room.made _ _ _ _)
      have bN : Hid (Below W.heap.size W W1) := Lib.hid (by rw [hW]; exact ba _ _)
      have zN : W1.heap.size = W.heap.size + 1 := by rw [hW]; simp
      clear hW
      obtain ⟨N, hN⟩ : ∃ y, W.heap.size = y := ⟨_, rfl⟩
      rw [hN] at rN zN
      have p1' := ac bN.out p1
      rw [hN]
      go_wp2
      go_loopw [28] (fun i wr => ∃ (k : Nat) (ls' : List (SubR ByteArray)), k ≤ n ∧ i = .int .i64 k ∧ Room wr N (n * 3) ∧ (∀ i s, ls'[i]? = some s → Seg wr N (i * 3) s.cells) ∧ ls'.length = k ∧ (∀ s ∈ ls', G0 (fun b => b = N ∨ b < N) wr s) ∧ ls'.map SubR.k = (ls.take k).map SubR.k ∧ Kp (fun b => b = N) W1 wr) (fun i _ => n - (intOf i).toNat)
      case atStart => exact ⟨0, [], by omega, rfl, rN.out, (fun i s h => by simp at h), rfl, (fun s h => by simp at h), rfl, Kp.refl _⟩
      case round =>
        clear p1'
        obtain ⟨k, ls', hk, rfl, hRm, hSg, hll, hG, hkey, hKp⟩ := hrel
        obtain ⟨Wr, rfl⟩ : ∃ y, y = wr := ⟨_, rfl⟩
        replace hRm := Lib.hid hRm; replace hSg := Lib.hid hSg; replace hll := Lib.hid hll; replace hG := Lib.hid hG; replace hkey := Lib.hid hkey; replace hKp := Lib.hid hKp
        have zr := hKp.out.size
        have bWr : Hid (Below W.heap.size W Wr) := Lib.hid (bN.out.trans (hKp.out.below (by omega) (fun b e => by omega)))
        have kc : Hid (∀ x v, W.cell? x = some v → Wr.cell? x = some v) := Lib.hid (fun x v hc => hKp.out.cell (ac bN.out hc) (fun e => by have := block_lt_of_cell hc; have e2 : x.block = N := e; omega))
        by_cases hlt : k < n
        · obtain ⟨x, hx⟩ : ∃ x, ls[k]? = some x := ⟨_, List.getElem?_eq_getElem (by rw [hn.out]; exact hlt)⟩
          obtain ⟨g, hag, -, hsg, hx0, B, hxp, -, hsB, hxs⟩ := hRS.out k x hx
          injection hag with hag
          subst hag
          have htk := Lib.hid (mapt (f := SubR.k) hx)
          clear hx
          obtain ⟨xt, xp, xk⟩ := x
          simp only at hx0 hxp
          subst hx0 hxp
          have gs := segs3 hsg
          obtain ⟨g0, g1, g2⟩ := gs
          have h0 := kc.out _ _ g0; have h1 := kc.out _ _ g1; have h2 := kc.out _ _ g2
          clear g0 g1 g2 hsg
          have i0 : (0 : Int) ≤ k := by omega
          have i1 : (k : Int) < n := by omega
          go_upto_region 10 with fail
          refine wp_gen (fun W2 hW => ?_)
          have b2 : Hid (Below Wr.heap.size Wr W2) := Lib.hid (by rw [hW]; exact ba _ _)
          have t0 : W2.cell? ⟨Wr.heap.size, 0, none⟩ = some (.iface 125 (.pointer (some ⟨B, 0, none⟩))) := by rw [hW]; simp [go_sem]
          have t1 : W2.cell? ⟨Wr.heap.size, 1, none⟩ = some (.int .i32 0) := by rw [hW]; simp [go_sem]
          have t2 : W2.cell? ⟨Wr.heap.size, 2, none⟩ = some (.int .i32 0) := by rw [hW]; simp [go_sem]
          have tf : W2.frozen? ⟨Wr.heap.size, 0, none⟩ = false := by rw [hW]; simp [go_sem]
          clear hW
          have zT : Wr.heap.size < W2.heap.size := block_lt_of_cell t0
          obtain ⟨T, hT⟩ : ∃ y, Wr.heap.size = y := ⟨_, rfl⟩
          rw [hT] at t0 t1 t2 tf zT b2
          rw [hT]
          have hTr := Lib.hid hT
          clear hT h0 h1 h2
          have mc := fun W' => mc125 ⟨B, 0, none⟩ W'
          have C78 := Lib.hid (clone78_c O B xk W2 ((hsB.after bWr.out).after (by have := b2.out; rw [← hTr.out] at this; exact this)) hxs)
          go_upto_region 11 with (go_at_call 78; (with_reducible refine C78.out.mono ?_); rintro e w7 ⟨s7, rfl, hsk, hs7, b7⟩; replace hs7 := Lib.hid hs7; have tf' := af b7 t0 tf; replace t0 := ac b7 t0; replace t1 := ac b7 t1; replace t2 := ac b7 t2; replace b7 := Lib.hid b7)
          have hTr2 := hTr.out
          have bWr2 : Hid (Below Wr.heap.size Wr w7) := Lib.hid (by rw [hTr2]; exact b2.out.trans (b7.out.mono (by omega)))
          obtain ⟨_, e0, f0⟩ := hRm.out (k * 3) (by omega)
          obtain ⟨_, e1, f1⟩ := hRm.out (k * 3 + 1) (by omega)
          obtain ⟨_, e2, f2⟩ := hRm.out (k * 3 + 2) (by omega)
          have n0 := ac bWr2.out e0; have m0 := af bWr2.out e0 f0
          have n1 := ac bWr2.out e1; have m1 := af bWr2.out e1 f1
          have n2 := ac bWr2.out e2; have m2 := af bWr2.out e2 f2
          clear e0 f0 e1 f1 e2 f2
          have zNT : N < T := by omega
          have z27 := b7.out.size
          have hZ : ∀ (S : Nat → Prop) (wa wb : World) (b j : Nat) (v : Value), Kp S wa wb → (S b ∨ wa.heap.size ≤ b) → Kp S wa (wb.setCell ⟨b, j, none⟩ v) := fun S wa wb b j v hh q => hh.set _ _ q
          have P3 := put3 (w := w7.setCell ⟨T, 0, none⟩ (.iface s7.t s7.p)) (T := N) (o := k * 3) (.iface s7.t s7.p) (.int .i32 0) (.int .i32 0) (fun j hj => by
            match j, hj with
            | 0, _ => exact ⟨_, by rw [co (by intro q; injection q; omega)]; exact n0⟩
            | 1, _ => exact ⟨_, by rw [co (by intro q; injection q; omega)]; exact n1⟩
            | 2, _ => exact ⟨_, by rw [co (by intro q; injection q; omega)]; exact n2⟩)
          have K9 := hZ (fun b => b = N) Wr _ N (k * 3 + 2) (.int .i32 0) (hZ _ _ _ N (k * 3 + 1) (.int .i32 0) (hZ _ _ _ N (k * 3) (.iface s7.t s7.p) (hZ _ _ _ T 0 (.iface s7.t s7.p) (Kp.of bWr2.out) (.inr (by omega))) (.inl rfl)) (.inl rfl)) (.inl rfl)
          have K7 := hZ (fun b => b = N ∨ b = T) w7 _ N (k * 3 + 2) (.int .i32 0) (hZ _ _ _ N (k * 3 + 1) (.int .i32 0) (hZ _ _ _ N (k * 3) (.iface s7.t s7.p) (hZ _ _ _ T 0 (.iface s7.t s7.p) (Kp.refl _) (.inl (.inr rfl))) (.inl (.inl rfl))) (.inl (.inl rfl))) (.inl (.inl rfl))
          have R9 := (((((hRm.out.after bWr2.out).setA ⟨T, 0, none⟩ (.iface s7.t s7.p)).setA ⟨N, k * 3, none⟩ (.iface s7.t s7.p)).setA ⟨N, k * 3 + 1, none⟩ (.int .i32 0)).setA ⟨N, k * 3 + 2, none⟩ (.int .i32 0))
          have RR : ∃ (k' : Nat) (ls2 : List (SubR ByteArray)), k' ≤ n ∧ Value.int .i64 ((k : Int) + 1) = .int .i64 k' ∧ Room ((((w7.setCell ⟨T, 0, none⟩ (.iface s7.t s7.p)).setCell ⟨N, k * 3, none⟩ (.iface s7.t s7.p)).setCell ⟨N, k * 3 + 1, none⟩ (.int .i32 0)).setCell ⟨N, k * 3 + 2, none⟩ (.int .i32 0)) N (n * 3) ∧ (∀ i s, ls2[i]? = some s → Seg ((((w7.setCell ⟨T, 0, none⟩ (.iface s7.t s7.p)).setCell ⟨N, k * 3, none⟩ (.iface s7.t s7.p)).setCell ⟨N, k * 3 + 1, none⟩ (.int .i32 0)).setCell ⟨N, k * 3 + 2, none⟩ (.int .i32 0)) N (i * 3) s.cells) ∧ ls2.length = k' ∧ (∀ s ∈ ls2, G0 (fun b => b = N ∨ b < N) ((((w7.setCell ⟨T, 0, none⟩ (.iface s7.t s7.p)).setCell ⟨N, k * 3, none⟩ (.iface s7.t s7.p)).setCell ⟨N, k * 3 + 1, none⟩ (.int .i32 0)).setCell ⟨N, k * 3 + 2, none⟩ (.int .i32 0)) s) ∧ ls2.map SubR.k = (ls.take k').map SubR.k ∧ Kp (fun b => b = N) W1 ((((w7.setCell ⟨T, 0, none⟩ (.iface s7.t s7.p)).setCell ⟨N, k * 3, none⟩ (.iface s7.t s7.p)).setCell ⟨N, k * 3 + 1, none⟩ (.int .i32 0)).setCell ⟨N, k * 3 + 2, none⟩ (.int .i32 0)) := by
            refine ⟨k + 1, ls' ++ [s7], by omega, by go_num, R9, ?_, by simp [hll.out], ?_, by rw [List.map_append, hkey.out, htk.out]; simp [hsk], hKp.out.trans K9⟩
            · intro i s hi
              by_cases hik : i < k
              · rw [List.getElem?_append_left (by rw [hll.out]; exact hik)] at hi
                intro j v hj
                have hj3 : j < 3 := (List.getElem?_eq_some_iff.1 hj).1
                refine P3.2 _ _ ?_ (.inr (.inl (by show i * 3 + j < k * 3; omega)))
                rw [co (by intro q; injection q; omega)]
                exact ac bWr2.out (hSg.out i s hi j v hj)
              · rw [List.getElem?_append_right (by rw [hll.out]; omega), hll.out] at hi
                have hi0 : i - k = 0 := by
                  have := (List.getElem?_eq_some_iff.1 hi).1
                  simp at this
                  omega
                rw [hi0] at hi
                injection hi with hi
                subst hi
                obtain rfl : i = k := by omega
                exact P3.1
            · intro s hs
              rcases List.mem_append.1 hs with hs | hs
              · exact G0.keep _ _ _ _ _ (hG.out s hs) (Kc.of_kp K9 (fun b _ e => .inl e)) (fun _ _ q => q)
              · rw [List.mem_singleton] at hs
                subst hs
                exact G0.keep _ _ _ _ _ hs7.out (Kc.of_kp K7 (fun b _ e => by rcases e with e | e <;> (show b < W2.heap.size; omega))) (fun b _ q => by show b < W2.heap.size; rcases q with q | q <;> omega)
          clear P3 K9 K7 R9
          replace RR := Lib.hid RR
          go_wp2
          exact ⟨⟨_, _, _, _, _, _, _, _, _, _, _, _, _, _, _, _, RR.out, rfl⟩, by simp [intOf] <;> omega⟩
        · obtain rfl : k = n := by omega
          obtain ⟨_, e1, f1⟩ := rV.out 1 (by omega)
          have w1 := kc.out _ _ e1
          have wf := hKp.out.froz (ac bN.out e1) (af bN.out e1 f1) (fun e => by have e2 : V = N := e; omega)
          clear e1 f1
          go_wp2
          go_meet
          exact ⟨some ⟨N, 0, none⟩, _, ls', (sV.out.after bWr.out).set 1 _ (by simp), (fun i s hi => ⟨N, rfl, (by show ¬ N < W.heap.size; omega), (hSg.out i s hi).keep (O := fun b => b = V) (Kc.of_kp ((Kp.refl _).set _ _ (.inl rfl) : Kp (fun b => b = V) _ _) (fun b _ e => e)) (by omega), G0.keep _ _ _ _ _ (hG.out s (List.mem_of_getElem? hi)) (Kc.of_kp ((Kp.refl _).set _ _ (.inl rfl) : Kp (fun b => b = V) _ _) (fun b _ e => .inr (by omega))) (fun b _ q => .inr (by have : b < W.heap.size := q; omega))⟩), hll.out, by rw [hkey.out, List.take_of_length_le (by rw [hn.out]; exact Nat.le_refl _)], (Only.of bWr.out).set _ _ rfl⟩
  case rest =>
    obtain ⟨a', c', ls', hSg, hRL, hlen, hkey, hOn⟩ := hcut
    obtain ⟨W2, rfl⟩ : ∃ w1 : World, w1 = wc := ⟨_, rfl⟩
    replace hSg := Lib.hid hSg; replace hRL := Lib.hid hRL
    obtain ⟨_, r0, q0⟩ := hOn.rooms _ _ rR.out 0 (by omega); obtain ⟨_, r1, q1⟩ := hOn.rooms _ _ rR.out 1 (by omega); obtain ⟨_, r2, q2⟩ := hOn.rooms _ _ rR.out 2 (by omega); obtain ⟨_, r3, q3⟩ := hOn.rooms _ _ rR.out 3 (by omega); obtain ⟨_, r4, q4⟩ := hOn.rooms _ _ rR.out 4 (by omega); obtain ⟨_, r5, q5⟩ := hOn.rooms _ _ rR.out 5 (by omega)
    clear p0 p1 p2 p3 p4 p5 v0 v1 v2 v3 v4 v5
    have hsV := segs6 hSg.out
    simp only [Nat.zero_add] at hsV
    obtain ⟨v0, v1, v2, v3, v4, v5⟩ := hsV
    go_wp2
    have hF : QQ (.returned (.agg #[.pointer none, .slice a' n c', .slice nx 0 nc, .int .i32 0, .int .u8 cb, .bool false])) ((((((W2.setCell ⟨R, 0, none⟩ (.pointer none)).setCell ⟨R, 1, none⟩ (.slice a' n c')).setCell ⟨R, 2, none⟩ (.slice nx 0 nc)).setCell ⟨R, 3, none⟩ (.int .i32 0)).setCell ⟨R, 4, none⟩ (.int .u8 cb)).setCell ⟨R, 5, none⟩ (.bool false)) := by
      have Z : ∀ (w1 : World) (j : Nat) (v : Value), Kp (fun b => b = R) W2 w1 → Kp (fun b => b = R) W2 (w1.setCell ⟨R, j, none⟩ v) := fun w1 j v hh => hh.set _ _ (.inl rfl)
      have K := Z _ 5 (.bool false) (Z _ 4 (.int .u8 cb) (Z _ 3 (.int .i32 0) (Z _ 2 (.slice nx 0 nc) (Z _ 1 (.slice a' n c') (Z _ 0 (.pointer none) (Kp.refl W2))))))
      have z2 := hOn.size
      have hw := bW.out.size
      refine hCQ.out a' c' ls' _ hlen hkey (RSub.keep G0.keep hRL.out (Kc.of_kp K (fun b _ e => by show b < W.heap.size; omega)) (fun b _ q => by show b < W.heap.size; have : b < P := q; omega)) (bW.out.trans ((hOn.below P (by omega) (fun b e => by omega)).trans (K.below (by omega) (fun b e => by omega))))
    exact bodyPost_ret (v := .agg #[.pointer none, .slice a' n c', .slice nx 0 nc, .int .i32 0, .int .u8 cb, .bool false]) (by simp [results, Tryf.results39, go_sem, r0, r1, r2, r3, r4, r5]) rfl hF
end Go.Proofs.YtjigljpodkfchaaFmt
