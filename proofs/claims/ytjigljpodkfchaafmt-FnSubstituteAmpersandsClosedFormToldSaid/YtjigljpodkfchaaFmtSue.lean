/- FnSubstituteAmpersandsClosedForm: ComplexSelector.Clone. -/
import Derived.Test.YtjigljpodkfchaaFmtSud
set_option linter.unusedVariables false
set_option linter.unusedSimpArgs false
namespace Go.Proofs.YtjigljpodkfchaaFmt
open Go.RowKit
set_option maxRecDepth 100000
set_option maxHeartbeats 4000000
def CxQ (k : List (CK ByteArray)) (w : World) (e : Ending) (w' : World) : Prop := ∃ r : CxR ByteArray, e = .returned (.agg r.arr) ∧ r.key = k ∧ GCx G0 (fun b => b < w.heap.size) w' r ∧ Below w.heap.size w w'
/-- what each operation of the drawn head gives -/
def R28 (V N n : Nat) (k : Nat) (x : Value) (ky : CK ByteArray) (M : Nat) (j : Nat) (v : Value) (W : World) : Prop :=
  (j = 0 → v = .pointer (some ⟨V, 0, none⟩)) ∧ (j = 1 → v = .slice (some ⟨N, 0, none⟩) n n) ∧ (j = 2 → v = .int .i64 k) ∧ (j = 3 → v = x) ∧ (j = 4 → ∃ r : CpR ByteArray, v = .agg r.arr ∧ r.key = ky ∧ GCp G0 (fun b => b < M) W r) ∧ (j = 5 → v = .pointer (some ⟨N, k * 6, none⟩))
theorem R28.after {V N n : Nat} {k : Nat} {x : Value} {ky : CK ByteArray} {M : Nat} (j : Nat) (v : Value) (W W' : World) (hb : Below W.heap.size W W') (h : R28 V N n k x ky M j v W) : R28 V N n k x ky M j v W' := by
  obtain ⟨h0, h1, h2, h3, h4, h5⟩ := h
  refine ⟨h0, h1, h2, h3, fun q => ?_, h5⟩
  obtain ⟨r, e1, e2, e3⟩ := h4 q
  exact ⟨r, e1, e2, GCp.keep G0.keep _ _ _ _ _ e3 (Kc.of_below hb) (fun _ _ q => q)⟩
theorem clone28_c (r : CxR ByteArray) (O : Nat → Prop) (w : World) (h : GCx G0 O w r) (hnn : ∀ s ∈ r.ls, s.nn = 0 ∧ s.ls.length ≤ 1048576) (hsz : r.ls.length ≤ 1048576) : Calls Tryf.prog 28 #[.agg r.arr] w (CxQ r.key w) := by
  obtain ⟨a, c, ls⟩ := r
  simp only at hnn hsz
  obtain ⟨hRS, -⟩ := h
  simp only at hRS
  replace hnn := Lib.hid hnn
  obtain ⟨n, hn⟩ : ∃ n, ls.length = n := ⟨_, rfl⟩
  have hCQ : Hid (∀ (a' : Option Addr) (c' : Nat) (ls' : List (CpR ByteArray)) W, ls'.length = n → ls'.map CpR.key = ls.map CpR.key → RCp G0 (fun b => b < w.heap.size) W a' ls' → Below w.heap.size w W → CxQ (CxR.key (⟨a, c, ls⟩ : CxR ByteArray)) w (.returned (.agg #[.slice a' n c'])) W) := Lib.hid (fun a' c' ls' W h1 h2 h3 h4 => ⟨⟨a', c', ls'⟩, by show _ = Ending.returned (.agg #[.slice a' ls'.length c']); rw [h1], h2, ⟨h3, by show ls'.length ≤ maxLen; unfold maxLen; omega⟩, h4⟩)
  show Calls Tryf.prog 28 #[.agg #[.slice a ls.length c]] w _
  generalize CxQ (CxR.key (⟨a, c, ls⟩ : CxR ByteArray)) w = QQ at *
  rw [hn] at hsz ⊢
  replace hn := Lib.hid hn
  replace hRS := Lib.hid hRS
  have mk := make_z (P := Tryf.prog) (b := 72) #[.pointer none, .slice none 0 0, .slice none 0 0, .int .i32 0, .int .u8 0, .bool false] Tryf.underlying30 info40 n (by omega) (by omega)
  go_enter Tryf.func28, Tryf.ntmps28
  go_upto_region 2 with fail
  clear mk
  refine wp_gen (fun W hW => ?_)
  have bW : Hid (Below w.heap.size w W) := Lib.hid (by rw [hW]; exact (((ba _ _).alloc (by simp) _).alloc (by simp; omega) _).alloc (by simp; omega) _)
  have p0 : W.cell? ⟨w.heap.size, 0, none⟩ = some (.slice a n c) := by rw [hW]; simp [go_sem]
  have r0 : W.cell? ⟨w.heap.size + 1, 0, none⟩ = some (.slice none 0 0) := by rw [hW]; simp [go_sem]
  have rf : W.frozen? ⟨w.heap.size + 1, 0, none⟩ = false := by rw [hW]; simp [go_sem]
  have v0 : W.cell? ⟨w.heap.size + 1 + 1 + 1, 0, none⟩ = some (.slice (some ⟨w.heap.size + 1 + 1, 0, none⟩) n n) := by rw [hW]; simp [go_sem]
  have rN : Hid (Room W (w.heap.size + 1 + 1) (n * 6)) := Lib.hid (by
    rw [hW]
    have := (Room.made ((w.alloc (.cells #[Value.slice a n c] 110)).alloc (.cells #[Value.slice none 0 0] 110)) #[.pointer none, .slice none 0 0, .slice none 0 0, .int .i32 0, .int .u8 0, .bool false] (n * 6) 40).after (ba _ (.cells #[Value.slice (some ⟨w.heap.size + 1 + 1, 0, none⟩) n n] 110))
    simpa using this)
  have zW : W.heap.size = w.heap.size + 4 := by rw [hW]; simp
  clear hW
  obtain ⟨P, hP⟩ : ∃ y, w.heap.size = y := ⟨_, rfl⟩
  rw [hP] at p0 r0 rf v0 rN bW hCQ zW ⊢
  have hPw := Lib.hid hP
  clear hP
  obtain ⟨R, hR⟩ : ∃ y, P + 1 = y := ⟨_, rfl⟩
  obtain ⟨N, hN⟩ : ∃ y, R + 1 = y := ⟨_, rfl⟩
  obtain ⟨V, hV⟩ : ∃ y, N + 1 = y := ⟨_, rfl⟩
  simp only [hR, hN, hV] at r0 rf v0 rN ⊢
  have zPR : P < R := by omega
  have zRN : R < N := by omega
  have zNV : N < V := by omega
  have zVW : V < W.heap.size := by omega
  clear hR hN hV zW
  go_wp2
  go_loopw [14] (fun i wr => ∃ (k : Nat) (ls' : List (CpR ByteArray)), k ≤ n ∧ i = .int .i64 k ∧ Room wr N (n * 6) ∧ (∀ i s, ls'[i]? = some s → Seg wr N (i * 6) s.cells) ∧ ls'.length = k ∧ (∀ s ∈ ls', GCp G0 (fun b => b = N ∨ b < N) wr s) ∧ ls'.map CpR.key = (ls.take k).map CpR.key ∧ Kp (fun b => b = N) W wr) (fun i _ => n - (intOf i).toNat)
  case atStart => exact ⟨0, [], by omega, rfl, rN.out, (fun i s h => by simp at h), rfl, (fun s h => by simp at h), rfl, Kp.refl _⟩
  case round =>
    obtain ⟨k, ls', hk, rfl, hRm, hSg, hll, hG, hkey, hKp⟩ := hrel
    obtain ⟨Wr, rfl⟩ : ∃ y, y = wr := ⟨_, rfl⟩
    replace hRm := Lib.hid hRm; replace hSg := Lib.hid hSg; replace hll := Lib.hid hll; replace hG := Lib.hid hG; replace hkey := Lib.hid hkey; replace hKp := Lib.hid hKp
    have zr := hKp.out.size
    have kc : Hid (∀ x v, W.cell? x = some v → x.block ≠ N → Wr.cell? x = some v) := Lib.hid (fun x v hc hx => hKp.out.cell hc hx)
    have v0' := kc.out _ _ v0 (by show V ≠ N; omega)
    by_cases hlt : k < n
    · obtain ⟨x, hx⟩ : ∃ x, ls[k]? = some x := ⟨_, List.getElem?_eq_getElem (by rw [hn.out]; exact hlt)⟩
      obtain ⟨g, rfl, -, hsg, hx0⟩ := hRS.out k x hx
      have bWr : Hid (Below w.heap.size w Wr) := Lib.hid (by rw [hPw.out]; exact bW.out.trans (hKp.out.below (by have := bW.out.size; have := hPw.out; omega) (fun b e => by omega)))
      obtain ⟨hxn, hxz⟩ := hnn.out x (List.mem_of_getElem? hx)
      have htk := Lib.hid (mapt (f := CpR.key) hx)
      clear hx
      have hx0 := Lib.hid (GCp.keep G0.keep _ _ _ _ _ hx0 (Kc.of_below bWr.out) (fun _ _ q => q))
      have hs6 := segs6 (hsg.after bWr.out)
      obtain ⟨h0, h1, h2, h3, h4, h5⟩ := hs6
      clear hsg
      have i0 : (0 : Int) ≤ k := by omega
      have i1 : (k : Int) < n := by omega
      obtain ⟨y, hy⟩ : ∃ y : CpR ByteArray, y = x := ⟨_, rfl⟩
      obtain ⟨xa, xc, xl, xnx, xn, xnc, xcb⟩ := x
      simp only at hxn hxz h0 h1 h2 h3 h4 h5
      subst hxn
      go_upto_region 5 with fail
      refine wp_gen (fun W2 hW => ?_)
      have b2 : Hid (Below Wr.heap.size Wr W2) := Lib.hid (by rw [hW]; exact ba _ _)
      have sT : Hid (Seg W2 Wr.heap.size 0 [.pointer none, .slice xa xl.length xc, .slice xnx 0 xnc, .int .i32 0, .int .u8 xcb, .bool false]) := Lib.hid (by rw [hW]; exact Seg.new _ _ _)
      clear hW
      obtain ⟨T, hT⟩ : ∃ y, Wr.heap.size = y := ⟨_, rfl⟩
      rw [hT] at sT b2
      rw [hT]
      have hTr := Lib.hid hT
      clear hT h0 h1 h2 h3 h4 h5
      have b2' : Hid (Below Wr.heap.size Wr W2) := Lib.hid (by rw [hTr.out]; exact b2.out)
      have v0'' := ac b2'.out v0'
      have hT6 := segs6 sT.out
      simp only [Nat.zero_add] at hT6
      obtain ⟨t0, t1, t2, t3, t4, t5⟩ := hT6
      have hx2 := Lib.hid (GCp.keep G0.keep _ _ _ _ _ hx0.out (Kc.of_below b2'.out) (fun _ _ q => q))
      clear v0'
      refine QTail.drawn_rel 6 (R28 V N n k (.agg #[.pointer none, .slice xa xl.length xc, .slice xnx 0 xnc, .int .i32 0, .int .u8 xcb, .bool false]) (CpR.key y) W2.heap.size) (by kernel_rfl) (by kernel_rfl) (fun i v W W' h1 h2 => R28.after i v W W' h1 h2) ?_ ?_
      · simp only [List.take_succ_cons, List.take_zero]
        refine ⟨?_, ?_, ?_, ?_, ?_, ?_, trivial⟩
        all_goals intro vs W' hC hd
        · clear hd hC
          simp only [QTail.putA, Nat.reduceAdd, Act.put, List.setIfInBounds_toArray, List.set_cons_succ, List.set_cons_zero]
          go_wp2
          exact ⟨⟨(fun _ => rfl), (fun q => by cases q), (fun q => by cases q), (fun q => by cases q), (fun q => by cases q), (fun q => by cases q)⟩, Below.refl _ _⟩
        · have e0 := (hd { on := 0, ground := Ground.data } (by simp) rfl).1 rfl
          have q0 := ac hC v0''
          clear hd hC
          simp only [QTail.putA, Nat.reduceAdd, Act.put, List.setIfInBounds_toArray, List.set_cons_succ, List.set_cons_zero]
          rw [e0]
          go_wp2
          exact ⟨⟨(fun q => by cases q), (fun _ => rfl), (fun q => by cases q), (fun q => by cases q), (fun q => by cases q), (fun q => by cases q)⟩, Below.refl _ _⟩
        · clear hd hC
          simp only [QTail.putA, Nat.reduceAdd, Act.put, List.setIfInBounds_toArray, List.set_cons_succ, List.set_cons_zero]
          go_wp2
          exact ⟨⟨(fun q => by cases q), (fun q => by cases q), (fun _ => rfl), (fun q => by cases q), (fun q => by cases q), (fun q => by cases q)⟩, Below.refl _ _⟩
        · have q0 := ac hC t0; have q1 := ac hC t1; have q2 := ac hC t2; have q3 := ac hC t3; have q4 := ac hC t4; have q5 := ac hC t5
          clear hd hC
          simp only [QTail.putA, Nat.reduceAdd, Act.put, List.setIfInBounds_toArray, List.set_cons_succ, List.set_cons_zero]
          go_wp2
          exact ⟨⟨(fun q => by cases q), (fun q => by cases q), (fun q => by cases q), (fun _ => rfl), (fun q => by cases q), (fun q => by cases q)⟩, Below.refl _ _⟩
        · have e3 := (hd { on := 3, ground := Ground.data } (by simp) rfl).2.2.2.1 rfl
          have hC' := Lib.hid hC
          have C39 := Lib.hid (clone39_c ⟨xa, xc, xl, xnx, 0, xnc, xcb⟩ O W' (GCp.keep G0.keep _ _ _ _ _ hx2.out (Kc.of_below hC) (fun _ _ q => q)) rfl hxz)
          clear hd hC
          simp only [QTail.putA, Nat.reduceAdd, Act.put, List.setIfInBounds_toArray, List.set_cons_succ, List.set_cons_zero]
          rw [e3]
          go_wp2_with (go_at_call 39; (with_reducible refine C39.out.mono ?_); rintro e w5 ⟨t, rfl, tk, -, tg, tb⟩; replace tg := Lib.hid tg; replace tb := Lib.hid tb)
          exact ⟨⟨(fun q => by cases q), (fun q => by cases q), (fun q => by cases q), (fun q => by cases q), (fun _ => ⟨t, rfl, tk, GCp.keep G0.keep _ _ _ _ _ tg.out (fun _ _ q _ => q) (fun b _ q => by have := hC'.out.size; show b < W'.heap.size; omega)⟩), (fun q => by cases q)⟩, tb.out⟩
        · have e1 := (hd { on := 1, ground := Ground.data } (by simp) rfl).2.1 rfl
          have e2 := (hd { on := 2, ground := Ground.data } (by simp) rfl).2.2.1 rfl
          clear hd hC
          simp only [QTail.putA, Nat.reduceAdd, Act.put, List.setIfInBounds_toArray, List.set_cons_succ, List.set_cons_zero]
          rw [e1, e2]
          go_wp2
          exact ⟨⟨(fun q => by cases q), (fun q => by cases q), (fun q => by cases q), (fun q => by cases q), (fun q => by cases q), (fun _ => rfl)⟩, Below.refl _ _⟩
      · intro vs W3 b3 hR
        obtain ⟨t, e4, htk2, htg⟩ := (hR 4 (by omega)).2.2.2.2.1 rfl
        have e5 := (hR 5 (by omega)).2.2.2.2.2 rfl
        replace htg := Lib.hid htg
        replace b3 := Lib.hid b3
        clear hR
        simp only [List.take_succ_cons, List.take_zero, List.drop_succ_cons, List.drop_zero, QTail.putA, Nat.reduceAdd, Act.put, List.setIfInBounds_toArray, List.set_cons_succ, List.set_cons_zero]
        rw [e4, e5]
        clear e4 e5
        generalize vs 0 = z0
        generalize vs 1 = z1
        generalize vs 2 = z2
        generalize vs 3 = z3
        clear vs
        have z3 := b3.out.size
        have hTr2 := hTr.out
        have z2 := b2.out.size
        have bWr3 : Hid (Below Wr.heap.size Wr W3) := Lib.hid (b2'.out.trans (b3.out.mono (by omega)))
        have hRm3 := Lib.hid (hRm.out.after bWr3.out)
        obtain ⟨_, c0, f0⟩ := hRm3.out (k * 6) (by omega)
        obtain ⟨_, c1, f1⟩ := hRm3.out (k * 6 + 1) (by omega)
        obtain ⟨_, c2, f2⟩ := hRm3.out (k * 6 + 2) (by omega)
        obtain ⟨_, c3, f3⟩ := hRm3.out (k * 6 + 3) (by omega)
        obtain ⟨_, c4, f4⟩ := hRm3.out (k * 6 + 4) (by omega)
        obtain ⟨_, c5, f5⟩ := hRm3.out (k * 6 + 5) (by omega)
        have hZ : ∀ (S : Nat → Prop) (wa wb : World) (b j : Nat) (v : Value), Kp S wa wb → S b → Kp S wa (wb.setCell ⟨b, j, none⟩ v) := fun S wa wb b j v hh q => hh.set _ _ (.inl q)
        have P6 := put6 (w := W3) (T := N) (o := k * 6) (.pointer none) (.slice t.a t.ls.length t.c) (.slice t.nx t.nn t.nc) (.int .i32 0) (.int .u8 t.cb) (.bool false) (fun j hj => by
          obtain ⟨v, q, -⟩ := hRm3.out (k * 6 + j) (by omega)
          exact ⟨v, q⟩)
        have K9 : Kp (fun b => b = N) Wr ((((((W3.setCell ⟨N, k * 6, none⟩ (.pointer none)).setCell ⟨N, k * 6 + 1, none⟩ (.slice t.a t.ls.length t.c)).setCell ⟨N, k * 6 + 2, none⟩ (.slice t.nx t.nn t.nc)).setCell ⟨N, k * 6 + 3, none⟩ (.int .i32 0)).setCell ⟨N, k * 6 + 4, none⟩ (.int .u8 t.cb)).setCell ⟨N, k * 6 + 5, none⟩ (.bool false)) := hZ _ _ _ N (k * 6 + 5) (.bool false) (hZ _ _ _ N (k * 6 + 4) (.int .u8 t.cb) (hZ _ _ _ N (k * 6 + 3) (.int .i32 0) (hZ _ _ _ N (k * 6 + 2) (.slice t.nx t.nn t.nc) (hZ _ _ _ N (k * 6 + 1) (.slice t.a t.ls.length t.c) (hZ _ _ _ N (k * 6) (.pointer none) (Kp.of bWr3.out) rfl) rfl) rfl) rfl) rfl) rfl
        have K7 : Kp (fun b => b = N) W3 ((((((W3.setCell ⟨N, k * 6, none⟩ (.pointer none)).setCell ⟨N, k * 6 + 1, none⟩ (.slice t.a t.ls.length t.c)).setCell ⟨N, k * 6 + 2, none⟩ (.slice t.nx t.nn t.nc)).setCell ⟨N, k * 6 + 3, none⟩ (.int .i32 0)).setCell ⟨N, k * 6 + 4, none⟩ (.int .u8 t.cb)).setCell ⟨N, k * 6 + 5, none⟩ (.bool false)) := hZ _ _ _ N (k * 6 + 5) (.bool false) (hZ _ _ _ N (k * 6 + 4) (.int .u8 t.cb) (hZ _ _ _ N (k * 6 + 3) (.int .i32 0) (hZ _ _ _ N (k * 6 + 2) (.slice t.nx t.nn t.nc) (hZ _ _ _ N (k * 6 + 1) (.slice t.a t.ls.length t.c) (hZ _ _ _ N (k * 6) (.pointer none) (Kp.refl W3) rfl) rfl) rfl) rfl) rfl) rfl
        have R9 := ((((((hRm3.out.setA ⟨N, k * 6, none⟩ (.pointer none)).setA ⟨N, k * 6 + 1, none⟩ (.slice t.a t.ls.length t.c)).setA ⟨N, k * 6 + 2, none⟩ (.slice t.nx t.nn t.nc)).setA ⟨N, k * 6 + 3, none⟩ (.int .i32 0)).setA ⟨N, k * 6 + 4, none⟩ (.int .u8 t.cb)).setA ⟨N, k * 6 + 5, none⟩ (.bool false))
        have RR : ∃ (k' : Nat) (ls2 : List (CpR ByteArray)), k' ≤ n ∧ Value.int .i64 ((k : Int) + 1) = .int .i64 k' ∧ Room ((((((W3.setCell ⟨N, k * 6, none⟩ (.pointer none)).setCell ⟨N, k * 6 + 1, none⟩ (.slice t.a t.ls.length t.c)).setCell ⟨N, k * 6 + 2, none⟩ (.slice t.nx t.nn t.nc)).setCell ⟨N, k * 6 + 3, none⟩ (.int .i32 0)).setCell ⟨N, k * 6 + 4, none⟩ (.int .u8 t.cb)).setCell ⟨N, k * 6 + 5, none⟩ (.bool false)) N (n * 6) ∧ (∀ i s, ls2[i]? = some s → Seg ((((((W3.setCell ⟨N, k * 6, none⟩ (.pointer none)).setCell ⟨N, k * 6 + 1, none⟩ (.slice t.a t.ls.length t.c)).setCell ⟨N, k * 6 + 2, none⟩ (.slice t.nx t.nn t.nc)).setCell ⟨N, k * 6 + 3, none⟩ (.int .i32 0)).setCell ⟨N, k * 6 + 4, none⟩ (.int .u8 t.cb)).setCell ⟨N, k * 6 + 5, none⟩ (.bool false)) N (i * 6) s.cells) ∧ ls2.length = k' ∧ (∀ s ∈ ls2, GCp G0 (fun b => b = N ∨ b < N) ((((((W3.setCell ⟨N, k * 6, none⟩ (.pointer none)).setCell ⟨N, k * 6 + 1, none⟩ (.slice t.a t.ls.length t.c)).setCell ⟨N, k * 6 + 2, none⟩ (.slice t.nx t.nn t.nc)).setCell ⟨N, k * 6 + 3, none⟩ (.int .i32 0)).setCell ⟨N, k * 6 + 4, none⟩ (.int .u8 t.cb)).setCell ⟨N, k * 6 + 5, none⟩ (.bool false)) s) ∧ ls2.map CpR.key = (ls.take k').map CpR.key ∧ Kp (fun b => b = N) W ((((((W3.setCell ⟨N, k * 6, none⟩ (.pointer none)).setCell ⟨N, k * 6 + 1, none⟩ (.slice t.a t.ls.length t.c)).setCell ⟨N, k * 6 + 2, none⟩ (.slice t.nx t.nn t.nc)).setCell ⟨N, k * 6 + 3, none⟩ (.int .i32 0)).setCell ⟨N, k * 6 + 4, none⟩ (.int .u8 t.cb)).setCell ⟨N, k * 6 + 5, none⟩ (.bool false)) := by
          refine ⟨k + 1, ls' ++ [t], by omega, by go_num, R9, ?_, by simp [hll.out], ?_, by rw [List.map_append, hkey.out, htk.out]; simp [htk2, hy], hKp.out.trans K9⟩
          · intro i s hi
            by_cases hik : i < k
            · rw [List.getElem?_append_left (by rw [hll.out]; exact hik)] at hi
              intro j v hj
              have hj3 : j < 6 := (List.getElem?_eq_some_iff.1 hj).1
              exact P6.2 _ _ (ac bWr3.out (hSg.out i s hi j v hj)) (.inr (.inl (by show i * 6 + j < k * 6; omega)))
            · rw [List.getElem?_append_right (by rw [hll.out]; omega), hll.out] at hi
              have hi0 : i - k = 0 := by
                have := (List.getElem?_eq_some_iff.1 hi).1
                simp at this
                omega
              rw [hi0] at hi
              injection hi with hi
              subst hi
              obtain rfl : i = k := by omega
              exact P6.1
          · intro s hs
            rcases List.mem_append.1 hs with hs | hs
            · exact GCp.keep G0.keep _ _ _ _ _ (hG.out s hs) (Kc.of_kp K9 (fun b _ e => .inl e)) (fun _ _ q => q)
            · rw [List.mem_singleton] at hs
              subst hs
              exact GCp.keep G0.keep _ _ _ _ _ htg.out (Kc.of_kp K7 (fun b _ e => by show b < W2.heap.size; omega)) (fun b _ q => by show b < W2.heap.size; rcases q with q | q <;> omega)
        clear P6 K9 K7 R9
        replace RR := Lib.hid RR
        go_wp2
        exact ⟨RR.out, by simp [intOf] <;> omega⟩
    · obtain rfl : k = n := by omega
      have r0' := kc.out _ _ r0 (by show R ≠ N; omega)
      have rf' := hKp.out.froz r0 rf (by show R ≠ N; omega)
      go_wp2
      have K := (Kp.refl Wr).set (S := fun b => b = R) ⟨R, 0, none⟩ (.slice (some ⟨N, 0, none⟩) k k) (.inl rfl)
      refine bodyPost_ret (v := .agg #[.slice (some ⟨N, 0, none⟩) k k]) (by simp [results, Tryf.results28, go_sem, r0']) rfl (hCQ.out _ _ ls' _ hll.out (by rw [hkey.out, List.take_of_length_le (by rw [hn.out]; exact Nat.le_refl _)]) (fun i s hi => ⟨N, rfl, by show ¬ N < P; omega, (hSg.out i s hi).keep (Kc.of_kp (O := fun b => b = R) K (fun b _ e => e)) (by omega), GCp.keep G0.keep _ _ _ _ _ (hG.out s (List.mem_of_getElem? hi)) (Kc.of_kp K (fun b _ e => .inr (by omega))) (fun b _ q => .inr (by have : b < P := q; omega))⟩) (bW.out.trans ((hKp.out.below (by have := bW.out.size; have := hPw.out; omega) (fun b e => by omega)).trans (K.below (by have := hPw.out; have := bW.out.size; omega) (fun b e => by omega)))))
end Go.Proofs.YtjigljpodkfchaaFmt
