/- The scan with a stack, walked. -/
import Derived.Test.YtfklgdecaknbaaaFmtAn2
import Derived.WalkSmall
import Derived.WalkMore
set_option linter.unusedVariables false
set_option linter.unusedSimpArgs false
namespace Go.Proofs.YtfklgdecaknbaaaFmt
open Go.RowKit
theorem info34 : (Tryf.prog.info? 34).map (fun i => (i.zero.map (·.cells), i.size, i.bytes)) = some (some #[.int .u8 0], 1, 1) := by kernel_rfl
theorem und64 : Tryf.prog.underlying 64 = some (.slice (Tryf.prog.elem 64)) := by kernel_rfl
theorem und35 : Tryf.prog.underlying 35 = some (.slice (Tryf.prog.elem 35)) := by kernel_rfl
theorem sz64 (w : World) : (sizeOf (Tryf.prog.elem 64)).run Tryf.prog w = .ok 1 w := by
  have e : Tryf.prog.elem 64 = 34 := by kernel_rfl
  have h : (sizeOf 34).run Tryf.prog w = .ok 1 w := by kernel_rfl
  rw [e]; exact h
theorem sz35 (w : World) : (sizeOf (Tryf.prog.elem 35)).run Tryf.prog w = .ok 5 w := by
  have e : Tryf.prog.elem 35 = 43 := by kernel_rfl
  have h : (sizeOf 43).run Tryf.prog w = .ok 5 w := by kernel_rfl
  rw [e]; exact h
theorem sl64 (W : World) (a : Option Addr) (len cap h : Nat) (hh : h ≤ cap) : (Instr.sliceAt 64 (.slice a len cap) none (some (.int .i64 (h : Int))) none).run Tryf.prog W = .ok (.slice a h cap) W := by
  rw [run_sliceAt_slice W 64 _ _ _ _ und64, run_slice_h W 64 _ _ _ und64 .i64 _ (by omega) (by omega), sz64]
  cases a <;> simp [Result.andThen, sliced, Addr.add]
theorem sl64z (W : World) : (Instr.sliceAt 64 (.slice none 0 0) none (some (.int .i64 0)) none).run Tryf.prog W = .ok (.slice none 0 0) W := sl64 W none 0 0 0 (Nat.le_refl _)
theorem sl35 (W : World) (T n i j : Nat) (hij : i < j) (hj : j ≤ n) : (Instr.sliceAt 35 (.slice (some ⟨T, 0, none⟩) n n) (some (.int .i64 (i : Int))) (some (.int .i64 (j : Int))) none).run Tryf.prog W = .ok (.slice (some ((⟨T, 0, none⟩ : Addr).add (i * 5))) (j - i) (n - i)) W := by
  rw [run_sliceAt_slice W 35 _ _ _ _ und35, run_slice_lh W 35 _ _ _ und35 .i64 .i64 _ _ (by omega) (by omega) (by omega), sz35]
  have : ¬ n = i := by omega
  simp [Result.andThen, sliced, this]
abbrev kv (k : Int) : Value := .int .u8 k
theorem one_kv (k : Int) : (#[kv k].all (·.oneCell')) = true := by simp [Value.oneCell']
def stv (st : List Int) : List Value := st.reverse.map kv
theorem PS.kp {S' : Nat → Prop} {w w' : World} {b T n : Nat} {idx : Int} {ct : ByteArray} {K S L : Nat → Int} (h : PS w b T n idx ct K S L) (k : Kp S' w w') (hb : ¬ S' b) (hT : ¬ S' T) : PS w' b T n idx ct K S L :=
  ⟨k.cell h.txt hb, k.cell h.tks hb, k.cell h.cur hb, k.froz h.cur h.free hb, h.ne, fun i hi => by
    obtain ⟨h0, h1, h2, h3, h4⟩ := h.tk i hi
    exact ⟨k.cell h0 hT, k.cell h1 hT, k.cell h2 hT, k.cell h3 hT, k.cell h4 hT⟩⟩
theorem PS.set19 {w : World} {b T n : Nat} {idx : Int} {ct : ByteArray} {K S L : Nat → Int} (h : PS w b T n idx ct K S L) (v : Value) : PS (w.setCell ⟨b, 19, none⟩ v) b T n idx ct K S L := by
  have ne : ∀ j, (⟨b, 19, none⟩ : Addr) ≠ ⟨T, j, none⟩ := fun j e => h.ne (by injection e)
  refine ⟨by rw [co (by simp)]; exact h.txt, by rw [co (by simp)]; exact h.tks, by rw [co (by simp)]; exact h.cur, by rw [fz]; exact h.free, h.ne, fun j hj => ?_⟩
  obtain ⟨h0, h1, h2, h3, h4⟩ := h.tk j hj
  exact ⟨by rw [co (ne _)]; exact h0, by rw [co (ne _)]; exact h1, by rw [co (ne _)]; exact h2, by rw [co (ne _)]; exact h3, by rw [co (ne _)]; exact h4⟩
/-- the parser, its cursor at j, its stack st -/
structure LpR (b T n : Nat) (ct : ByteArray) (K S L : Nat → Int) (W : World) (j : Nat) (st : List Int) (a : Option Addr) (c : Nat) (wr : World) : Prop where
  bl : b < W.heap.size
  tl : T < W.heap.size
  ps : PS wr b T n j ct K S L
  ce : wr.cell? ⟨b, 19, none⟩ = some (.slice a st.length c)
  fr : wr.frozen? ⟨b, 19, none⟩ = false
  own : wr.ownsRow W.heap.size 34 1 (.slice a st.length c) st.length (stv st)
  kp : Kp (fun k => k = b) W wr
section
variable {b T n : Nat} {ct : ByteArray} {K S L : Nat → Int} {W : World} {j : Nat} {st : List Int} {a : Option Addr} {c : Nat} {wr w1 : World}
theorem LpR.after (h : LpR b T n ct K S L W j st a c wr) (hb : Below wr.heap.size wr w1) : LpR b T n ct K S L W j st a c w1 :=
  ⟨h.bl, h.tl, h.ps.after hb, ac hb h.ce, af hb h.ce h.fr, (Kp.of (S := fun _ => False) hb).own h.own (fun _ _ q => q), h.kp.trans (Kp.of hb)⟩
theorem LpR.away (h : LpR b T n ct K S L W j st a c wr) : ∀ k, (Value.slice a st.length c).ownBlock = some k → ¬ k = b ∧ ¬ k = T := fun k e => by
  have := (h.own.lt k e).1
  have := h.bl; have := h.tl
  omega
theorem LpR.move (h : LpR b T n ct K S L W j st a c wr) (q : Nat) : LpR b T n ct K S L W (j + 1) st a c ((wr.drewN q).setCell ⟨b, 42, none⟩ (.int .i64 ((j : Int) + 1))) := by
  have h2 := h.after (bdN (Below.refl _ wr) q)
  refine ⟨h.bl, h.tl, ?_, by rw [co (by simp)]; exact h2.ce, by rw [fz]; exact h2.fr, ?_, h2.kp.set _ _ (.inl rfl)⟩
  · have := h2.ps.move ((j : Int) + 1)
    push_cast
    exact this
  · exact ((Kp.refl (S := fun k => k = b) _).set ⟨b, 42, none⟩ _ (.inl rfl)).own h2.own (fun k e => (h2.away k e).1)
theorem LpR.pop {d : Int} {g : Nat} (h : LpR b T n ct K S L W j (d :: st) (some ⟨g, 0, none⟩) c wr) : LpR b T n ct K S L W j st (some ⟨g, 0, none⟩) c (wr.setCell ⟨b, 19, none⟩ (.slice (some ⟨g, 0, none⟩) st.length c)) := by
  have ho := h.own
  have he : stv (d :: st) = stv st ++ [kv d] := by simp [stv]
  rw [he] at ho
  have ho2 := ownsRow_pop (by simp [stv]) ho
  refine ⟨h.bl, h.tl, h.ps.set19 _, cs h.ce, by rw [fz]; exact h.fr, ?_, h.kp.set _ _ (.inl rfl)⟩
  exact ((Kp.refl (S := fun k => k = b) _).set ⟨b, 19, none⟩ _ (.inl rfl)).own ho2 (fun k e => (h.away k (by simpa [Value.ownBlock] using e)).1)
theorem LpR.push {d : Int} {a' : Option Addr} {c' : Nat} (h : LpR b T n ct K S L W j st a c wr) (ho : w1.ownsRow W.heap.size 34 1 (.slice a' (st.length + 1) c') (st.length + 1) (stv st ++ [kv d])) (hk : Kp (fun k => (Value.slice a st.length c).ownBlock = some k) wr w1) :
    LpR b T n ct K S L W j (d :: st) a' c' (w1.setCell ⟨b, 19, none⟩ (.slice a' (st.length + 1) c')) := by
  have hb : ¬ (Value.slice a st.length c).ownBlock = some b := fun e => (h.away b e).1 rfl
  have hT : ¬ (Value.slice a st.length c).ownBlock = some T := fun e => (h.away T e).2 rfl
  have he : stv (d :: st) = stv st ++ [kv d] := by simp [stv]
  refine ⟨h.bl, h.tl, (h.ps.kp hk hb hT).set19 _, cs (hk.cell h.ce hb), by rw [fz]; exact hk.froz h.ce h.fr hb, ?_, (h.kp.trans' hk (fun k e hlt => absurd (h.own.lt k e).1 (by omega))).set _ _ (.inl rfl)⟩
  rw [he]
  exact ((Kp.refl (S := fun k => k = b) _).set ⟨b, 19, none⟩ _ (.inl rfl)).own ho (fun k e => by have := (ho.lt k e).1; have := h.bl; omega)
theorem LpR.top {d : Int} {g : Nat} (h : LpR b T n ct K S L W j (d :: st) (some ⟨g, 0, none⟩) c wr) : wr.cell? ⟨g, st.length, none⟩ = some (kv d) := by
  have := h.own.cellAt (st.length * 1 + 0) (by simp)
  simpa [stv] using this
end
def curOf (b : Nat) (w : World) : Nat := match w.cell? ⟨b, 42, none⟩ with
  | some (.int _ k) => k.toNat
  | _ => 0
def AnR (b T n i : Nat) (ct : ByteArray) (K S L : Nat → Int) (W : World) (wr : World) : Prop :=
  ∃ j st a c, LpR b T n ct K S L W j st a c wr ∧ i ≤ j ∧ j ≤ n ∧ st.length ≤ j ∧ Hid (Rn (cl n K) n j st = Rn (cl n K) n i [])
/-- what the scan answers -/
def AnyB (b n i : Nat) (K : Nat → Int) (W : World) (e : Ending) (w' : World) : Prop :=
  ∃ A c, e = .returned (.slice A (Rn (cl n K) n i [] - i) c) ∧ w'.cell? ⟨b, 42, none⟩ = some (.int .i64 (Rn (cl n K) n i [])) ∧ Kp (fun k => k = b) W w'
theorem curOf_ps {b T n j : Nat} {ct : ByteArray} {K S L : Nat → Int} {w : World} (h : PS w b T n j ct K S L) : curOf b w = j := by
  unfold curOf
  rw [h.cur]
  simp
theorem AnR.next {b T n i j : Nat} {st : List Int} {a : Option Addr} {c : Nat} {ct : ByteArray} {K S L : Nat → Int} {W wr : World} (h : LpR b T n ct K S L W j st a c wr) (q : Nat) (hij : i ≤ j) (hj : j < n) (hl : st.length ≤ j + 1) (hr : Rn (cl n K) n (j + 1) st = Rn (cl n K) n i []) :
    AnR b T n i ct K S L W ((wr.drewN q).setCell ⟨b, 42, none⟩ (.int .i64 ((j : Int) + 1))) ∧ n - curOf b ((wr.drewN q).setCell ⟨b, 42, none⟩ (.int .i64 ((j : Int) + 1))) = n - (j + 1) :=
  ⟨⟨j + 1, st, a, c, h.move q, by omega, by omega, hl, Lib.hid hr⟩, by rw [curOf_ps (h.move q).ps]⟩
set_option maxRecDepth 100000 in
set_option maxHeartbeats 8000000 in
theorem any12_c (b T n i : Nat) (ct : ByteArray) (K S L : Nat → Int) (W : World) (h : PS W b T n i ct K S L) (hst : W.cell? ⟨b, 19, none⟩ = some (.slice none 0 0)) (hfr : W.frozen? ⟨b, 19, none⟩ = false) (hT : T < W.heap.size) (hn : n ≤ 1048576) (hs : ct.size ≤ 1048576) (hi : i ≤ n) (hne : Rn (cl n K) n i [] ≠ i) :
    Calls Tryf.prog 12 #[.pointer (some ⟨b, 0, none⟩)] W (AnyB b n i K W) := by
  have a1 := h.cur
  have hbl : b < W.heap.size := block_lt_of_cell h.cur
  have H0 : AnR b T n i ct K S L W (W.setCell ⟨b, 19, none⟩ (.slice none 0 0)) := ⟨i, [], none, 0, ⟨hbl, hT, h.set19 _, cs hst, by rw [fz]; exact hfr, ⟨rfl, .inl ⟨rfl, rfl⟩⟩, (Kp.refl _).set _ _ (.inl rfl)⟩, Nat.le_refl _, hi, by simp, Lib.hid rfl⟩
  have HH := Lib.hid H0
  have NE := Lib.hid hne
  have z1 := sl64z
  clear h H0 hne
  go_enter Tryf.func12, Tryf.ntmps12
  go_wp2
  go_step3
  go_wp2
  go_step3
  go_wp2
  clear hst hfr a1 z1
  go_loopw [4] (fun x wr => AnR b T n i ct K S L W wr) (fun x wr => n - curOf b wr)
  case atStart => exact HH.out
  case round =>
    clear HH
    obtain ⟨j, st, a, c, hL, hij, hj, hl, hR⟩ := hrel
    have hcur := curOf_ps hL.ps
    have kf := fld_kind
    have C := Lib.hid (current_c b T n j ct K S L wr hL.ps hn hs (by omega))
    have HL := Lib.hid hL
    clear hL
    by_cases k0 : atK n K j = 0
    · have hc := Lib.hid (show cl n K j = .eof by unfold cl; rw [k0]; rfl)
      rw [k0] at C
      have hv := Lib.hid (Rn_step (cls := cl n K) hj st)
      rw [hc.out] at hv
      simp only at hv
      go_wp2_with (go_at_call 14; (with_reducible refine C.out.mono ?_); rintro e w1 ⟨rfl, hb1⟩; replace HL := Lib.hid (HL.out.after hb1); clear hb1; have a1 := HL.out.ce; have f1 := HL.out.fr)
      have hje := Lib.hid (show j = Rn (cl n K) n i [] from hv.out.symm.trans hR.out)
      have hne2 : i < j := by have := NE.out; have := hje.out; omega
      have a3 := HL.out.ps.tks
      have a4 := HL.out.ps.cur
      have i0 : (0 : Int) ≤ (i : Int) := by omega
      have i1 : (i : Int) ≤ (j : Int) := by omega
      have i2 : (j : Int) ≤ (n : Int) := by omega
      have i3 : (((j - i : Nat) : Int) == 0) = false := by simp; omega
      have z2 := fun W => sl35 W T n i j hne2 hj
      go_quiet (fail)
      go_wp2
      rw [Exit.noGoto_ret]
      go_ret
      unfold AnyB
      rw [← hje.out]
      exact ⟨_, _, rfl, (HL.out.after (bdN (Below.refl _ _) nq)).ps.cur, (HL.out.after (bdN (Below.refl _ _) nq)).kp⟩
    have n0 : (atK n K j == 0) = false := by simpa using k0
    by_cases k8 : atK n K j = 8
    · have hc := Lib.hid (show cl n K j = .close 8 by unfold cl; rw [k8]; rfl)
      rw [k8] at C
      clear n0
      have hv := Lib.hid (Rn_step (cls := cl n K) hj st)
      rw [hc.out] at hv
      simp only at hv
      have hlt : j < n := cl_lt (K := K) (by rw [hc.out]; simp)
      cases st with
      | nil =>
        simp only [List.length_nil] at *
        go_wp2_with (go_at_call 14; (with_reducible refine C.out.mono ?_); rintro e w1 ⟨rfl, hb1⟩; replace HL := Lib.hid (HL.out.after hb1); clear hb1; have a1 := HL.out.ce; have f1 := HL.out.fr)
        have hje := Lib.hid (show j = Rn (cl n K) n i [] from hv.out.symm.trans hR.out)
        have hne2 : i < j := by have := NE.out; have := hje.out; omega
        have a3 := HL.out.ps.tks
        have a4 := HL.out.ps.cur
        have i0 : (0 : Int) ≤ (i : Int) := by omega
        have i1 : (i : Int) ≤ (j : Int) := by omega
        have i2 : (j : Int) ≤ (n : Int) := by omega
        have i3 : (((j - i : Nat) : Int) == 0) = false := by simp; omega
        have z2 := fun W => sl35 W T n i j hne2 hj
        go_quiet (fail)
        go_wp2
        rw [Exit.noGoto_ret]
        go_ret
        unfold AnyB
        rw [← hje.out]
        exact ⟨_, _, rfl, (HL.out.after (bdN (Below.refl _ _) nq)).ps.cur, (HL.out.after (bdN (Below.refl _ _) nq)).kp⟩
      | cons d st =>
        obtain ⟨g, c2, e2, -, -, hcn, -⟩ := own_some HL.out.own (by simp)
        obtain ⟨rfl, rfl⟩ : a = some ⟨g, 0, none⟩ ∧ c = c2 := by injection e2 with e3 e4 e5; exact ⟨e3, e5⟩
        clear e2
        simp only [List.length_cons] at *
        have hcap : st.length ≤ c := by omega
        have z3 := fun W => sl64 W (some ⟨g, 0, none⟩) (st.length + 1) c st.length hcap
        by_cases hd : d = 8
        · subst hd
          rw [if_pos rfl] at hv
          have hz := Lib.hid (hv.out.symm.trans hR.out)
          have PK := Lib.hid (fun w1 (h : PS w1 b T n j ct K S L) => (show Calls Tryf.prog 15 #[.pointer (some ⟨b, 0, none⟩), .int .u8 8] w1 (fun e w' => e = .returned (.bool true) ∧ Below w1.heap.size w1 w') from by have := peek_c b T n j 8 ct K S L w1 h hn hs (by omega); rw [k8] at this; exact this))
          clear k8
          go_wp2_with (first | (go_at_call 14; (with_reducible refine C.out.mono ?_); rintro e w1 ⟨rfl, hb1⟩; replace HL := Lib.hid (HL.out.after hb1); clear hb1; have a1 := HL.out.ce; have t1 := HL.out.top; have f1 := HL.out.fr) | (go_at_call 15; (with_reducible refine (PK.out _ HL.out.ps).mono ?_); rintro e w2 ⟨rfl, hb2⟩; replace HL := Lib.hid (HL.out.after hb2); clear hb2 a1 f1; have a1 := HL.out.ce; have f1 := HL.out.fr) | (go_at_call 16; (with_reducible refine (advance_c b T n j ct K S L _ (HL.out.pop).ps hn hlt).mono ?_); rintro e w9 ⟨rfl, q9, rfl⟩))
          have hN := AnR.next (i := i) (HL.out.pop) q9 hij hlt (by omega) hz.out
          rw [hcur, hN.2]
          exact ⟨hN.1, by omega⟩
        · rw [if_neg hd] at hv
          have hd2 : (d == 8) = false := by simpa using hd
          clear hd
          have PK := Lib.hid (fun w1 (h : PS w1 b T n j ct K S L) => (show Calls Tryf.prog 15 #[.pointer (some ⟨b, 0, none⟩), .int .u8 d] w1 (fun e w' => e = .returned (.bool false) ∧ Below w1.heap.size w1 w') from by have := peek_c b T n j d ct K S L w1 h hn hs (by omega); rw [k8, hd2] at this; exact this))
          clear k8
          go_wp2_with (first | (go_at_call 14; (with_reducible refine C.out.mono ?_); rintro e w1 ⟨rfl, hb1⟩; replace HL := Lib.hid (HL.out.after hb1); clear hb1; have a1 := HL.out.ce; have t1 := HL.out.top; have f1 := HL.out.fr) | (go_at_call 15; (with_reducible refine (PK.out _ HL.out.ps).mono ?_); rintro e w2 ⟨rfl, hb2⟩; replace HL := Lib.hid (HL.out.after hb2); clear hb2 a1 f1; have a1 := HL.out.ce; have f1 := HL.out.fr))
          have hje := Lib.hid (show j = Rn (cl n K) n i [] from hv.out.symm.trans hR.out)
          have hne2 : i < j := by have := NE.out; have := hje.out; omega
          have a3 := HL.out.ps.tks
          have a4 := HL.out.ps.cur
          have i0 : (0 : Int) ≤ (i : Int) := by omega
          have i1 : (i : Int) ≤ (j : Int) := by omega
          have i2 : (j : Int) ≤ (n : Int) := by omega
          have i3 : (((j - i : Nat) : Int) == 0) = false := by simp; omega
          have z2 := fun W => sl35 W T n i j hne2 hj
          go_quiet (fail)
          go_wp2
          rw [Exit.noGoto_ret]
          go_ret
          unfold AnyB
          rw [← hje.out]
          exact ⟨_, _, rfl, (HL.out.after (bdN (Below.refl _ _) nq)).ps.cur, (HL.out.after (bdN (Below.refl _ _) nq)).kp⟩
    have n8 : (atK n K j == 8) = false := by simpa using k8
    by_cases k7 : atK n K j = 7
    · have hc := Lib.hid (show cl n K j = .close 7 by unfold cl; rw [k7]; rfl)
      rw [k7] at C
      clear n0 n8
      have hv := Lib.hid (Rn_step (cls := cl n K) hj st)
      rw [hc.out] at hv
      simp only at hv
      have hlt : j < n := cl_lt (K := K) (by rw [hc.out]; simp)
      cases st with
      | nil =>
        simp only [List.length_nil] at *
        go_wp2_with (go_at_call 14; (with_reducible refine C.out.mono ?_); rintro e w1 ⟨rfl, hb1⟩; replace HL := Lib.hid (HL.out.after hb1); clear hb1; have a1 := HL.out.ce; have f1 := HL.out.fr)
        have hje := Lib.hid (show j = Rn (cl n K) n i [] from hv.out.symm.trans hR.out)
        have hne2 : i < j := by have := NE.out; have := hje.out; omega
        have a3 := HL.out.ps.tks
        have a4 := HL.out.ps.cur
        have i0 : (0 : Int) ≤ (i : Int) := by omega
        have i1 : (i : Int) ≤ (j : Int) := by omega
        have i2 : (j : Int) ≤ (n : Int) := by omega
        have i3 : (((j - i : Nat) : Int) == 0) = false := by simp; omega
        have z2 := fun W => sl35 W T n i j hne2 hj
        go_quiet (fail)
        go_wp2
        rw [Exit.noGoto_ret]
        go_ret
        unfold AnyB
        rw [← hje.out]
        exact ⟨_, _, rfl, (HL.out.after (bdN (Below.refl _ _) nq)).ps.cur, (HL.out.after (bdN (Below.refl _ _) nq)).kp⟩
      | cons d st =>
        obtain ⟨g, c2, e2, -, -, hcn, -⟩ := own_some HL.out.own (by simp)
        obtain ⟨rfl, rfl⟩ : a = some ⟨g, 0, none⟩ ∧ c = c2 := by injection e2 with e3 e4 e5; exact ⟨e3, e5⟩
        clear e2
        simp only [List.length_cons] at *
        have hcap : st.length ≤ c := by omega
        have z3 := fun W => sl64 W (some ⟨g, 0, none⟩) (st.length + 1) c st.length hcap
        by_cases hd : d = 7
        · subst hd
          rw [if_pos rfl] at hv
          have hz := Lib.hid (hv.out.symm.trans hR.out)
          have PK := Lib.hid (fun w1 (h : PS w1 b T n j ct K S L) => (show Calls Tryf.prog 15 #[.pointer (some ⟨b, 0, none⟩), .int .u8 7] w1 (fun e w' => e = .returned (.bool true) ∧ Below w1.heap.size w1 w') from by have := peek_c b T n j 7 ct K S L w1 h hn hs (by omega); rw [k7] at this; exact this))
          clear k7
          go_wp2_with (first | (go_at_call 14; (with_reducible refine C.out.mono ?_); rintro e w1 ⟨rfl, hb1⟩; replace HL := Lib.hid (HL.out.after hb1); clear hb1; have a1 := HL.out.ce; have t1 := HL.out.top; have f1 := HL.out.fr) | (go_at_call 15; (with_reducible refine (PK.out _ HL.out.ps).mono ?_); rintro e w2 ⟨rfl, hb2⟩; replace HL := Lib.hid (HL.out.after hb2); clear hb2 a1 f1; have a1 := HL.out.ce; have f1 := HL.out.fr) | (go_at_call 16; (with_reducible refine (advance_c b T n j ct K S L _ (HL.out.pop).ps hn hlt).mono ?_); rintro e w9 ⟨rfl, q9, rfl⟩))
          have hN := AnR.next (i := i) (HL.out.pop) q9 hij hlt (by omega) hz.out
          rw [hcur, hN.2]
          exact ⟨hN.1, by omega⟩
        · rw [if_neg hd] at hv
          have hd2 : (d == 7) = false := by simpa using hd
          clear hd
          have PK := Lib.hid (fun w1 (h : PS w1 b T n j ct K S L) => (show Calls Tryf.prog 15 #[.pointer (some ⟨b, 0, none⟩), .int .u8 d] w1 (fun e w' => e = .returned (.bool false) ∧ Below w1.heap.size w1 w') from by have := peek_c b T n j d ct K S L w1 h hn hs (by omega); rw [k7, hd2] at this; exact this))
          clear k7
          go_wp2_with (first | (go_at_call 14; (with_reducible refine C.out.mono ?_); rintro e w1 ⟨rfl, hb1⟩; replace HL := Lib.hid (HL.out.after hb1); clear hb1; have a1 := HL.out.ce; have t1 := HL.out.top; have f1 := HL.out.fr) | (go_at_call 15; (with_reducible refine (PK.out _ HL.out.ps).mono ?_); rintro e w2 ⟨rfl, hb2⟩; replace HL := Lib.hid (HL.out.after hb2); clear hb2 a1 f1; have a1 := HL.out.ce; have f1 := HL.out.fr))
          have hje := Lib.hid (show j = Rn (cl n K) n i [] from hv.out.symm.trans hR.out)
          have hne2 : i < j := by have := NE.out; have := hje.out; omega
          have a3 := HL.out.ps.tks
          have a4 := HL.out.ps.cur
          have i0 : (0 : Int) ≤ (i : Int) := by omega
          have i1 : (i : Int) ≤ (j : Int) := by omega
          have i2 : (j : Int) ≤ (n : Int) := by omega
          have i3 : (((j - i : Nat) : Int) == 0) = false := by simp; omega
          have z2 := fun W => sl35 W T n i j hne2 hj
          go_quiet (fail)
          go_wp2
          rw [Exit.noGoto_ret]
          go_ret
          unfold AnyB
          rw [← hje.out]
          exact ⟨_, _, rfl, (HL.out.after (bdN (Below.refl _ _) nq)).ps.cur, (HL.out.after (bdN (Below.refl _ _) nq)).kp⟩
    have n7 : (atK n K j == 7) = false := by simpa using k7
    by_cases k6 : atK n K j = 6
    · have hc := Lib.hid (show cl n K j = .close 6 by unfold cl; rw [k6]; rfl)
      rw [k6] at C
      clear n0 n8 n7
      have hv := Lib.hid (Rn_step (cls := cl n K) hj st)
      rw [hc.out] at hv
      simp only at hv
      have hlt : j < n := cl_lt (K := K) (by rw [hc.out]; simp)
      cases st with
      | nil =>
        simp only [List.length_nil] at *
        go_wp2_with (go_at_call 14; (with_reducible refine C.out.mono ?_); rintro e w1 ⟨rfl, hb1⟩; replace HL := Lib.hid (HL.out.after hb1); clear hb1; have a1 := HL.out.ce; have f1 := HL.out.fr)
        have hje := Lib.hid (show j = Rn (cl n K) n i [] from hv.out.symm.trans hR.out)
        have hne2 : i < j := by have := NE.out; have := hje.out; omega
        have a3 := HL.out.ps.tks
        have a4 := HL.out.ps.cur
        have i0 : (0 : Int) ≤ (i : Int) := by omega
        have i1 : (i : Int) ≤ (j : Int) := by omega
        have i2 : (j : Int) ≤ (n : Int) := by omega
        have i3 : (((j - i : Nat) : Int) == 0) = false := by simp; omega
        have z2 := fun W => sl35 W T n i j hne2 hj
        go_quiet (fail)
        go_wp2
        rw [Exit.noGoto_ret]
        go_ret
        unfold AnyB
        rw [← hje.out]
        exact ⟨_, _, rfl, (HL.out.after (bdN (Below.refl _ _) nq)).ps.cur, (HL.out.after (bdN (Below.refl _ _) nq)).kp⟩
      | cons d st =>
        obtain ⟨g, c2, e2, -, -, hcn, -⟩ := own_some HL.out.own (by simp)
        obtain ⟨rfl, rfl⟩ : a = some ⟨g, 0, none⟩ ∧ c = c2 := by injection e2 with e3 e4 e5; exact ⟨e3, e5⟩
        clear e2
        simp only [List.length_cons] at *
        have hcap : st.length ≤ c := by omega
        have z3 := fun W => sl64 W (some ⟨g, 0, none⟩) (st.length + 1) c st.length hcap
        by_cases hd : d = 6
        · subst hd
          rw [if_pos rfl] at hv
          have hz := Lib.hid (hv.out.symm.trans hR.out)
          have PK := Lib.hid (fun w1 (h : PS w1 b T n j ct K S L) => (show Calls Tryf.prog 15 #[.pointer (some ⟨b, 0, none⟩), .int .u8 6] w1 (fun e w' => e = .returned (.bool true) ∧ Below w1.heap.size w1 w') from by have := peek_c b T n j 6 ct K S L w1 h hn hs (by omega); rw [k6] at this; exact this))
          clear k6
          go_wp2_with (first | (go_at_call 14; (with_reducible refine C.out.mono ?_); rintro e w1 ⟨rfl, hb1⟩; replace HL := Lib.hid (HL.out.after hb1); clear hb1; have a1 := HL.out.ce; have t1 := HL.out.top; have f1 := HL.out.fr) | (go_at_call 15; (with_reducible refine (PK.out _ HL.out.ps).mono ?_); rintro e w2 ⟨rfl, hb2⟩; replace HL := Lib.hid (HL.out.after hb2); clear hb2 a1 f1; have a1 := HL.out.ce; have f1 := HL.out.fr) | (go_at_call 16; (with_reducible refine (advance_c b T n j ct K S L _ (HL.out.pop).ps hn hlt).mono ?_); rintro e w9 ⟨rfl, q9, rfl⟩))
          have hN := AnR.next (i := i) (HL.out.pop) q9 hij hlt (by omega) hz.out
          rw [hcur, hN.2]
          exact ⟨hN.1, by omega⟩
        · rw [if_neg hd] at hv
          have hd2 : (d == 6) = false := by simpa using hd
          clear hd
          have PK := Lib.hid (fun w1 (h : PS w1 b T n j ct K S L) => (show Calls Tryf.prog 15 #[.pointer (some ⟨b, 0, none⟩), .int .u8 d] w1 (fun e w' => e = .returned (.bool false) ∧ Below w1.heap.size w1 w') from by have := peek_c b T n j d ct K S L w1 h hn hs (by omega); rw [k6, hd2] at this; exact this))
          clear k6
          go_wp2_with (first | (go_at_call 14; (with_reducible refine C.out.mono ?_); rintro e w1 ⟨rfl, hb1⟩; replace HL := Lib.hid (HL.out.after hb1); clear hb1; have a1 := HL.out.ce; have t1 := HL.out.top; have f1 := HL.out.fr) | (go_at_call 15; (with_reducible refine (PK.out _ HL.out.ps).mono ?_); rintro e w2 ⟨rfl, hb2⟩; replace HL := Lib.hid (HL.out.after hb2); clear hb2 a1 f1; have a1 := HL.out.ce; have f1 := HL.out.fr))
          have hje := Lib.hid (show j = Rn (cl n K) n i [] from hv.out.symm.trans hR.out)
          have hne2 : i < j := by have := NE.out; have := hje.out; omega
          have a3 := HL.out.ps.tks
          have a4 := HL.out.ps.cur
          have i0 : (0 : Int) ≤ (i : Int) := by omega
          have i1 : (i : Int) ≤ (j : Int) := by omega
          have i2 : (j : Int) ≤ (n : Int) := by omega
          have i3 : (((j - i : Nat) : Int) == 0) = false := by simp; omega
          have z2 := fun W => sl35 W T n i j hne2 hj
          go_quiet (fail)
          go_wp2
          rw [Exit.noGoto_ret]
          go_ret
          unfold AnyB
          rw [← hje.out]
          exact ⟨_, _, rfl, (HL.out.after (bdN (Below.refl _ _) nq)).ps.cur, (HL.out.after (bdN (Below.refl _ _) nq)).kp⟩
    have n6 : (atK n K j == 6) = false := by simpa using k6
    by_cases k35 : atK n K j = 35
    · have hc := Lib.hid (show cl n K j = .semi by unfold cl; rw [k35]; rfl)
      rw [k35] at C
      clear n0 n8 n7 n6
      have hv := Lib.hid (Rn_step (cls := cl n K) hj st)
      rw [hc.out] at hv
      simp only at hv
      have hlt : j < n := cl_lt (K := K) (by rw [hc.out]; simp)
      cases st with
      | nil =>
        simp only [List.length_nil] at *
        go_wp2_with (go_at_call 14; (with_reducible refine C.out.mono ?_); rintro e w1 ⟨rfl, hb1⟩; replace HL := Lib.hid (HL.out.after hb1); clear hb1; have a1 := HL.out.ce; have f1 := HL.out.fr)
        have hje := Lib.hid (show j = Rn (cl n K) n i [] from hv.out.symm.trans hR.out)
        have hne2 : i < j := by have := NE.out; have := hje.out; omega
        have a3 := HL.out.ps.tks
        have a4 := HL.out.ps.cur
        have i0 : (0 : Int) ≤ (i : Int) := by omega
        have i1 : (i : Int) ≤ (j : Int) := by omega
        have i2 : (j : Int) ≤ (n : Int) := by omega
        have i3 : (((j - i : Nat) : Int) == 0) = false := by simp; omega
        have z2 := fun W => sl35 W T n i j hne2 hj
        go_quiet (fail)
        go_wp2
        rw [Exit.noGoto_ret]
        go_ret
        unfold AnyB
        rw [← hje.out]
        exact ⟨_, _, rfl, (HL.out.after (bdN (Below.refl _ _) nq)).ps.cur, (HL.out.after (bdN (Below.refl _ _) nq)).kp⟩
      | cons d st =>
        simp only [List.length_cons] at *
        have hz := Lib.hid (hv.out.symm.trans hR.out)
        go_wp2_with (first | (go_at_call 14; (with_reducible refine C.out.mono ?_); rintro e w1 ⟨rfl, hb1⟩; replace HL := Lib.hid (HL.out.after hb1); clear hb1; have a1 := HL.out.ce; have f1 := HL.out.fr) | (go_at_call 16; (with_reducible refine (advance_c b T n j ct K S L _ HL.out.ps hn hlt).mono ?_); rintro e w9 ⟨rfl, q9, rfl⟩))
        have hN := AnR.next (i := i) HL.out q9 hij hlt (by simp only [List.length_cons]; omega) hz.out
        rw [hcur, hN.2]
        exact ⟨hN.1, by omega⟩
    have n35 : (atK n K j == 35) = false := by simpa using k35
    by_cases k19 : atK n K j = 19
    · have hc := Lib.hid (show cl n K j = .semi by unfold cl; rw [k19]; rfl)
      rw [k19] at C
      clear n0 n8 n7 n6 n35
      have hv := Lib.hid (Rn_step (cls := cl n K) hj st)
      rw [hc.out] at hv
      simp only at hv
      have hlt : j < n := cl_lt (K := K) (by rw [hc.out]; simp)
      cases st with
      | nil =>
        simp only [List.length_nil] at *
        go_wp2_with (go_at_call 14; (with_reducible refine C.out.mono ?_); rintro e w1 ⟨rfl, hb1⟩; replace HL := Lib.hid (HL.out.after hb1); clear hb1; have a1 := HL.out.ce; have f1 := HL.out.fr)
        have hje := Lib.hid (show j = Rn (cl n K) n i [] from hv.out.symm.trans hR.out)
        have hne2 : i < j := by have := NE.out; have := hje.out; omega
        have a3 := HL.out.ps.tks
        have a4 := HL.out.ps.cur
        have i0 : (0 : Int) ≤ (i : Int) := by omega
        have i1 : (i : Int) ≤ (j : Int) := by omega
        have i2 : (j : Int) ≤ (n : Int) := by omega
        have i3 : (((j - i : Nat) : Int) == 0) = false := by simp; omega
        have z2 := fun W => sl35 W T n i j hne2 hj
        go_quiet (fail)
        go_wp2
        rw [Exit.noGoto_ret]
        go_ret
        unfold AnyB
        rw [← hje.out]
        exact ⟨_, _, rfl, (HL.out.after (bdN (Below.refl _ _) nq)).ps.cur, (HL.out.after (bdN (Below.refl _ _) nq)).kp⟩
      | cons d st =>
        simp only [List.length_cons] at *
        have hz := Lib.hid (hv.out.symm.trans hR.out)
        go_wp2_with (first | (go_at_call 14; (with_reducible refine C.out.mono ?_); rintro e w1 ⟨rfl, hb1⟩; replace HL := Lib.hid (HL.out.after hb1); clear hb1; have a1 := HL.out.ce; have f1 := HL.out.fr) | (go_at_call 16; (with_reducible refine (advance_c b T n j ct K S L _ HL.out.ps hn hlt).mono ?_); rintro e w9 ⟨rfl, q9, rfl⟩))
        have hN := AnR.next (i := i) HL.out q9 hij hlt (by simp only [List.length_cons]; omega) hz.out
        rw [hcur, hN.2]
        exact ⟨hN.1, by omega⟩
    have n19 : (atK n K j == 19) = false := by simpa using k19
    by_cases k33 : atK n K j = 33
    · have hc := Lib.hid (show cl n K j = .opn 8 by unfold cl; rw [k33]; rfl)
      rw [k33] at C
      clear n0 n8 n7 n6 n35 n19
      have hv := Lib.hid (Rn_step (cls := cl n K) hj st)
      rw [hc.out] at hv
      simp only at hv
      have hlt : j < n := cl_lt (K := K) (by rw [hc.out]; simp)
      have hz := Lib.hid (hv.out.symm.trans hR.out)
      go_wp2_with (first | (go_at_call 14; (with_reducible refine C.out.mono ?_); rintro e w1 ⟨rfl, hb1⟩; replace HL := Lib.hid (HL.out.after hb1); clear hb1; have a1 := HL.out.ce; have f1 := HL.out.fr) | (at_builtin; go_loud (refine app1 (.tmp 70) (.tmp 71) 64 34 W.heap.size 1 1 #[.int .u8 0] #[.int .u8 8] (.slice a st.length c) st.length (stv st) rfl rfl rfl rfl rfl Tryf.underlying64 info34 rfl (by omega) HL.out.own rfl (one_kv 8) (by omega) (by omega) HL.out.kp.size ?_); intro v2 w2 h2 hk2; obtain ⟨a2, c2, rfl, -, -⟩ := own_shape h2; have HP := Lib.hid (HL.out.push h2 hk2); have b1 := (HL.out.ps.kp hk2 (fun e => (HL.out.away b e).1 rfl) (fun e => (HL.out.away T e).2 rfl)).cur; have b2 := hk2.cell HL.out.ce (fun e => (HL.out.away b e).1 rfl); have b3 := hk2.froz HL.out.ce HL.out.fr (fun e => (HL.out.away b e).1 rfl); replace h2 := Lib.hid h2; replace hk2 := Lib.hid hk2) | (go_at_call 16; (with_reducible refine (advance_c b T n j ct K S L _ HP.out.ps hn hlt).mono ?_); rintro e w9 ⟨rfl, q9, rfl⟩))
      have hN := AnR.next (i := i) HP.out q9 hij hlt (by simp only [List.length_cons]; omega) hz.out
      rw [hcur, hN.2]
      exact ⟨hN.1, by omega⟩
    have n33 : (atK n K j == 33) = false := by simpa using k33
    by_cases k27 : atK n K j = 27
    · have hc := Lib.hid (show cl n K j = .opn 8 by unfold cl; rw [k27]; rfl)
      rw [k27] at C
      clear n0 n8 n7 n6 n35 n19 n33
      have hv := Lib.hid (Rn_step (cls := cl n K) hj st)
      rw [hc.out] at hv
      simp only at hv
      have hlt : j < n := cl_lt (K := K) (by rw [hc.out]; simp)
      have hz := Lib.hid (hv.out.symm.trans hR.out)
      go_wp2_with (first | (go_at_call 14; (with_reducible refine C.out.mono ?_); rintro e w1 ⟨rfl, hb1⟩; replace HL := Lib.hid (HL.out.after hb1); clear hb1; have a1 := HL.out.ce; have f1 := HL.out.fr) | (at_builtin; go_loud (refine app1 (.tmp 70) (.tmp 71) 64 34 W.heap.size 1 1 #[.int .u8 0] #[.int .u8 8] (.slice a st.length c) st.length (stv st) rfl rfl rfl rfl rfl Tryf.underlying64 info34 rfl (by omega) HL.out.own rfl (one_kv 8) (by omega) (by omega) HL.out.kp.size ?_); intro v2 w2 h2 hk2; obtain ⟨a2, c2, rfl, -, -⟩ := own_shape h2; have HP := Lib.hid (HL.out.push h2 hk2); have b1 := (HL.out.ps.kp hk2 (fun e => (HL.out.away b e).1 rfl) (fun e => (HL.out.away T e).2 rfl)).cur; have b2 := hk2.cell HL.out.ce (fun e => (HL.out.away b e).1 rfl); have b3 := hk2.froz HL.out.ce HL.out.fr (fun e => (HL.out.away b e).1 rfl); replace h2 := Lib.hid h2; replace hk2 := Lib.hid hk2) | (go_at_call 16; (with_reducible refine (advance_c b T n j ct K S L _ HP.out.ps hn hlt).mono ?_); rintro e w9 ⟨rfl, q9, rfl⟩))
      have hN := AnR.next (i := i) HP.out q9 hij hlt (by simp only [List.length_cons]; omega) hz.out
      rw [hcur, hN.2]
      exact ⟨hN.1, by omega⟩
    have n27 : (atK n K j == 27) = false := by simpa using k27
    by_cases k32 : atK n K j = 32
    · have hc := Lib.hid (show cl n K j = .opn 7 by unfold cl; rw [k32]; rfl)
      rw [k32] at C
      clear n0 n8 n7 n6 n35 n19 n33 n27
      have hv := Lib.hid (Rn_step (cls := cl n K) hj st)
      rw [hc.out] at hv
      simp only at hv
      have hlt : j < n := cl_lt (K := K) (by rw [hc.out]; simp)
      have hz := Lib.hid (hv.out.symm.trans hR.out)
      go_wp2_with (first | (go_at_call 14; (with_reducible refine C.out.mono ?_); rintro e w1 ⟨rfl, hb1⟩; replace HL := Lib.hid (HL.out.after hb1); clear hb1; have a1 := HL.out.ce; have f1 := HL.out.fr) | (at_builtin; go_loud (refine app1 (.tmp 81) (.tmp 82) 64 34 W.heap.size 1 1 #[.int .u8 0] #[.int .u8 7] (.slice a st.length c) st.length (stv st) rfl rfl rfl rfl rfl Tryf.underlying64 info34 rfl (by omega) HL.out.own rfl (one_kv 7) (by omega) (by omega) HL.out.kp.size ?_); intro v2 w2 h2 hk2; obtain ⟨a2, c2, rfl, -, -⟩ := own_shape h2; have HP := Lib.hid (HL.out.push h2 hk2); have b1 := (HL.out.ps.kp hk2 (fun e => (HL.out.away b e).1 rfl) (fun e => (HL.out.away T e).2 rfl)).cur; have b2 := hk2.cell HL.out.ce (fun e => (HL.out.away b e).1 rfl); have b3 := hk2.froz HL.out.ce HL.out.fr (fun e => (HL.out.away b e).1 rfl); replace h2 := Lib.hid h2; replace hk2 := Lib.hid hk2) | (go_at_call 16; (with_reducible refine (advance_c b T n j ct K S L _ HP.out.ps hn hlt).mono ?_); rintro e w9 ⟨rfl, q9, rfl⟩))
      have hN := AnR.next (i := i) HP.out q9 hij hlt (by simp only [List.length_cons]; omega) hz.out
      rw [hcur, hN.2]
      exact ⟨hN.1, by omega⟩
    have n32 : (atK n K j == 32) = false := by simpa using k32
    by_cases k31 : atK n K j = 31
    · have hc := Lib.hid (show cl n K j = .opn 6 by unfold cl; rw [k31]; rfl)
      rw [k31] at C
      clear n0 n8 n7 n6 n35 n19 n33 n27 n32
      have hv := Lib.hid (Rn_step (cls := cl n K) hj st)
      rw [hc.out] at hv
      simp only at hv
      have hlt : j < n := cl_lt (K := K) (by rw [hc.out]; simp)
      have hz := Lib.hid (hv.out.symm.trans hR.out)
      go_wp2_with (first | (go_at_call 14; (with_reducible refine C.out.mono ?_); rintro e w1 ⟨rfl, hb1⟩; replace HL := Lib.hid (HL.out.after hb1); clear hb1; have a1 := HL.out.ce; have f1 := HL.out.fr) | (at_builtin; go_loud (refine app1 (.tmp 92) (.tmp 93) 64 34 W.heap.size 1 1 #[.int .u8 0] #[.int .u8 6] (.slice a st.length c) st.length (stv st) rfl rfl rfl rfl rfl Tryf.underlying64 info34 rfl (by omega) HL.out.own rfl (one_kv 6) (by omega) (by omega) HL.out.kp.size ?_); intro v2 w2 h2 hk2; obtain ⟨a2, c2, rfl, -, -⟩ := own_shape h2; have HP := Lib.hid (HL.out.push h2 hk2); have b1 := (HL.out.ps.kp hk2 (fun e => (HL.out.away b e).1 rfl) (fun e => (HL.out.away T e).2 rfl)).cur; have b2 := hk2.cell HL.out.ce (fun e => (HL.out.away b e).1 rfl); have b3 := hk2.froz HL.out.ce HL.out.fr (fun e => (HL.out.away b e).1 rfl); replace h2 := Lib.hid h2; replace hk2 := Lib.hid hk2) | (go_at_call 16; (with_reducible refine (advance_c b T n j ct K S L _ HP.out.ps hn hlt).mono ?_); rintro e w9 ⟨rfl, q9, rfl⟩))
      have hN := AnR.next (i := i) HP.out q9 hij hlt (by simp only [List.length_cons]; omega) hz.out
      rw [hcur, hN.2]
      exact ⟨hN.1, by omega⟩
    have n31 : (atK n K j == 31) = false := by simpa using k31
    have hc := Lib.hid (show cl n K j = .other by unfold cl clsK; simp [k0, k8, k7, k6, k35, k19, k33, k27, k32, k31])
    have hv := Lib.hid (Rn_step (cls := cl n K) hj st)
    rw [hc.out] at hv
    simp only at hv
    have hlt : j < n := cl_lt (K := K) (by rw [hc.out]; simp)
    clear k0 k8 k7 k6 k35 k19 k33 k27 k32 k31
    have hz := Lib.hid (hv.out.symm.trans hR.out)
    revert C n0 n8 n7 n6 n35 n19 n33 n27 n32 n31
    generalize atK n K j = kk
    intro C n0 n8 n7 n6 n35 n19 n33 n27 n32 n31
    go_wp2_with (first | (go_at_call 14; (with_reducible refine C.out.mono ?_); rintro e w1 ⟨rfl, hb1⟩; replace HL := Lib.hid (HL.out.after hb1); clear hb1; have a1 := HL.out.ce; have f1 := HL.out.fr) | (go_at_call 16; (with_reducible refine (advance_c b T n j ct K S L _ HL.out.ps hn hlt).mono ?_); rintro e w9 ⟨rfl, q9, rfl⟩))
    have hN := AnR.next (i := i) HL.out q9 hij hlt (by omega) hz.out
    rw [hcur, hN.2]
    exact ⟨hN.1, by omega⟩
end Go.Proofs.YtfklgdecaknbaaaFmt
