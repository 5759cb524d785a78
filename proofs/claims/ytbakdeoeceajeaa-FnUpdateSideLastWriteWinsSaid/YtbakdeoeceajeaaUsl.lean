/- FnUpdateSideLastWriteWins returns true at every argument (no condition). -/
import Derived.Test.YtbakdeoeceajeaaUs2
import Derived.Deep.DeepCutAuto
import Derived.WalkSpells
namespace Go.Proofs.Ytbakdeoeceajeaa.fnUpdateSideLastWriteWins
open Go.ChangeShapes Go.WideShapes Go.ChangeAt Go.RowKit
open Go.ChangeMaps (open_string shut_string)
set_option linter.unusedVariables false
set_option linter.unusedSimpArgs false
/-- the first k sides of the box at b are f's -/
structure BX (w : World) (b k : Nat) (f : Nat → Sd) : Prop where
  sd : ∀ s, s < k → SAt w b (1 + s * 11) (f s)
  room : Room w b 48
theorem BX.after {w w' : World} {b k : Nat} {f : Nat → Sd} (h : BX w b k f) (hb : Below w.heap.size w w') : BX w' b k f := ⟨fun s hs => (h.sd s hs).after hb, h.room.after hb⟩
theorem BX.only {T : Nat → Prop} {w w' : World} {b k : Nat} {f : Nat → Sd} (h : BX w b k f) (ho : Only T w w') (hn : ¬ T b) : BX w' b k f := ⟨fun s hs => (h.sd s hs).only ho hn, ho.room h.room hn⟩
theorem BX.grow {w w' : World} {b k : Nat} {f : Nat → Sd} {S : Sd} (h : BX w b k f) (hp : Put b k S w w') (hS : f k = S) : BX w' b (k + 1) f := ⟨fun s hs => by
  by_cases e : s = k
  · subst e; rw [hS]; exact hp.side
  · exact hp.oth s _ e (h.sd s (by omega)), hp.room⟩
theorem BX.upd {w w' : World} {b k : Nat} {f : Nat → Sd} {S : Sd} (h : BX w b 4 f) (hp : Put b k S w w') : BX w' b 4 (fun s => if s = k then S else f s) := ⟨fun s hs => by
  by_cases e : s = k
  · subst e; rw [if_pos rfl]; exact hp.side
  · rw [if_neg e]; exact hp.oth s _ e (h.sd s (by omega)), hp.room⟩
theorem BX.congr {w : World} {b k : Nat} {f g : Nat → Sd} (h : BX w b k f) (e : ∀ s, f s = g s) : BX w b k g := ⟨fun s hs => by rw [← e s]; exact h.sd s hs, h.room⟩
theorem SAt.new (w : World) (S : Sd) (t : TypeId) : SAt (w.alloc (.cells #[.pointer none, .string ⟨#[]⟩, .int .i32 0, .int .u32 0, .int .u16 0, .int .u8 S.kd, .int .u8 0, .string ⟨#[]⟩, .int .u8 S.st, .int .u32 S.ix, .bool S.sg] t)) w.heap.size 0 S := ⟨by simp [go_sem], by simp [go_sem], by simp [go_sem], by simp [go_sem], by simp [go_sem], by simp [go_sem], by simp [go_sem], by simp [go_sem], by simp [go_sem], by simp [go_sem], by simp [go_sem]⟩
def BoxP (w : World) (e : Ending) (w' : World) : Prop := ∃ b, e = .returned (.pointer (some ⟨b, 0, none⟩)) ∧ w.heap.size ≤ b ∧ b < w'.heap.size ∧ Room w' b 48 ∧ Below w.heap.size w w'
theorem box4_e (w : World) : Calls Try.prog 4 #[.int .u16 189, .string ⟨#[109, 97, 114, 103, 105, 110]⟩, .bool false, .bool false] w (BoxP w) := (box4_c w).mono fun e w' ⟨h1, h2, h3⟩ => ⟨_, h1, Nat.le_refl _, h2.lt (by omega), h2, h3⟩
abbrev oS (n : Nat) (sg oc oi : Int) (s : Nat) : Sd := oldSd n sg oc oi s
theorem oS_ix (n : Nat) (sg oc oi : Int) (s : Nat) (hn : 1 ≤ n) : ∃ i : Nat, (oS n sg oc oi s).ix = i ∧ i < n := by
  have h1 : 0 ≤ (oS n sg oc oi s).ix := Int.emod_nonneg _ (by omega)
  have h2 : (oS n sg oc oi s).ix < n := Int.emod_lt_of_pos _ (by omega)
  exact ⟨((oS n sg oc oi s).ix).toNat, by omega, by omega⟩
set_option maxRecDepth 100000 in
set_option maxHeartbeats 4000000 in
theorem main (n k : Nat) (sg oc oi aK aS bK bS : Int) (ia ib : Nat) (w : World) (hn : 1 ≤ n) (hn' : n ≤ 4096) (hk : k < 4) (g0 : 0 ≤ sg) (g1 : sg ≤ 255) (g2 : 0 ≤ oc) (g3 : oc ≤ 4294967295) (g4 : 0 ≤ oi) (k0 : 0 ≤ aK) (k1 : aK ≤ 255) (k2 : 0 ≤ aS) (k3 : aS ≤ 2) (k4 : 0 ≤ bK) (k5 : bK ≤ 255) (k6 : 0 ≤ bS) (k7 : bS ≤ 2) (hia : ia < n) (hib : ib < n) :
    Calls Try.prog 3 #[.int .i64 n, .int .i64 k, .int .u8 sg, .int .u32 oc, .int .u64 oi, .int .u8 aK, .int .u8 aS, .int .u32 ia, .int .u8 bK, .int .u8 bS, .int .u32 ib] w fun e w' => e = .returned (.bool true) ∧ Below w.heap.size w w' := by
  go_enter Try.func3, Try.ntmps3
  go_upto_region 10 with (go_at_call 4; (with_reducible refine (box4_e _).mono ?_); rintro e w1 ⟨b1, rfl, p1, p2, hr1, hb⟩; replace hr1 := Lib.hid hr1; replace hb := Lib.hid hb)
  go_wp2_with (go_at_call 4; (with_reducible refine (box4_e _).mono ?_); rintro e w2 ⟨b2, rfl, p3, p4, hr2, hb2⟩; replace hr1 := Lib.hid (hr1.out.after hb2); replace hr2 := Lib.hid hr2; have hz := hb.out.size; have hz2 := hb2.size; replace hb := Lib.hid (hb.out.trans (hb2.mono hb.out.size)); clear hb2)
  have hne : b1 ≠ b2 := by omega
  have hle : w.heap.size ≤ b2 := by omega
  clear hz hz2
  go_loopw [25] (fun i wr => ∃ j : Nat, j ≤ 4 ∧ i = .int .i64 j ∧ BX wr b1 j (oS n sg oc oi) ∧ BX wr b2 j (oS n sg oc oi) ∧ Below w.heap.size w wr ∧ w2.heap.size ≤ wr.heap.size) (fun i _ => 4 - (intOf i).toNat)
  case atStart => exact ⟨0, by omega, rfl, ⟨fun s hs => by omega, hr1.out⟩, ⟨fun s hs => by omega, hr2.out⟩, hb.out, Nat.le_refl _⟩
  case round =>
    obtain ⟨j, hj, rfl, x1, x2, hB, hsz⟩ := hrel
    clear hr1 hr2 hb
    replace x1 := Lib.hid x1; replace x2 := Lib.hid x2; replace hB := Lib.hid hB
    by_cases hlt : j < 4
    · have j0 : (0 : Int) ≤ j := by omega
      have j1 : (j : Int) ≤ 3 := by omega
      have C5 := Lib.hid (old5_c n j sg oc oi wr (by omega) (by omega) j0 j1 g0 g1 g2 g3 g4)
      go_upto_region 15 with (go_at_call 5; (with_reducible refine C5.out.mono ?_); rintro e w' ⟨rfl, rfl⟩)
      clear C5
      go_upto_region 16 with (first | (go_at_call 7; (with_reducible refine (new7_c _ _ _ _ _).mono ?_); rintro e w3 ⟨rfl, hb3⟩; replace x1 := Lib.hid (x1.out.after hb3); replace x2 := Lib.hid (x2.out.after hb3); replace hB := Lib.hid (hB.out.trans (hb3.mono hB.out.size)); have hs3 := hb3.size; clear hb3) | (go_at_call 6; (with_reducible refine (set6_c b1 j _ _ x1.out.room hlt).mono ?_); rintro e w4 ⟨rfl, hp, ho⟩; replace x1 := Lib.hid (x1.out.grow hp rfl); replace x2 := Lib.hid (x2.out.only ho (fun e => hne e.symm)); replace hB := Lib.hid (hB.out.trans (ho.below _ hB.out.size (fun b e => by subst e; exact p1))); have hs4 := ho.size; clear hp ho))
      go_wp2_with (first | (go_at_call 7; (with_reducible refine (new7_c _ _ _ _ _).mono ?_); rintro e w5 ⟨rfl, hb3⟩; replace x1 := Lib.hid (x1.out.after hb3); replace x2 := Lib.hid (x2.out.after hb3); replace hB := Lib.hid (hB.out.trans (hb3.mono hB.out.size)); have hs5 := hb3.size; clear hb3) | (go_at_call 6; (with_reducible refine (set6_c b2 j _ _ x2.out.room hlt).mono ?_); rintro e w6 ⟨rfl, hp, ho⟩; replace x2 := Lib.hid (x2.out.grow hp rfl); replace x1 := Lib.hid (x1.out.only ho (fun e => hne e)); replace hB := Lib.hid (hB.out.trans (ho.below _ hB.out.size (fun b e => by subst e; exact hle))); have hs6 := ho.size; clear hp ho))
      exact ⟨⟨j + 1, by omega, by go_num, x1.out, x2.out, hB.out, by omega⟩, by simp [intOf]; omega⟩
    · obtain rfl : j = 4 := by omega
      clear hlt hj
      obtain ⟨io, hio, hio'⟩ := oS_ix n sg oc oi k hn
      replace hio := Lib.hid hio
      go_upto_region 18 with (first | (go_at_call 8; (with_reducible refine (kind8_c _ _ k0 k1).mono ?_); rintro e w' ⟨rfl, rfl⟩) | (go_at_call 7; (with_reducible refine (new7_c _ _ _ _ _).mono ?_); rintro e w3 ⟨rfl, hb3⟩; replace x1 := Lib.hid (x1.out.after hb3); replace x2 := Lib.hid (x2.out.after hb3); replace hB := Lib.hid (hB.out.trans (hb3.mono hB.out.size)); have hs3 := hb3.size; clear hb3))
      refine wp_gen (fun W hW => ?_)
      have hbW : Below w3.heap.size w3 W := by rw [hW]; exact ba _ _
      have sA : Hid (SAt W w3.heap.size 0 ⟨kf aK, aS, ia, bits BinOp.and IntKind.u8 sg 16 != 0⟩) := Lib.hid (by rw [hW]; exact SAt.new _ ⟨kf aK, aS, ia, bits BinOp.and IntKind.u8 sg 16 != 0⟩ _)
      clear hW
      have hz : w3.heap.size < W.heap.size := block_lt_of_cell sA.out.c0
      replace x1 := Lib.hid (x1.out.after hbW)
      replace x2 := Lib.hid (x2.out.after hbW)
      replace hB := Lib.hid (hB.out.trans (hbW.mono hB.out.size))
      clear hbW
      obtain ⟨A, hA⟩ : ∃ A : Sd, A = ⟨kf aK, aS, ia, bits BinOp.and IntKind.u8 sg 16 != 0⟩ := ⟨_, rfl⟩
      have hAi : A.ix = ia := by rw [hA]
      replace hAi := Lib.hid hAi
      rw [← hA] at sA
      clear hA
      generalize w3.heap.size = PA at *
      go_upto_region 19 with (first | (go_at_call 8; (with_reducible refine (kind8_c _ _ k4 k5).mono ?_); rintro e w' ⟨rfl, rfl⟩) | (go_at_call 7; (with_reducible refine (new7_c _ _ _ _ _).mono ?_); rintro e w4 ⟨rfl, hb3⟩; replace x1 := Lib.hid (x1.out.after hb3); replace x2 := Lib.hid (x2.out.after hb3); replace hB := Lib.hid (hB.out.trans (hb3.mono hB.out.size)); replace sA := Lib.hid (sA.out.after hb3); have hs4 := hb3.size; clear hb3))
      refine wp_gen (fun W' hW => ?_)
      have hbW : Below w4.heap.size w4 W' := by rw [hW]; exact ba _ _
      have sB : Hid (SAt W' w4.heap.size 0 ⟨kf bK, bS, ib, bits BinOp.and IntKind.u8 sg 32 != 0⟩) := Lib.hid (by rw [hW]; exact SAt.new _ ⟨kf bK, bS, ib, bits BinOp.and IntKind.u8 sg 32 != 0⟩ _)
      clear hW
      have hz' : w4.heap.size < W'.heap.size := block_lt_of_cell sB.out.c0
      replace x1 := Lib.hid (x1.out.after hbW)
      replace x2 := Lib.hid (x2.out.after hbW)
      replace hB := Lib.hid (hB.out.trans (hbW.mono hB.out.size))
      replace sA := Lib.hid (sA.out.after hbW)
      clear hbW
      generalize w4.heap.size = PB at *
      have CR := Lib.hid (rules9_c n)
      go_upto_region 20 with (go_at_call 9; (with_reducible refine (CR.out _ hn').mono ?_); rintro e w5 ⟨R1, rfl, q1, hR1, hb3⟩; replace x1 := Lib.hid (x1.out.after hb3); replace x2 := Lib.hid (x2.out.after hb3); replace hB := Lib.hid (hB.out.trans (hb3.mono hB.out.size)); replace sA := Lib.hid (sA.out.after hb3); replace sB := Lib.hid (sB.out.after hb3); replace hR1 := Lib.hid hR1; have hs5 := hb3.size; clear hb3)
      go_upto_region 21 with (go_at_call 9; (with_reducible refine (CR.out _ hn').mono ?_); rintro e w6 ⟨R2, rfl, q2, hR2, hb3⟩; replace x1 := Lib.hid (x1.out.after hb3); replace x2 := Lib.hid (x2.out.after hb3); replace hB := Lib.hid (hB.out.trans (hb3.mono hB.out.size)); replace sA := Lib.hid (sA.out.after hb3); replace sB := Lib.hid (sB.out.after hb3); replace hR1 := Lib.hid (hR1.out.after hb3); replace hR2 := Lib.hid hR2; have hs6 := hb3.size; clear hb3)
      clear CR
      obtain ⟨s0, s1, s2, s3, s4, s5, s6, s7, s8, s9, s10⟩ := sA.out
      simp only [Nat.zero_add] at s0 s1 s2 s3 s4 s5 s6 s7 s8 s9 s10
      have hR1l : R1 < w6.heap.size := hR1.out.lt (by omega)
      have hR2l : R2 < w6.heap.size := hR2.out.lt (by omega)
      go_upto_region 22 with (go_at_call 10; (with_reducible refine (upd10_c b1 k R1 n io _ A _ x1.out.room hR1.out hk (x1.out.sd k hk) hio.out hio' hn' (by omega)).mono ?_); rintro e w7 ⟨rfl, hp, ho⟩; replace x1 := Lib.hid (x1.out.upd hp); replace x2 := Lib.hid (x2.out.only ho (fun e => Or.elim e (fun h => by omega) (fun h => by omega))); replace sB := Lib.hid (sB.out.only ho (fun e => Or.elim e (fun h => by omega) (fun h => by omega))); replace hR1 := Lib.hid (ho.rooms _ _ hR1.out); replace hR2 := Lib.hid (ho.rooms _ _ hR2.out); replace hB := Lib.hid (hB.out.trans (ho.below _ hB.out.size (fun b e => Or.elim e (fun h => by omega) (fun h => by omega)))); have hs7 := ho.size; clear hp ho)
      clear s0 s1 s2 s3 s4 s5 s6 s7 s8 s9 s10
      obtain ⟨B, hBd⟩ : ∃ B : Sd, B = ⟨kf bK, bS, ib, bits BinOp.and IntKind.u8 sg 32 != 0⟩ := ⟨_, rfl⟩
      rw [← hBd] at sB
      replace hBd := Lib.hid hBd
      have hk1 : Hid ((if k = k then A else oS n sg oc oi k).ix = ia) := Lib.hid (by rw [if_pos rfl]; exact hAi.out)
      obtain ⟨s0, s1, s2, s3, s4, s5, s6, s7, s8, s9, s10⟩ := sB.out
      simp only [Nat.zero_add] at s0 s1 s2 s3 s4 s5 s6 s7 s8 s9 s10
      go_upto_region 23 with (go_at_call 10; (with_reducible refine (upd10_c b1 k R1 n ia _ B _ x1.out.room hR1.out hk (x1.out.sd k hk) hk1.out hia hn' (by omega)).mono ?_); rintro e w8 ⟨rfl, hp, ho⟩; replace x1 := Lib.hid (x1.out.upd hp); replace x2 := Lib.hid (x2.out.only ho (fun e => Or.elim e (fun h => by omega) (fun h => by omega))); replace sB := Lib.hid (sB.out.only ho (fun e => Or.elim e (fun h => by omega) (fun h => by omega))); replace hR1 := Lib.hid (ho.rooms _ _ hR1.out); replace hR2 := Lib.hid (ho.rooms _ _ hR2.out); replace hB := Lib.hid (hB.out.trans (ho.below _ hB.out.size (fun b e => Or.elim e (fun h => by omega) (fun h => by omega)))); have hs8 := ho.size; clear hp ho)
      clear s0 s1 s2 s3 s4 s5 s6 s7 s8 s9 s10
      obtain ⟨s0, s1, s2, s3, s4, s5, s6, s7, s8, s9, s10⟩ := sB.out
      simp only [Nat.zero_add] at s0 s1 s2 s3 s4 s5 s6 s7 s8 s9 s10
      go_upto_region 24 with (go_at_call 10; (with_reducible refine (upd10_c b2 k R2 n io _ B _ x2.out.room hR2.out hk (x2.out.sd k hk) hio.out hio' hn' (by omega)).mono ?_); rintro e w9 ⟨rfl, hp, ho⟩; replace x2 := Lib.hid (x2.out.upd hp); replace x1 := Lib.hid (x1.out.only ho (fun e => Or.elim e (fun h => by omega) (fun h => by omega))); replace hR1 := Lib.hid (ho.rooms _ _ hR1.out); replace hR2 := Lib.hid (ho.rooms _ _ hR2.out); replace hB := Lib.hid (hB.out.trans (ho.below _ hB.out.size (fun b e => Or.elim e (fun h => by omega) (fun h => by omega)))); have hs9 := ho.size; clear hp ho)
      clear s0 s1 s2 s3 s4 s5 s6 s7 s8 s9 s10
      replace x1 := Lib.hid (x1.out.congr (g := fun s => if s = k then B else oS n sg oc oi s) (fun s => by by_cases e : s = k <;> simp [e]))
      go_wp2_with fail
      have C5 := Lib.hid (fun (s : Nat) (hs : s < 4) w => old5_c n s sg oc oi w (by omega) (by omega) (by omega) (by omega) g0 g1 g2 g3 g4)
      go_loop [34] (fun i => ∃ s : Nat, s ≤ 4 ∧ i = .int .i64 s) (fun i => 4 - (intOf i).toNat)
      case atStart => exact ⟨0, by omega, rfl⟩
      case round =>
        obtain ⟨s, hs, rfl⟩ := hrel
        by_cases hlt : s < 4
        · by_cases he : s = k
          · subst he
            have hq : ((s : Int) != (s : Int)) = false := by simp
            go_wp2_with (go_at_call 11; (with_reducible refine (same11_c b1 b2 s _ _ (x1.out.sd s hlt) (x2.out.sd s hlt) hlt).mono ?_); rintro e w' ⟨rfl, rfl⟩)
            go_round
            case rel => exact ⟨s + 1, by omega, by go_num⟩
            case measure => simp [intOf]; omega
          · have hq : ((s : Int) != (k : Int)) = true := by simp; omega
            have hS : Hid (SAt w9 b1 (1 + s * 11) (oldSd n sg oc oi s)) := Lib.hid (by have := x1.out.sd s hlt; rw [if_neg he] at this; exact this)
            go_wp2_with (first | (go_at_call 11; (with_reducible refine (same11_c b1 b2 s _ _ (x1.out.sd s hlt) (x2.out.sd s hlt) hlt).mono ?_); rintro e w' ⟨rfl, rfl⟩) | (go_at_call 5; (with_reducible refine (C5.out s hlt _).mono ?_); rintro e w' ⟨rfl, rfl⟩) | (go_at_call 12; (with_reducible refine (is12_c b1 s _ _ hS.out hlt).mono ?_); rintro e w' ⟨rfl, rfl⟩))
            go_round
            case rel => exact ⟨s + 1, by omega, by go_num⟩
            case measure => simp [intOf]; omega
        · obtain rfl : s = 4 := by omega
          have hS : Hid (SAt w9 b1 (1 + k * 11) ⟨kf bK, bS, ib, bits BinOp.and IntKind.u8 sg 32 != 0⟩) := Lib.hid (by have := x1.out.sd k hk; rw [if_pos rfl, hBd.out] at this; exact this)
          go_wp2_with (first | (go_at_call 8; (with_reducible refine (kind8_c _ _ k4 k5).mono ?_); rintro e w' ⟨rfl, rfl⟩) | (go_at_call 12; (with_reducible refine (is12_c b1 k ⟨kf bK, bS, ib, bits BinOp.and IntKind.u8 sg 32 != 0⟩ _ hS.out hk).mono ?_); rintro e w' ⟨rfl, rfl⟩))
          go_ret
          exact ⟨rfl, hB.out⟩
theorem wf_u8 {n : Int} (h : (Lit.int .u8 n).wf = true) : 0 ≤ n ∧ n ≤ 255 := by
  have e1 : IntKind.u8.min = 0 := by decide
  have e2 : IntKind.u8.max = 255 := by decide
  simp [Lit.wf] at h; omega
theorem wf_u32 {n : Int} (h : (Lit.int .u32 n).wf = true) : 0 ≤ n ∧ n ≤ 4294967295 := by
  have e1 : IntKind.u32.min = 0 := by decide
  have e2 : IntKind.u32.max = 4294967295 := by decide
  simp [Lit.wf] at h; omega
theorem wf_u64 {n : Int} (h : (Lit.int .u64 n).wf = true) : 0 ≤ n := by
  have e1 : IntKind.u64.min = 0 := by decide
  simp [Lit.wf] at h; omega
set_option maxRecDepth 100000 in
set_option maxHeartbeats 1000000 in
theorem o1 (a0 : Int) (a1 : Int) (a2 : Int) (a3 : Int) (a4 : Int) (a5 : Int) (a6 : Int) (a7 : Int) (a8 : Int) (a9 : Int) (a10 : Int) (w : World) (h : a0 < 1) : Calls Try.prog 3 #[.int .i64 a0, .int .i64 a1, .int .u8 a2, .int .u32 a3, .int .u64 a4, .int .u8 a5, .int .u8 a6, .int .u32 a7, .int .u8 a8, .int .u8 a9, .int .u32 a10] w fun e w' => e = .returned (.bool true) ∧ Below w.heap.size w w' := by
  go_enter Try.func3, Try.ntmps3
  go_wp2_with fail
  go_ret
  exact ⟨rfl, Below.refl _ _⟩
set_option maxRecDepth 100000 in
set_option maxHeartbeats 1000000 in
theorem o2 (a0 : Int) (a1 : Int) (a2 : Int) (a3 : Int) (a4 : Int) (a5 : Int) (a6 : Int) (a7 : Int) (a8 : Int) (a9 : Int) (a10 : Int) (w : World) (h0 : 1 ≤ a0) (h : 4096 < a0) : Calls Try.prog 3 #[.int .i64 a0, .int .i64 a1, .int .u8 a2, .int .u32 a3, .int .u64 a4, .int .u8 a5, .int .u8 a6, .int .u32 a7, .int .u8 a8, .int .u8 a9, .int .u32 a10] w fun e w' => e = .returned (.bool true) ∧ Below w.heap.size w w' := by
  go_enter Try.func3, Try.ntmps3
  go_wp2_with fail
  go_ret
  exact ⟨rfl, Below.refl _ _⟩
set_option maxRecDepth 100000 in
set_option maxHeartbeats 1000000 in
theorem o3 (a0 : Int) (a1 : Int) (a2 : Int) (a3 : Int) (a4 : Int) (a5 : Int) (a6 : Int) (a7 : Int) (a8 : Int) (a9 : Int) (a10 : Int) (w : World) (h0 : 1 ≤ a0) (h1 : a0 ≤ 4096) (h : a1 < 0) : Calls Try.prog 3 #[.int .i64 a0, .int .i64 a1, .int .u8 a2, .int .u32 a3, .int .u64 a4, .int .u8 a5, .int .u8 a6, .int .u32 a7, .int .u8 a8, .int .u8 a9, .int .u32 a10] w fun e w' => e = .returned (.bool true) ∧ Below w.heap.size w w' := by
  go_enter Try.func3, Try.ntmps3
  go_wp2_with fail
  go_ret
  exact ⟨rfl, Below.refl _ _⟩
set_option maxRecDepth 100000 in
set_option maxHeartbeats 1000000 in
theorem o4 (a0 : Int) (a1 : Int) (a2 : Int) (a3 : Int) (a4 : Int) (a5 : Int) (a6 : Int) (a7 : Int) (a8 : Int) (a9 : Int) (a10 : Int) (w : World) (h0 : 1 ≤ a0) (h1 : a0 ≤ 4096) (h2 : 0 ≤ a1) (h : 3 < a1) : Calls Try.prog 3 #[.int .i64 a0, .int .i64 a1, .int .u8 a2, .int .u32 a3, .int .u64 a4, .int .u8 a5, .int .u8 a6, .int .u32 a7, .int .u8 a8, .int .u8 a9, .int .u32 a10] w fun e w' => e = .returned (.bool true) ∧ Below w.heap.size w w' := by
  go_enter Try.func3, Try.ntmps3
  go_wp2_with fail
  go_ret
  exact ⟨rfl, Below.refl _ _⟩
set_option maxRecDepth 100000 in
set_option maxHeartbeats 1000000 in
theorem o5 (a0 : Int) (a1 : Int) (a2 : Int) (a3 : Int) (a4 : Int) (a5 : Int) (a6 : Int) (a7 : Int) (a8 : Int) (a9 : Int) (a10 : Int) (w : World) (h0 : 1 ≤ a0) (h1 : a0 ≤ 4096) (h2 : 0 ≤ a1) (h3 : a1 ≤ 3) (h : 2 < a6) : Calls Try.prog 3 #[.int .i64 a0, .int .i64 a1, .int .u8 a2, .int .u32 a3, .int .u64 a4, .int .u8 a5, .int .u8 a6, .int .u32 a7, .int .u8 a8, .int .u8 a9, .int .u32 a10] w fun e w' => e = .returned (.bool true) ∧ Below w.heap.size w w' := by
  go_enter Try.func3, Try.ntmps3
  go_wp2_with fail
  go_ret
  exact ⟨rfl, Below.refl _ _⟩
set_option maxRecDepth 100000 in
set_option maxHeartbeats 1000000 in
theorem o6 (a0 : Int) (a1 : Int) (a2 : Int) (a3 : Int) (a4 : Int) (a5 : Int) (a6 : Int) (a7 : Int) (a8 : Int) (a9 : Int) (a10 : Int) (w : World) (h0 : 1 ≤ a0) (h1 : a0 ≤ 4096) (h2 : 0 ≤ a1) (h3 : a1 ≤ 3) (h4 : a6 ≤ 2) (h : 2 < a9) : Calls Try.prog 3 #[.int .i64 a0, .int .i64 a1, .int .u8 a2, .int .u32 a3, .int .u64 a4, .int .u8 a5, .int .u8 a6, .int .u32 a7, .int .u8 a8, .int .u8 a9, .int .u32 a10] w fun e w' => e = .returned (.bool true) ∧ Below w.heap.size w w' := by
  go_enter Try.func3, Try.ntmps3
  go_wp2_with fail
  go_ret
  exact ⟨rfl, Below.refl _ _⟩
set_option maxRecDepth 100000 in
set_option maxHeartbeats 1000000 in
theorem o7 (a0 : Int) (a1 : Int) (a2 : Int) (a3 : Int) (a4 : Int) (a5 : Int) (a6 : Int) (a7 : Int) (a8 : Int) (a9 : Int) (a10 : Int) (w : World) (h0 : 1 ≤ a0) (h1 : a0 ≤ 4096) (h2 : 0 ≤ a1) (h3 : a1 ≤ 3) (h4 : a6 ≤ 2) (h5 : a9 ≤ 2) (h : a0 ≤ a7) : Calls Try.prog 3 #[.int .i64 a0, .int .i64 a1, .int .u8 a2, .int .u32 a3, .int .u64 a4, .int .u8 a5, .int .u8 a6, .int .u32 a7, .int .u8 a8, .int .u8 a9, .int .u32 a10] w fun e w' => e = .returned (.bool true) ∧ Below w.heap.size w w' := by
  go_enter Try.func3, Try.ntmps3
  go_wp2_with fail
  go_ret
  exact ⟨rfl, Below.refl _ _⟩
set_option maxRecDepth 100000 in
set_option maxHeartbeats 1000000 in
theorem o8 (a0 : Int) (a1 : Int) (a2 : Int) (a3 : Int) (a4 : Int) (a5 : Int) (a6 : Int) (a7 : Int) (a8 : Int) (a9 : Int) (a10 : Int) (w : World) (h0 : 1 ≤ a0) (h1 : a0 ≤ 4096) (h2 : 0 ≤ a1) (h3 : a1 ≤ 3) (h4 : a6 ≤ 2) (h5 : a9 ≤ 2) (h6 : a7 < a0) (h : a0 ≤ a10) : Calls Try.prog 3 #[.int .i64 a0, .int .i64 a1, .int .u8 a2, .int .u32 a3, .int .u64 a4, .int .u8 a5, .int .u8 a6, .int .u32 a7, .int .u8 a8, .int .u8 a9, .int .u32 a10] w fun e w' => e = .returned (.bool true) ∧ Below w.heap.size w w' := by
  go_enter Try.func3, Try.ntmps3
  go_wp2_with fail
  go_ret
  exact ⟨rfl, Below.refl _ _⟩
theorem walk (a0 : Int) (a1 : Int) (a2 : Int) (a3 : Int) (a4 : Int) (a5 : Int) (a6 : Int) (a7 : Int) (a8 : Int) (a9 : Int) (a10 : Int) (w : World) (w0 : (Lit.int .i64 a0).wf = true) (w1 : (Lit.int .i64 a1).wf = true) (w2 : (Lit.int .u8 a2).wf = true) (w3 : (Lit.int .u32 a3).wf = true) (w4 : (Lit.int .u64 a4).wf = true) (w5 : (Lit.int .u8 a5).wf = true) (w6 : (Lit.int .u8 a6).wf = true) (w7 : (Lit.int .u32 a7).wf = true) (w8 : (Lit.int .u8 a8).wf = true) (w9 : (Lit.int .u8 a9).wf = true) (w10 : (Lit.int .u32 a10).wf = true) :
    Calls Try.prog 3 #[.int .i64 a0, .int .i64 a1, .int .u8 a2, .int .u32 a3, .int .u64 a4, .int .u8 a5, .int .u8 a6, .int .u32 a7, .int .u8 a8, .int .u8 a9, .int .u32 a10] w fun e w' => e = .returned (.bool true) ∧ Below w.heap.size w w' := by
  have := wf_u8 w2; have := wf_u32 w3; have := wf_u64 w4; have := wf_u8 w5; have := wf_u8 w6; have := wf_u32 w7; have := wf_u8 w8; have := wf_u8 w9; have := wf_u32 w10
  by_cases h0 : a0 < 1
  · exact o1 a0 a1 a2 a3 a4 a5 a6 a7 a8 a9 a10 w h0
  by_cases h1 : 4096 < a0
  · exact o2 a0 a1 a2 a3 a4 a5 a6 a7 a8 a9 a10 w (by omega) h1
  by_cases h2 : a1 < 0
  · exact o3 a0 a1 a2 a3 a4 a5 a6 a7 a8 a9 a10 w (by omega) (by omega) h2
  by_cases h3 : 3 < a1
  · exact o4 a0 a1 a2 a3 a4 a5 a6 a7 a8 a9 a10 w (by omega) (by omega) (by omega) h3
  by_cases h4 : 2 < a6
  · exact o5 a0 a1 a2 a3 a4 a5 a6 a7 a8 a9 a10 w (by omega) (by omega) (by omega) (by omega) h4
  by_cases h5 : 2 < a9
  · exact o6 a0 a1 a2 a3 a4 a5 a6 a7 a8 a9 a10 w (by omega) (by omega) (by omega) (by omega) (by omega) h5
  by_cases h6 : a0 ≤ a7
  · exact o7 a0 a1 a2 a3 a4 a5 a6 a7 a8 a9 a10 w (by omega) (by omega) (by omega) (by omega) (by omega) (by omega) h6
  by_cases h7 : a0 ≤ a10
  · exact o8 a0 a1 a2 a3 a4 a5 a6 a7 a8 a9 a10 w (by omega) (by omega) (by omega) (by omega) (by omega) (by omega) (by omega) h7
  obtain ⟨n, rfl⟩ : ∃ n : Nat, a0 = n := ⟨a0.toNat, by omega⟩
  obtain ⟨k, rfl⟩ : ∃ n : Nat, a1 = n := ⟨a1.toNat, by omega⟩
  obtain ⟨ia, rfl⟩ : ∃ n : Nat, a7 = n := ⟨a7.toNat, by omega⟩
  obtain ⟨ib, rfl⟩ : ∃ n : Nat, a10 = n := ⟨a10.toNat, by omega⟩
  exact main n k a2 a3 a4 a5 a6 a8 a9 ia ib w (by omega) (by omega) (by omega) (by omega) (by omega) (by omega) (by omega) (by omega) (by omega) (by omega) (by omega) (by omega) (by omega) (by omega) (by omega) (by omega) (by omega) (by omega)
theorem own : ownKnob Try.prog.godebug = none := by kernel_rfl
set_option maxRecDepth 100000 in
theorem lifted (os : Os) (started : os.Started) (H : Type) (enc : TypeId × Value → H) :
    ReturnsInHanded {} Try.checked os 3 .any (Rows.fnUpdateSideLastWriteWinsSpec.pre6 enc Try.prog Try.f3 Rows.fnUpdateSideLastWriteWinsRow.domain false) (Rows.fnUpdateSideLastWriteWinsSpec.post enc Try.prog Try.f3 false true false false) := by
  refine returnsInHanded_of_change (C := Try.checked) own started (by kernel_rfl) Try.func3
    (ChangeSpec.witness6 (enc := enc) (C := Try.checked) false ⟨#[], #[.int .i64 0, .int .i64 0, .int .u8 0, .int .u32 0, .int .u64 0, .int .u8 0, .int .u8 0, .int .u32 0, .int .u8 0, .int .u8 0, .int .u32 0], []⟩ 8 (by kernel_rfl) (by kernel_rfl) (by kernel_rfl) (by kernel_rfl)) ?_
  intro W base args ds gs before hval0 hW hcnd _
  have hval : ∀ (j : Nat) t v, Try.f3.params[j]? = some t → args[j]? = some v → Value.okWide Try.prog W .any base t v := hval0
  have hW' := hW
  obtain ⟨p, q, hA0, hV, rfl, hfz, hnd⟩ := hW
  have hA : DataW.TrodAll enc Try.prog W 0 (fun _ => true) true Try.f3.params.toList args.toList ds p := hA0
  rw [Try.params3] at hA hval
  obtain ⟨v0, vs0, d0, ds0, p0, q0, hargs, rfl, rfl, h0, r0⟩ := trodAll_cons hA
  obtain ⟨v1, vs1, d1, ds1, p1, q1, rfl, rfl, rfl, h1, r1⟩ := trodAll_cons r0
  obtain ⟨v2, vs2, d2, ds2, p2, q2, rfl, rfl, rfl, h2, r2⟩ := trodAll_cons r1
  obtain ⟨v3, vs3, d3, ds3, p3, q3, rfl, rfl, rfl, h3, r3⟩ := trodAll_cons r2
  obtain ⟨v4, vs4, d4, ds4, p4, q4, rfl, rfl, rfl, h4, r4⟩ := trodAll_cons r3
  obtain ⟨v5, vs5, d5, ds5, p5, q5, rfl, rfl, rfl, h5, r5⟩ := trodAll_cons r4
  obtain ⟨v6, vs6, d6, ds6, p6, q6, rfl, rfl, rfl, h6, r6⟩ := trodAll_cons r5
  obtain ⟨v7, vs7, d7, ds7, p7, q7, rfl, rfl, rfl, h7, r7⟩ := trodAll_cons r6
  obtain ⟨v8, vs8, d8, ds8, p8, q8, rfl, rfl, rfl, h8, r8⟩ := trodAll_cons r7
  obtain ⟨v9, vs9, d9, ds9, p9, q9, rfl, rfl, rfl, h9, r9⟩ := trodAll_cons r8
  obtain ⟨v10, vs10, d10, ds10, p10, q10, rfl, rfl, rfl, h10, r10⟩ := trodAll_cons r9
  obtain ⟨rfl, rfl, rfl⟩ := trodAll_nil r10
  obtain rfl : args = #[v0, v1, v2, v3, v4, v5, v6, v7, v8, v9, v10] := by cases args; simp_all
  obtain ⟨rfl, rfl⟩ := trodVars_none hV
  obtain ⟨a0, rfl, rfl, rfl, w0⟩ := open_int Try.underlying3 (hval 0 3 v0 rfl rfl) h0
  obtain ⟨a1, rfl, rfl, rfl, w1⟩ := open_int Try.underlying3 (hval 1 3 v1 rfl rfl) h1
  obtain ⟨a2, rfl, rfl, rfl, w2⟩ := open_int Try.underlying5 (hval 2 5 v2 rfl rfl) h2
  obtain ⟨a3, rfl, rfl, rfl, w3⟩ := open_int Try.underlying22 (hval 3 22 v3 rfl rfl) h3
  obtain ⟨a4, rfl, rfl, rfl, w4⟩ := open_int Try.underlying23 (hval 4 23 v4 rfl rfl) h4
  obtain ⟨a5, rfl, rfl, rfl, w5⟩ := open_int Try.underlying5 (hval 5 5 v5 rfl rfl) h5
  obtain ⟨a6, rfl, rfl, rfl, w6⟩ := open_int Try.underlying5 (hval 6 5 v6 rfl rfl) h6
  obtain ⟨a7, rfl, rfl, rfl, w7⟩ := open_int Try.underlying22 (hval 7 22 v7 rfl rfl) h7
  obtain ⟨a8, rfl, rfl, rfl, w8⟩ := open_int Try.underlying5 (hval 8 5 v8 rfl rfl) h8
  obtain ⟨a9, rfl, rfl, rfl, w9⟩ := open_int Try.underlying5 (hval 9 5 v9 rfl rfl) h9
  obtain ⟨a10, rfl, rfl, rfl, w10⟩ := open_int Try.underlying22 (hval 10 22 v10 rfl rfl) h10
  clear hA0 hval0
  simp only [List.append_nil] at hW'
  refine (walk a0 a1 a2 a3 a4 a5 a6 a7 a8 a9 a10 W w0 w1 w2 w3 w4 w5 w6 w7 w8 w9 w10).mono fun e W' ⟨he, bel⟩ => ?_
  subst he
  exact ⟨_, rfl, _, _, _, [], [], [], hW', trodAll_mk1 (shut_bool Try.underlying4 _), (trodAll_cons_mk (shut_int Try.underlying3 w0) (trodAll_cons_mk (shut_int Try.underlying3 w1) (trodAll_cons_mk (shut_int Try.underlying5 w2) (trodAll_cons_mk (shut_int Try.underlying22 w3) (trodAll_cons_mk (shut_int Try.underlying23 w4) (trodAll_cons_mk (shut_int Try.underlying5 w5) (trodAll_cons_mk (shut_int Try.underlying5 w6) (trodAll_cons_mk (shut_int Try.underlying22 w7) (trodAll_cons_mk (shut_int Try.underlying5 w8) (trodAll_cons_mk (shut_int Try.underlying5 w9) (trodAll_cons_mk (shut_int Try.underlying22 w10) trodAll_mk0))))))))))), rfl, bel.frame _, fun h => by cases h⟩

theorem over : Rows.fnUpdateSideLastWriteWinsRow.holds Try.pinned (OpenSpec.ofChange Rows.fnUpdateSideLastWriteWinsSpec) :=
  OpenClaim.holds_of_wide 3 Try.f3 rfl rfl rfl rfl rfl rfl rfl ⟨rfl, rfl, rfl, rfl, rfl⟩ rfl rfl rfl rfl rfl (by kernel_rfl) Try.func3 (by kernel_rfl)
    (of_decide_eq_true (by kernel_rfl)) (by unfold Func.isWrapper; first | (rw [if_pos (by decide +kernel)]; kernel_rfl) | (rw [if_neg (by decide +kernel)]; exact ⟨rfl, rfl⟩))
    (fun os started H enc _ => lifted os started H enc)

theorem proved : Rows.FnUpdateSideLastWriteWinsSaid :=
  over
#print axioms proved
end Go.Proofs.Ytbakdeoeceajeaa.fnUpdateSideLastWriteWins
