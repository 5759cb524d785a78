/- FnListStyleShorthandExact: the walk. -/
import Derived.Test.YtpjbhbbhkhfiaaaDoorLs7
import Derived.Deep.DeepCutAuto
import Derived.WalkSpells
set_option linter.unusedVariables false
set_option linter.unusedSimpArgs false
namespace Go.Proofs.YtpjbhbbhkhfiaaaDoor
open Go.RowKit
theorem Env.after {low : ByteArray → ByteArray} {w w' : World} (h : Env low w) (hb : Below w.heap.size w w') : Env low w' :=
  ⟨fun s v hs hv => h.hL s v hs (hb.trans (hv.mono hb.size)), h.hA, h.hls, by
    obtain ⟨bm, es, clock, h1, h2, h3⟩ := h.hR0
    exact ⟨bm, es, clock, ac hb h1, by rw [hb.block _ (Array.getElem?_eq_some_iff.1 h2).1]; exact h2, h3⟩, by
    obtain ⟨bm, es, clock, h1, h2, h3⟩ := h.hR1
    exact ⟨bm, es, clock, ac hb h1, by rw [hb.block _ (Array.getElem?_eq_some_iff.1 h2).1]; exact h2, h3⟩, h.hI.below hb, Nat.le_trans h.hG hb.size⟩
theorem kind_g (c : Int) (w : World) (h0 : 0 ≤ c) (h1 : c ≤ 255) : Calls Tryd.prog 6 #[.int .u8 c] w (Gv (.int .u8 (kdF c)) w) := by
  refine (kind_c c w h0 h1).mono ?_
  rintro e w' ⟨rfl, rfl⟩
  exact ⟨rfl, Below.refl _ _⟩
theorem text_g (A : Option Addr) (n c : Nat) (X : Nat → ByteArray) (i : Nat) (w : World) (hx : RowS w A n X) (hn : n ≤ 1048576) (hi : i ≤ 1048576) : Calls Tryd.prog 7 #[.slice A n c, .int .i64 i] w (Gv (.string (txF n X i)) w) := by
  refine (text_c A n c X i w hx hn hi).mono ?_
  rintro e w' ⟨rfl, rfl⟩
  exact ⟨rfl, Below.refl _ _⟩
theorem tokNew (w : World) (t : Tk) (ty : TypeId) : TAt (w.alloc (.cells #[t.ch, .string t.tx, .int .i32 t.lo, .int .u32 t.pl, .int .u16 t.uo, .int .u8 t.kd, .int .u8 t.ws] ty)) w.heap.size 0 t :=
  ⟨by simp [go_sem], by simp [go_sem], by simp [go_sem], by simp [go_sem], by simp [go_sem], by simp [go_sem], by simp [go_sem]⟩
theorem FillT.after {w wr w' : World} {T n k : Nat} {F : Nat → Tk} (h : FillT w T n F k wr) (hb : Below wr.heap.size wr w') : FillT w T n F k w' := ⟨h.below.trans (hb.mono (Nat.le_of_lt h.size)), Nat.lt_of_lt_of_le h.size hb.size, fun i hi => (h.tok i hi).after hb, h.room.after hb⟩
theorem FillT.step {w wr : World} {T n k : Nat} {F : Nat → Tk} (h : FillT w T n F k wr) (hk : k < n) :
    FillT w T n F (k + 1) (((((((wr.setCell ⟨T, k * 7, none⟩ (F k).ch).setCell ⟨T, k * 7 + 1, none⟩ (.string (F k).tx)).setCell ⟨T, k * 7 + 2, none⟩ (.int .i32 (F k).lo)).setCell ⟨T, k * 7 + 3, none⟩ (.int .u32 (F k).pl)).setCell ⟨T, k * 7 + 4, none⟩ (.int .u16 (F k).uo)).setCell ⟨T, k * 7 + 5, none⟩ (.int .u8 (F k).kd)).setCell ⟨T, k * 7 + 6, none⟩ (.int .u8 (F k).ws)) := by
  obtain ⟨hb, hz, ht, hr⟩ := h
  have R := fun j (hj : j < 7) => hr (k * 7 + j) (by omega)
  obtain ⟨v0, a0, -⟩ := R 0 (by omega); obtain ⟨v1, a1, -⟩ := R 1 (by omega); obtain ⟨v2, a2, -⟩ := R 2 (by omega); obtain ⟨v3, a3, -⟩ := R 3 (by omega); obtain ⟨v4, a4, -⟩ := R 4 (by omega); obtain ⟨v5, a5, -⟩ := R 5 (by omega); obtain ⟨v6, a6, -⟩ := R 6 (by omega)
  refine ⟨(((((((hb.setCell (Nat.le_refl _) _).setCell (Nat.le_refl _) _).setCell (Nat.le_refl _) _).setCell (Nat.le_refl _) _).setCell (Nat.le_refl _) _).setCell (Nat.le_refl _) _).setCell (Nat.le_refl _) _), by simpa [World.setCell] using hz, fun i hi => ?_, ((((((hr.set _ _).set _ _).set _ _).set _ _).set _ _).set _ _).set _ _⟩
  by_cases e : i = k
  · subst e
    exact TAt.made (F i) a0 a1 a2 a3 a4 a5 a6
  · have q := ht i (by omega)
    exact ((((((q.far (.inr (by dsimp only; omega))).far (.inr (by dsimp only; omega))).far (.inr (by dsimp only; omega))).far (.inr (by dsimp only; omega))).far (.inr (by dsimp only; omega))).far (.inr (by dsimp only; omega))).far (.inr (by dsimp only; omega))
set_option maxRecDepth 100000 in
set_option maxHeartbeats 4000000 in
theorem walk3 (low : ByteArray → ByteArray) (A0 A1 : Option Addr) (n0 c0 n1 c1 : Nat) (K : Nat → Int) (X : Nat → ByteArray) (pl : Int) (mk : Bool) (w : World) (E : Env low w) (hk : Row .u8 w A0 n0 K) (hx : RowS w A1 n1 X) (hn0 : n0 ≤ maxLen) (hn1 : n1 ≤ maxLen) (hK : ∀ i, i < n0 → 0 ≤ K i ∧ K i ≤ 255) (hX : ∀ i, i < n1 → (X i).size ≤ maxLen) :
    Calls Tryd.prog 3 #[.slice A0 n0 c0, .slice A1 n1 c1, .int .u32 pl, .bool mk] w (fun e w' => e = .returned (.bool true) ∧ Below w.heap.size w w') := by
  have C5 := Lib.hid (bytes5_c A0 A1 n0 c0 n1 c1 X pl mk w hx hn0 hn1 hX)
  have R0 := Lib.hid hk; have R1 := Lib.hid hx; have HK := Lib.hid hK; have HE := Lib.hid E
  have k1 := fun W A c => run_neq_slice_nil_any (P := Tryd.prog) W 22 5 A n0 c 0 0 Tryd.underlying22
  have k2 := fun W A c => run_neq_slice_nil_any (P := Tryd.prog) W 23 9 A n1 c 0 0 Tryd.underlying23
  clear hk hx hn0 hn1 hX hK E
  go_enter Tryd.func3, Tryd.ntmps3
  go_upto_region 3 with (go_at_call 5; (with_reducible refine C5.out.mono ?_); rintro e w1 ⟨x, rfl, hx1, rfl⟩; cases x)
  any_goals (go_ret; exact ⟨rfl, Below.refl _ _⟩)
  obtain ⟨hn0, hn1, hX⟩ := hx1 (by simp)
  replace hX := Lib.hid hX
  clear hx1 C5
  by_cases hm0 : 4096 < n0
  · go_wp2
    go_ret
    exact ⟨rfl, Below.refl _ _⟩
  by_cases hm1 : 4096 < n1
  · go_wp2
    go_ret
    exact ⟨rfl, Below.refl _ _⟩
  go_wp2
  go_loopw [9, 10] (fun s i wr => ∃ k m : Nat, k ≤ n1 ∧ m ≤ 1048576 ∧ s = .int .i64 m ∧ i = .int .i64 k ∧ wr = w) (fun _ i _ => n1 - (intOf i).toNat)
  case atStart => exact ⟨0, n0 + 16 * n1, by omega, by omega, by go_num, by go_num, rfl⟩
  case round =>
    obtain ⟨k, m, hk, hm, rfl, rfl, rfl⟩ := hrel
    by_cases hlt : k < n1
    · obtain ⟨x, rfl, q0⟩ := R1.out k hlt
      have hXk := hX.out k hlt
      have i0 : (0 : Int) ≤ k := by omega
      have i1 : (k : Int) < n1 := by omega
      by_cases hb2 : 1048576 < m + (X k).size
      · go_wp2
        go_ret
        exact ⟨rfl, Below.refl _ _⟩
      · go_wp2
        go_roundw
        case rel => exact ⟨k + 1, m + (X k).size, by omega, by omega, by go_num, by go_num, trivial⟩
        case measure => simp [intOf]; omega
    · obtain rfl : k = n1 := by omega
      clear hlt hk
      obtain ⟨n1, rfl⟩ : ∃ n1, n1 = k := ⟨_, rfl⟩
      obtain ⟨w, rfl⟩ : ∃ w : World, w = wr := ⟨_, rfl⟩
      go_upto_if 61 with fail
      go_cut [0] (fun s0 wx => ∃ A c, s0 = .slice A n0 c ∧ Row .u8 wx A n0 K ∧ Below w.heap.size w wx)
      case first =>
        rcases A0 with _ | x0
        · go_wp2
          go_meet
          exact ⟨_, _, rfl, R0.out, Below.refl _ _⟩
        · have hmk := make_z (b := 1) #[.int .u8 0] Tryd.underlying22 info5 n0 (by omega) (by omega)
          go_upto_region 16 with fail
          refine wp_gen (fun W5 hW => ?_)
          have H0 : Hid (FillI .u8 K w w.heap.size n0 0 W5) := Lib.hid (by rw [hW]; exact ⟨ba _ _, by simp, fun i hi => by omega, by simpa using Room.made w #[.int .u8 0] n0 _⟩)
          clear hW hmk
          go_wp2
          go_loopw [12] (fun i wr => ∃ k : Nat, k ≤ n0 ∧ i = .int .i64 k ∧ FillI .u8 K w w.heap.size n0 k wr) (fun i _ => n0 - (intOf i).toNat)
          case atStart => exact ⟨0, by omega, rfl, H0.out⟩
          case round =>
            clear H0
            obtain ⟨k, hk, rfl, HF⟩ := hrel
            by_cases hlt : k < n0
            · obtain ⟨y, ey, d0⟩ := (R0.out.after HF.below) k hlt
              cases ey
              have yl : (x0.add k).block < w.heap.size := by
                obtain ⟨x, hx, e0⟩ := R0.out k hlt
                cases hx
                exact block_lt_of_cell e0
              have y1 : ¬ (w.heap.size = (x0.add k).block) := by omega
              have y2 : ¬ ((x0.add k).block = w.heap.size) := by omega
              obtain ⟨v1, q1, f1⟩ := HF.room k hlt
              have i0 : (0 : Int) ≤ k := by omega
              have i1 : (k : Int) < n0 := by omega
              have HS := Lib.hid (HF.step hlt)
              clear HF
              go_wp2
              go_roundw
              case rel => exact ⟨k + 1, by omega, by go_num, HS.out⟩
              case measure => simp [intOf]; omega
            · obtain rfl : k = n0 := by omega
              go_wp2
              go_meet
              exact ⟨_, _, rfl, HF.full, HF.below⟩
      case rest =>
        clear R0
        obtain ⟨A0', c0', rfl, R0, hb1⟩ := hcut
        obtain ⟨wa, rfl⟩ : ∃ wa : World, wa = wc := ⟨_, rfl⟩
        replace R0 := Lib.hid R0
        replace hb1 := Lib.hid hb1
        go_upto_if 80 with fail
        go_cut [1] (fun s1 wx => ∃ A c, s1 = .slice A n1 c ∧ RowS wx A n1 X ∧ Row .u8 wx A0' n0 K ∧ Below w.heap.size w wx)
        case first =>
          have R1a := Lib.hid (R1.out.after hb1.out)
          rcases A1 with _ | x0
          · go_wp2
            go_meet
            exact ⟨_, _, rfl, R1a.out, R0.out, hb1.out⟩
          · have hmk := make_z (b := 16) #[.string ⟨#[]⟩] Tryd.underlying23 (show (Tryd.prog.info? 9).map (fun i => (i.zero.map (·.cells), i.size, i.bytes)) = some (some #[.string ⟨#[]⟩], 1, 16) by kernel_rfl) n1 (by omega) (by omega)
            go_upto_region 23 with fail
            refine wp_gen (fun W5 hW => ?_)
            have H0 : Hid (FillS X wa wa.heap.size n1 0 W5) := Lib.hid (by rw [hW]; exact ⟨ba _ _, by simp, fun i hi => by omega, by simpa using Room.made wa #[.string ⟨#[]⟩] n1 _⟩)
            clear hW hmk
            go_wp2
            go_loopw [14] (fun i wr => ∃ k : Nat, k ≤ n1 ∧ i = .int .i64 k ∧ FillS X wa wa.heap.size n1 k wr) (fun i _ => n1 - (intOf i).toNat)
            case atStart => exact ⟨0, by omega, rfl, H0.out⟩
            case round =>
              clear H0
              obtain ⟨k, hk, rfl, HF⟩ := hrel
              by_cases hlt : k < n1
              · obtain ⟨y, ey, d0⟩ := (R1a.out.after HF.below) k hlt
                cases ey
                have yl : (x0.add k).block < wa.heap.size := by
                  obtain ⟨x, hx, e0⟩ := R1a.out k hlt
                  cases hx
                  exact block_lt_of_cell e0
                have y1 : ¬ (wa.heap.size = (x0.add k).block) := by omega
                have y2 : ¬ ((x0.add k).block = wa.heap.size) := by omega
                obtain ⟨v1, q1, f1⟩ := HF.room k hlt
                have i0 : (0 : Int) ≤ k := by omega
                have i1 : (k : Int) < n1 := by omega
                have HS := Lib.hid (HF.step hlt)
                clear HF
                go_wp2
                go_roundw
                case rel => exact ⟨k + 1, by omega, by go_num, HS.out⟩
                case measure => simp [intOf]; omega
              · obtain rfl : k = n1 := by omega
                go_wp2
                go_meet
                exact ⟨_, _, rfl, HF.full, R0.out.after HF.below, hb1.out.trans (HF.below.mono hb1.out.size)⟩
        case rest =>
          clear R0 hb1 R1 k1 k2
          obtain ⟨A1', c1', rfl, R1, R0, hb1⟩ := hcut
          obtain ⟨wb, rfl⟩ : ∃ wb : World, wb = wc := ⟨_, rfl⟩
          have hs : Hid (∀ i, (txF n1 X i).size ≤ 1048576) := Lib.hid (fun i => by
            unfold txF
            split
            · exact hX.out i (by assumption)
            · show 0 ≤ _; omega)
          have HE1 := Lib.hid (HE.out.after hb1)
          clear HE hX
          replace R0 := Lib.hid R0
          replace R1 := Lib.hid R1
          replace hb1 := Lib.hid hb1
          have hmk := make_z (b := 40) tkZ Tryd.underlying26 (show (Tryd.prog.info? 36).map (fun i => (i.zero.map (·.cells), i.size, i.bytes)) = some (some tkZ, 7, 40) by kernel_rfl) n0 (by omega) (by omega)
          go_upto_region 29 with fail
          refine wp_gen (fun W5 hW => ?_)
          have H0 : Hid (FillT wb wb.heap.size n0 (F0 (fun i => kdF (K i)) (txF n1 X) pl) 0 W5) := Lib.hid (by rw [hW]; exact ⟨ba _ _, by simp, fun i hi => by omega, Room.made _ _ _ _⟩)
          clear hW hmk
          go_wp2
          go_loopw [16] (fun i wr => ∃ k : Nat, k ≤ n0 ∧ i = .int .i64 k ∧ FillT wb wb.heap.size n0 (F0 (fun i => kdF (K i)) (txF n1 X) pl) k wr) (fun i _ => n0 - (intOf i).toNat)
          case atStart => exact ⟨0, by omega, rfl, H0.out⟩
          case round =>
            clear H0
            obtain ⟨k, hk, rfl, HF⟩ := hrel
            have hbF := HF.below
            have hzF := HF.size
            by_cases hlt : k < n0
            · have R0' := R0.out.after hbF
              have R1' := Lib.hid (R1.out.after hbF)
              obtain ⟨y, rfl, d0⟩ := R0' k hlt
              have C6 := Lib.hid (kind_g (K k) wr (HK.out k hlt).1 (HK.out k hlt).2)
              have C7 := fun w' (hb : Below wr.heap.size wr w') => text_g A1' n1 c1' X k w' (R1'.out.after hb) (by omega) (by omega)
              replace C7 := Lib.hid C7
              have i0 : (0 : Int) ≤ k := by omega
              have i1 : (k : Int) < n0 := by omega
              clear R0'
              replace HF := Lib.hid HF
              replace hbF := Lib.hid hbF
              go_upto_region 31 with (first | (go_at_call 6; (with_reducible refine C6.out.mono ?_); rintro e w1 ⟨rfl, hb6⟩; replace hb6 := Lib.hid hb6) | (go_at_call 7; (with_reducible refine (C7.out _ hb6.out).mono ?_); rintro e w2 ⟨rfl, hb7⟩; have HF7 := Lib.hid (HF.out.after (hb6.out.trans (hb7.mono hb6.out.size))); obtain ⟨v0, q0, f0⟩ := HF7.out.room (k * 7) (by omega);  obtain ⟨v1, q1, f1⟩ := HF7.out.room (k * 7 + 1) (by omega); obtain ⟨v2, q2, f2⟩ := HF7.out.room (k * 7 + 2) (by omega); obtain ⟨v3, q3, f3⟩ := HF7.out.room (k * 7 + 3) (by omega); obtain ⟨v4, q4, f4⟩ := HF7.out.room (k * 7 + 4) (by omega); obtain ⟨v5, q5, f5⟩ := HF7.out.room (k * 7 + 5) (by omega); obtain ⟨v6, q6, f6⟩ := HF7.out.room (k * 7 + 6) (by omega); clear hb7))
              have HS := Lib.hid (HF7.out.step hlt)
              clear HF HF7 C6 C7
              go_wp2
              go_roundw
              case rel => exact ⟨k + 1, by omega, by go_num, HS.out⟩
              case measure => simp [intOf]; omega
            · obtain rfl : k = n0 := by omega
              clear hlt hk
              obtain ⟨n0, rfl⟩ : ∃ n0, n0 = k := ⟨_, rfl⟩
              obtain ⟨T, hT⟩ : ∃ T, T = wb.heap.size := ⟨_, rfl⟩
              have hTm : ∀ i, i < n0 → TAt wr T (i * 7) (F0 (fun i => kdF (K i)) (txF n1 X) pl i) := fun i hi => by rw [hT]; exact HF.tok i hi
              have hTf : ∀ j, j < n0 * 7 → wr.frozen? ⟨T, j, none⟩ = false := fun j hj => by rw [hT]; obtain ⟨v, -, f⟩ := HF.room j hj; exact f
              have hTl : T < wr.heap.size := by rw [hT]; exact HF.size
              have hTb : wb.heap.size ≤ T := by omega
              obtain ⟨cl, hcl⟩ : ∃ cl : Nat → Nat, cl = fun i => clF (kdF (K i)) (fS (txF n1 X i)) := ⟨_, rfl⟩
              have hc8 : ∀ i, cl i < 8 := fun i => by rw [hcl]; exact clF_lt _ _
              have C8 := Lib.hid (model_c A0' A1' n0 c0' n1 c1' K X wr cl (fun i => by rw [hcl]) (R0.out.after hbF) (R1.out.after hbF) HK.out (by omega) hs.out (by unfold maxLen; omega))
              rw [← hT]
              clear hT
              have hbF' := Lib.hid hbF
              clear hbF hzF HF
              obtain ⟨W, hW⟩ : ∃ W, W = wantF cl n0 := ⟨_, rfl⟩
              have hWr : W = -1 ∨ (0 ≤ W ∧ W < n0) := by rw [hW]; exact wantF_rng hc8
              rw [← hW] at C8
              clear hc8
              replace hTm := Lib.hid hTm
              replace hTf := Lib.hid hTf
              replace hW := Lib.hid hW
              replace hcl := Lib.hid hcl
              go_upto_region 34 with (go_at_call 8; (with_reducible refine C8.out.mono ?_); rintro e w8 ⟨rfl, hb8⟩; replace hb8 := Lib.hid hb8)
              clear C8
              have hlc : ((lW W (txF n1 X)).length : Int) = if 0 ≤ W then 1 else 0 := by
                unfold lW
                by_cases e : W = -1
                · rw [if_pos e, if_neg (by omega)]; rfl
                · rw [if_neg e, if_pos (by omega)]; rfl
              obtain ⟨nw, hnw⟩ : ∃ nw : Nat, nw = (lW W (txF n1 X)).length := ⟨_, rfl⟩
              rw [← hnw] at hlc
              replace hnw := Lib.hid hnw
              replace hWr := Lib.hid hWr
              replace hlc := Lib.hid hlc
              go_upto_if 124 with fail
              go_cut [18] (fun s18 wx => s18 = .int .i64 nw ∧ w8 = wx)
              case first =>
                have hlc := hlc.out
                rcases hWr.out with q | q
                · rw [if_neg (by omega)] at hlc
                  obtain rfl : nw = 0 := by omega
                  clear hlc
                  go_wp2
                  go_meet
                  exact ⟨rfl, rfl⟩
                · rw [if_pos (by omega)] at hlc
                  obtain rfl : nw = 1 := by omega
                  clear hlc
                  go_wp2
                  go_meet
                  exact ⟨rfl, rfl⟩
              case rest =>
                obtain ⟨rfl, rfl⟩ := hcut
                have C9 := Lib.hid (new6_c mk w8)
                go_upto_region 38 with (go_at_call 9; (with_reducible refine C9.out.mono ?_); rintro e w9 ⟨B, S, rfl, hb9, hps⟩; replace hb9 := Lib.hid hb9; replace hps := Lib.hid hps)
                clear C9
                have hz8 := hb8.out.size
                have hz9 := hb9.out.size
                have hzF := hbF'.out.size
                have hr9 : Below wr.heap.size wr w9 := hb8.out.trans (hb9.out.mono hz8)
                have HSt : Hid (St wb B mk T n0 (Fs 0 W (fun i => kdF (K i)) (txF n1 X) pl) (lSy 0 W (txF n1 X)) w9) := Lib.hid ⟨⟨S, hps.out.base (by omega), fun q => by have := (hps.out.lt T q).2; omega⟩, fun i hi => (hTm.out i hi).after hr9, fun j hj => by rw [hr9.frozen (show (⟨T, j, none⟩ : Addr).block < wr.heap.size from hTl)]; exact hTf.out j hj, hTb, by omega, hbF'.out.trans (hr9.mono hbF'.out.size)⟩
                clear hps hr9 hb8 hb9 hbF' hTm hTf hTl hTb hz8 hz9 hzF
                go_wp2
                go_loopw [20] (fun i wr => ∃ k : Nat, k ≤ 2 ∧ i = .int .i64 k ∧ St wb B mk T n0 (Fs k W (fun i => kdF (K i)) (txF n1 X) pl) (lSy k W (txF n1 X)) wr) (fun i _ => 2 - (intOf i).toNat)
                case atStart => exact ⟨0, by omega, rfl, HSt.out⟩
                case round =>
                  clear HSt
                  obtain ⟨k, hk, rfl, HSt⟩ := hrel
                  by_cases hlt : k < 2
                  · have C10 := Lib.hid (roundk low wb wr HE1.out B mk T n0 n0 (fun i => kdF (K i)) (txF n1 X) pl cl (fun i => by rw [hcl.out]) (fun i => kdF_vals _) hs.out (by unfold maxLen; omega) W hW.out k HSt)
                    replace HSt := Lib.hid HSt
                    have i0 : (0 : Int) ≤ k := by omega
                    go_upto_region 42 with (go_at_call 10; (with_reducible refine C10.out.mono ?_); rintro e w5 ⟨rfl, hS5⟩; replace hS5 := Lib.hid hS5)
                    clear C10 HSt
                    go_wp2
                    go_loopw [21] (fun i wr => ∃ j : Nat, j ≤ n0 ∧ i = .int .i64 j ∧ St wb B mk T n0 (FW W (fun i => kdF (K i)) (txF n1 X) pl) (lW W (txF n1 X)) wr) (fun i _ => n0 - (intOf i).toNat)
                    case atStart => exact ⟨0, by omega, rfl, hS5.out⟩
                    case round =>
                      clear hS5
                      obtain ⟨j, hj, rfl, HSt⟩ := hrel
                      by_cases hjl : j < n0
                      · have tk := HSt.tok j hjl
                        have R0j := R0.out.after HSt.below
                        have R1j := R1.out.after HSt.below
                        obtain ⟨y, rfl, d0⟩ := R0j j hjl
                        have i0 : (0 : Int) ≤ j := by omega
                        have i1 : (j : Int) < n0 := by omega
                        replace R1j := Lib.hid R1j
                        replace R0j := Lib.hid R0j
                        by_cases hjw : W = (j : Int)
                        · have tk' : TAt wr T (j * 7) (zT 39 (txF n1 X j) 0) := by
                            unfold FW at tk
                            rw [if_pos hjw] at tk
                            exact tk
                          clear tk
                          obtain ⟨c0, c1, c2, c3, c4, c5, c6⟩ := tk'
                          dsimp only at c0 c1 c2 c3 c4 c5 c6
                          subst hjw
                          replace HSt := Lib.hid HSt
                          go_upto_region 46 with fail
                          refine wp_gen (fun W6 hW => ?_)
                          have hb6 : Below wr.heap.size wr W6 := by rw [hW]; exact ba _ _
                          have tN : TAt W6 wr.heap.size 0 (zT 39 (txF n1 X j) 0) := by rw [hW]; exact tokNew wr (zT 39 (txF n1 X j) 0) 36
                          clear hW c0 c1 c2 c3 c4 c5 c6
                          have d1 : W6.cell? ⟨wr.heap.size, 1, none⟩ = some (.string (txF n1 X j)) := tN.c1
                          have d3 : W6.cell? ⟨wr.heap.size, 3, none⟩ = some (.int .u32 0) := tN.c3
                          have d5 : W6.cell? ⟨wr.heap.size, 5, none⟩ = some (.int .u8 39) := tN.c5
                          replace d0 := ac hb6 d0
                          clear tN
                          have y1 := fun d os => cell_regrown d1 d os
                          have R16 := R1j.out.after hb6
                          have C7 := Lib.hid (fun d os => text_g A1' n1 c1' X j (Sort.grow (redrawn W6 d) os) (R16.after (below_regrown W6 d os)) (by omega) (by omega))
                          have hd3 := Lib.hid d3
                          have hd5 := Lib.hid d5
                          have hd0 := Lib.hid d0
                          clear d1 d3 d5 d0 R16
                          replace hb6 := Lib.hid hb6
                          refine drawn_tail 5 (by kernel_rfl) (by kernel_rfl) (by kernel_rfl) (fun Q hQ => ?_)
                          simp only [List.take_succ_cons, List.take_zero, List.drop_succ_cons, List.drop_zero]
                          repeat (quiet_step (exact Calls.regrown_of (C7.out _ _)))
                          refine wpQuiet_nil ?_
                          intro W3 hw
                          have hb7 : Below W6.heap.size W6 W3 := by
                            obtain ⟨⟨d, os⟩, rfl⟩ := hw
                            exact below_regrown _ d os
                          clear hw y1 C7
                          have d3 := ac hb7 hd3.out
                          have d5 := ac hb7 hd5.out
                          have d0 := ac hb7 hd0.out
                          have hb37 := hb6.out.trans (hb7.mono hb6.out.size)
                          clear hd3 hd5 hd0 hb6 hb7
                          have HSn := Lib.hid (HSt.out.after hb37)
                          clear hb37 HSt
                          go_wp2
                          go_roundw
                          case rel => exact ⟨j + 1, by omega, by go_num, HSn.out⟩
                          case measure => simp [intOf]; omega
                        · have tk' : TAt wr T (j * 7) (zT (kdF (K j)) (txF n1 X j) pl) := by
                            unfold FW F0 at tk
                            rw [if_neg hjw] at tk
                            exact tk
                          clear tk
                          obtain ⟨c0, c1, c2, c3, c4, c5, c6⟩ := tk'
                          dsimp only at c0 c1 c2 c3 c4 c5 c6
                          replace HSt := Lib.hid HSt
                          go_upto_region 46 with fail
                          refine wp_gen (fun W6 hW => ?_)
                          have hb6 : Below wr.heap.size wr W6 := by rw [hW]; exact ba _ _
                          have tN : TAt W6 wr.heap.size 0 (zT (kdF (K j)) (txF n1 X j) pl) := by rw [hW]; exact tokNew wr (zT (kdF (K j)) (txF n1 X j) pl) 36
                          clear hW c0 c1 c2 c3 c4 c5 c6
                          have d1 : W6.cell? ⟨wr.heap.size, 1, none⟩ = some (.string (txF n1 X j)) := tN.c1
                          have d3 : W6.cell? ⟨wr.heap.size, 3, none⟩ = some (.int .u32 pl) := tN.c3
                          have d5 : W6.cell? ⟨wr.heap.size, 5, none⟩ = some (.int .u8 (kdF (K j))) := tN.c5
                          replace d0 := ac hb6 d0
                          clear tN
                          have y1 := fun d os => cell_regrown d1 d os
                          have R16 := R1j.out.after hb6
                          have C7 := Lib.hid (fun d os => text_g A1' n1 c1' X j (Sort.grow (redrawn W6 d) os) (R16.after (below_regrown W6 d os)) (by omega) (by omega))
                          have hd3 := Lib.hid d3
                          have hd5 := Lib.hid d5
                          have hd0 := Lib.hid d0
                          clear d1 d3 d5 d0 R16
                          replace hb6 := Lib.hid hb6
                          refine drawn_tail 5 (by kernel_rfl) (by kernel_rfl) (by kernel_rfl) (fun Q hQ => ?_)
                          simp only [List.take_succ_cons, List.take_zero, List.drop_succ_cons, List.drop_zero]
                          repeat (quiet_step (exact Calls.regrown_of (C7.out _ _)))
                          refine wpQuiet_nil ?_
                          intro W3 hw
                          have hb7 : Below W6.heap.size W6 W3 := by
                            obtain ⟨⟨d, os⟩, rfl⟩ := hw
                            exact below_regrown _ d os
                          clear hw y1 C7
                          have d3 := ac hb7 hd3.out
                          have d5 := ac hb7 hd5.out
                          have d0 := ac hb7 hd0.out
                          have hb37 := hb6.out.trans (hb7.mono hb6.out.size)
                          clear hd3 hd5 hd0 hb6 hb7
                          have y3 := fun d os => cell_regrown d3 d os
                          have y5 := fun d os => cell_regrown d5 d os
                          have y0 := fun d os => cell_regrown d0 d os
                          have C6 := Lib.hid (fun d os => kind_g (K j) (Sort.grow (redrawn W3 d) os) (HK.out j hjl).1 (HK.out j hjl).2)
                          clear d3 d5 d0
                          replace hb37 := Lib.hid hb37
                          go_upto_region 51 with fail
                          refine drawn_tail 13 (by kernel_rfl) (by kernel_rfl) (by kernel_rfl) (fun Q hQ => ?_)
                          simp only [List.take_succ_cons, List.take_zero, List.drop_succ_cons, List.drop_zero]
                          repeat (quiet_step (exact Calls.regrown_of (C6.out _ _)))
                          refine wpQuiet_nil ?_
                          intro W4 hw
                          have hb4 : Below W3.heap.size W3 W4 := by
                            obtain ⟨⟨d, os⟩, rfl⟩ := hw
                            exact below_regrown _ d os
                          clear hw y3 y5 y0 C6
                          have HSn := Lib.hid (HSt.out.after (hb37.out.trans (hb4.mono hb37.out.size)))
                          clear hb4 hb37 HSt
                          go_wp2
                          go_roundw
                          case rel => exact ⟨j + 1, by omega, by go_num, HSn.out⟩
                          case measure => simp [intOf]; omega
                      · obtain rfl : j = n0 := by omega
                        clear hj hjl
                        obtain ⟨S5, hp5, -⟩ := HSt.ps
                        have R1j := Lib.hid (R1.out.after HSt.below)
                        have C11 := Lib.hid (cnt9_c wr S5 wb.heap.size B mk _ hp5)
                        have C12 := fun w' (hb : Below wr.heap.size wr w') => cnt10_c w' S5 wb.heap.size B mk _ (hp5.below hb)
                        have C13 := fun w' => want_c mk nw w'
                        rw [← hnw.out] at C11 C12
                        replace HSt := Lib.hid HSt
                        obtain ⟨zw, hzw⟩ : ∃ zw : Nat, zw = if mk = true then nw else 0 := ⟨_, rfl⟩
                        rw [← hzw] at C12 C13
                        clear hzw
                        replace C12 := Lib.hid C12
                        replace C13 := Lib.hid C13
                        replace hp5 := Lib.hid hp5
                        go_upto_region 55 with (first | (go_at_call 11; (with_reducible refine C11.out.mono ?_); rintro e w11 ⟨rfl, hb11⟩; replace hb11 := Lib.hid hb11) | (go_at_call 12; (with_reducible refine (C12.out _ hb11.out).mono ?_); rintro e w12 ⟨rfl, hb12⟩; replace hb12 := Lib.hid (hb11.out.trans (hb12.mono hb11.out.size))) | (go_at_call 13; (with_reducible refine (C13.out _).mono ?_); rintro e w13 ⟨rfl, rfl⟩))
                        clear C11 C12 C13
                        have HS2 := Lib.hid (HSt.out.after hb12.out)
                        rcases hWr.out with q | q
                        · subst q
                          clear HSt hb11 hb12
                          go_wp2
                          go_roundw
                          case rel => exact ⟨k + 1, by omega, by go_num, HS2.out⟩
                          case measure => simp [intOf]; omega
                        · obtain ⟨i, hi⟩ : ∃ i : Nat, W = i := ⟨W.toNat, by omega⟩
                          subst hi
                          have C14 : Hid (Calls Tryd.prog 14 #[.pointer (some ⟨B, 0, none⟩), .int .i64 0] w12 (Gv (.string (txF n1 X i)) w12)) := Lib.hid (rd20_c w12 S5 wb.heap.size B mk _ (hp5.out.below hb12.out) 0 ⟨txF n1 X i, 1⟩ (by unfold lW; rw [if_neg (by omega)]; rfl))
                          have C7 := fun w' (hb : Below wr.heap.size wr w') => text_g A1' n1 c1' X i w' (R1j.out.after hb) (by omega) (by omega)
                          replace C7 := Lib.hid C7
                          have i2 : (0 : Int) ≤ i := by omega
                          clear q HSt hb11
                          go_wp2_with (first | (go_at_call 14; (with_reducible refine C14.out.mono ?_); rintro e w14 ⟨rfl, hb14⟩; have HS4 := Lib.hid (HS2.out.after hb14); replace hb14 := Lib.hid (hb12.out.trans (hb14.mono hb12.out.size))) | (go_at_call 7; (with_reducible refine (C7.out _ hb14.out).mono ?_); rintro e w15 ⟨rfl, hb15⟩; have HS5 := Lib.hid (HS4.out.after hb15); clear hb15))
                          go_roundw
                          case rel => exact ⟨k + 1, by omega, by go_num, HS5.out⟩
                          case measure => simp [intOf]; omega
                  · obtain rfl : k = 2 := by omega
                    have hbS := Lib.hid HSt.below
                    clear HSt
                    go_wp2
                    go_ret
                    exact ⟨rfl, hb1.out.trans (hbS.out.mono hb1.out.size)⟩
end Go.Proofs.YtpjbhbbhkhfiaaaDoor
