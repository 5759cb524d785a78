/- FnContainerNameExact: the walk. -/
import Derived.Test.YtoebloceibfboaaDoorCn3
set_option linter.unusedVariables false
set_option linter.unusedSimpArgs false
namespace Go.Proofs.YtoebloceibfboaaDoor
open Go.RowKit
def cvf (Z : Nat → ZT) (n i : Nat) : Bool := allId Z n && !resF (Z i).tx
theorem Lc_all (Z : Nat → ZT) (n : Nat) (h : allId Z n = true) : ∀ k, Lc Z (cvf Z n) k = Lk Z k
  | 0 => rfl
  | k + 1 => by
    rw [Lc, Lk, Lc_all Z n h k]
    unfold cvf
    rw [h]
    cases resF (Z k).tx <;> rfl
theorem Lc_not (Z : Nat → ZT) (n : Nat) (h : allId Z n = false) : ∀ k, Lc Z (cvf Z n) k = []
  | 0 => rfl
  | k + 1 => by
    rw [Lc, Lc_not Z n h k]
    unfold cvf
    rw [h]; rfl
theorem Fc_eq (Z : Nat → ZT) (n i : Nat) : Fc Z (cvf Z n) i = if allId Z n = true then tkOf Z i else zF Z i := by
  unfold Fc
  cases h : allId Z n with
  | false => unfold cvf; rw [h]; rfl
  | true =>
    rw [Lc_all Z n h]
    unfold cvf tkOf
    rw [h]
    cases resF (Z i).tx <;> rfl
theorem Low.below {low : ByteArray → ByteArray} {w w' : World} (h : Low low w) (hb : Below w.heap.size w w') : Low low w' := fun s v hs hv => h s v hs (hb.trans (hv.mono hb.size))
theorem Res.below {res : ByteArray → Bool} {w w' : World} (h : Res res w) (hb : Below w.heap.size w w') : Res res w' := by
  obtain ⟨bm, es, clock, h1, h2, h3⟩ := h
  exact ⟨bm, es, clock, ac hb h1, by rw [hb.block _ (Array.getElem?_eq_some_iff.1 h2).1]; exact h2, h3⟩
/-- the flags that are filled -/
structure FillB (f : Nat → Bool) (w : World) (T n k : Nat) (wr : World) : Prop where
  below : Below T w wr
  size : T < wr.heap.size
  row : ∀ i, i < k → wr.cell? ⟨T, i, none⟩ = some (.bool (f i))
  room : Room wr T n
theorem FillB.after {f : Nat → Bool} {w wr w' : World} {T n k : Nat} (h : FillB f w T n k wr) (hb : Below wr.heap.size wr w') : FillB f w T n k w' :=
  ⟨h.below.trans (hb.mono (Nat.le_of_lt h.size)), Nat.lt_of_lt_of_le h.size hb.size, fun i hi => ac hb (h.row i hi), h.room.after hb⟩
theorem FillB.step {f : Nat → Bool} {w wr : World} {T n k : Nat} (h : FillB f w T n k wr) (hk : k < n) : FillB f w T n (k + 1) (wr.setCell ⟨T, k, none⟩ (.bool (f k))) :=
  ⟨h.below.setCell (Nat.le_refl _) _, by simpa [World.setCell] using h.size, fun i hi => by
    by_cases e : i = k
    · subst e; obtain ⟨v, h1, h2⟩ := h.room i hk; exact cs h1
    · rw [co (by intro h; injection h; omega)]; exact h.row i (by omega), h.room.set _ _⟩
theorem FillB.rowB {f : Nat → Bool} {w wr : World} {T n : Nat} (h : FillB f w T n n wr) : RowB wr (some ⟨T, 0, none⟩) n f := fun i hi => ⟨_, rfl, by rw [own_add]; exact h.row i hi⟩
set_option maxRecDepth 100000 in
set_option maxHeartbeats 4000000 in
theorem walk4 (res : ByteArray → Bool) (hres : ResOk res) (A : Option Addr) (n cA : Nat) (Z : Nat → ZT) (mk : Bool) (w : World) (hL : Low lowS w) (hR : Res res w) (hI : Inv w) (hG : 2 ≤ w.heap.size) (hz : ZL w A n Z) (hn : n ≤ maxLen) (hnil : A = none → n = 0 ∧ cA = 0) (hs : ∀ i, i < n → (Z i).tx.size ≤ maxLen) :
    Calls Tryd.prog 4 #[.slice A n cA, .bool mk] w (fun e w' => e = .returned (.bool true) ∧ Below w.heap.size w w') := by
  have C12 := Lib.hid (bytes12_c A n cA Z mk w hz hn hs)
  have hL' := Lib.hid hL; have hR' := Lib.hid hR; have hI' := Lib.hid hI; have hres' := Lib.hid hres; have HZ := Lib.hid hz; have hnil' := Lib.hid hnil
  clear hL hR hI hres hz hs hn hnil
  go_enter Tryd.func4, Tryd.ntmps4
  go_upto_region 3 with (go_at_call 12; (with_reducible refine C12.out.mono ?_); rintro e w1 ⟨x, rfl, hx, rfl⟩; cases x)
  any_goals (go_ret; exact ⟨rfl, Below.refl _ _⟩)
  obtain ⟨hn0, hs0⟩ := hx (by simp)
  have C13 := Lib.hid (size13_c A n cA Z w HZ.out hn0 hs0)
  have C14 := Lib.hid (clone14_c A n cA Z w hn0 hnil'.out HZ.out)
  replace hs0 := Lib.hid hs0
  clear hx C12 hnil' HZ
  go_upto_region 6 with (first | (go_at_call 13; (with_reducible refine C13.out.mono ?_); rintro e w1 ⟨t, rfl, ht, rfl⟩; replace ht := Lib.hid ht) | (go_at_call 14; (with_reducible refine C14.out.mono ?_); rintro e w1 ⟨A', rfl, hz1, hb1⟩; replace hz1 := Lib.hid hz1; replace hb1 := Lib.hid hb1))
  any_goals (go_ret; exact ⟨rfl, Below.refl _ _⟩)
  obtain ⟨hn1, -⟩ := ht.out (by assumption)
  clear ht C13 C14
  have C6 := Lib.hid (new6_c mk w1)
  have hL1 := Lib.hid (hL'.out.below hb1.out); have hR1 := Lib.hid (hR'.out.below hb1.out); have hI1 := Lib.hid (hI'.out.below hb1.out)
  have hG1 : 2 ≤ w1.heap.size := by have := hb1.out.size; omega
  clear hL' hR' hI'
  go_upto_region 7 with (go_at_call 6; (with_reducible refine C6.out.mono ?_); rintro e w2 ⟨B, S, rfl, hb2, hps⟩; replace hb2 := Lib.hid hb2; replace hps := Lib.hid hps)
  clear C6
  have C15 := Lib.hid (build15_c A' n n Z w2 hn0 (hz1.out.after hb2.out))
  go_upto_region 8 with (go_at_call 15; (with_reducible refine C15.out.mono ?_); rintro e w3 ⟨T, rfl, hT2, hT3, hTok, hb3⟩; replace hTok := Lib.hid hTok; replace hb3 := Lib.hid hb3)
  clear C15
  have hz2 := hb2.out.size
  have hz3 := hb3.out.size
  obtain ⟨m1, m2, v1, v2, D, hPR⟩ := hps.out
  have hTS : ¬ S T := fun h => by have := hPR.lS _ h; omega
  have hgS := Lib.hid hPR.gS
  clear hPR
  have hb13 := Lib.hid (hb2.out.trans (hb3.out.mono hz2))
  have C16 := Lib.hid (proc16_c B (.slice (some ⟨T, 0, none⟩) n n) w3 _ (proc23_c res hres'.out w1 w3 hL1.out hR1.out hI1.out hb13.out hG1 S B mk (hps.out.below hb3.out) T n n Z hTok.out hT3 (by omega) hTS hn1 hs0.out))
  go_upto_region 9 with (go_at_call 16; (with_reducible refine C16.out.mono ?_); rintro e w4 ⟨rfl, hP⟩; replace hP := Lib.hid hP)
  clear C16 hTok hps hb13 hTS hgS hb3 hb2 hL1 hR1 hI1
  have hz4 := Lib.hid (hz1.out.after hP.out.bel)
  have hB4 := Lib.hid (hb1.out.trans (hP.out.bel.mono hb1.out.size))
  clear hz1 hb1
  go_wp2
  go_loopw [7, 8] (fun u i wr => ∃ k : Nat, k ≤ n ∧ u = .bool (allId Z k) ∧ i = .int .i64 k ∧ Below w4.heap.size w4 wr) (fun _ i _ => n - (intOf i).toNat)
  case atStart => exact ⟨0, by omega, rfl, rfl, Below.refl _ _⟩
  case round =>
    obtain ⟨k, hk, rfl, rfl, hB⟩ := hrel
    replace hB := Lib.hid hB
    by_cases hlt : k < n
    · obtain ⟨xz, rfl, z0, z1⟩ := (hz4.out.after hB.out).at_ k hlt
      have i0 : (0 : Int) ≤ k := by omega
      have i1 : (k : Int) < n := by omega
      by_cases h29 : (Z k).k = 29
      · have eA : allId Z (k + 1) = allId Z k := by rw [allId, h29]; simp
        replace eA := Lib.hid eA
        go_wp2
        go_roundw
        case rel => exact ⟨k + 1, by omega, by rw [eA.out], by go_num, hB.out⟩
        case measure => simp [intOf]; omega
      · have eA : allId Z (k + 1) = false := by rw [allId]; simp [h29]
        replace eA := Lib.hid eA
        go_wp2
        go_roundw
        case rel => exact ⟨k + 1, by omega, by rw [eA.out], by go_num, hB.out⟩
        case measure => simp [intOf]; omega
    · obtain rfl : k = n := by omega
      obtain ⟨wo, rfl⟩ : ∃ wo, wo = wr := ⟨_, rfl⟩
      obtain ⟨z, hmk⟩ := make_any (b := 1) Tryd.underlying50 (show (Tryd.prog.info? 4).map (fun i => (i.zero.isSome, i.size, i.bytes)) = some (true, 1, 1) by kernel_rfl) k hn0 (by omega)
      simp only [Nat.mul_one] at hmk
      go_upto_region 16 with fail
      refine wp_gen (fun W5 hW => ?_)
      have H0 : Hid (FillB (cvf Z k) wo wo.heap.size k 0 W5) := Lib.hid (by rw [hW]; exact ⟨ba _ _, by simp, fun i hi => by omega, Room.made _ _ _ _⟩)
      clear hW hmk
      go_wp2
      go_loopw [10] (fun i w6 => ∃ m : Nat, m ≤ k ∧ i = .int .i64 m ∧ FillB (cvf Z k) wo wo.heap.size k m w6) (fun i _ => k - (intOf i).toNat)
      case atStart => exact ⟨0, by omega, rfl, H0.out⟩
      case round =>
        clear H0
        obtain ⟨m, hm, rfl, HF⟩ := hrel
        have hBB := Lib.hid (hB.out.trans (HF.below.mono hB.out.size))
        replace HF := Lib.hid HF
        by_cases hlt2 : m < k
        · obtain ⟨xz, rfl, z0, z1⟩ := (hz4.out.after hBB.out).at_ m hlt2
          have i0 : (0 : Int) ≤ m := by omega
          have i1 : (m : Int) < k := by omega
          cases hA : allId Z k with
          | true =>
            have eC : cvf Z k m = !resF (Z m).tx := by unfold cvf; rw [hA]; rfl
            have C8 := Lib.hid (res8_c (Z m).tx wr (hs0.out m hlt2))
            replace eC := Lib.hid eC
            go_wp2_with (go_at_call 8; (with_reducible refine (C8.out).mono ?_); rintro e w8 ⟨rfl, hb8⟩; have HF8 := Lib.hid (HF.out.after hb8); obtain ⟨v9, c9, f9⟩ := HF8.out.room m hlt2; have HS8 := Lib.hid (HF8.out.step hlt2); rw [eC.out] at HS8; clear hb8 HF8)
            go_roundw
            case rel => exact ⟨m + 1, by omega, by go_num, HS8.out⟩
            case measure => simp [intOf]; omega
          | false =>
            have eC : cvf Z k m = false := by unfold cvf; rw [hA]; rfl
            obtain ⟨v9, c9, f9⟩ := HF.out.room m hlt2
            have HS8 := Lib.hid (HF.out.step hlt2)
            rw [eC] at HS8
            clear eC
            go_wp2
            go_roundw
            case rel => exact ⟨m + 1, by omega, by go_num, HS8.out⟩
            case measure => simp [intOf]; omega
        · obtain rfl : m = k := by omega
          obtain ⟨S', hps'⟩ := hP.out.ps
          have hLc : (if allId Z m = true then Lk Z m else []) = Lc Z (cvf Z m) m := by
            cases hA : allId Z m with
            | true => rw [Lc_all Z m hA]; rfl
            | false => rw [Lc_not Z m hA]; rfl
          rw [hLc] at hps'
          have C17 := Lib.hid (model17_c _ A' m m Z T m (some ⟨wo.heap.size, 0, none⟩) m (cvf Z m) S' w1.heap.size B mk (hz4.out.after hBB.out) (fun i hi => by rw [Fc_eq]; exact (hP.out.tok.tok i hi).after hBB.out) HF.out.rowB (hps'.below hBB.out) hn1 hs0.out)
          have hBf := Lib.hid (hB4.out.trans (hBB.out.mono hB4.out.size))
          clear hps' hLc
          go_wp2_with (go_at_call 17; (with_reducible refine C17.out.mono ?_); rintro e w9 ⟨rfl, hb9⟩; replace hBf := Lib.hid (hBf.out.trans (hb9.mono hBf.out.size)))
          go_ret
          exact ⟨rfl, hBf.out⟩
end Go.Proofs.YtoebloceibfboaaDoor
