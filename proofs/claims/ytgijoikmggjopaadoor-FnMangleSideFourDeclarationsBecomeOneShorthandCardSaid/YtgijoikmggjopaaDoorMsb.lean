/- FnMangleSide: one round's call. -/
import Derived.Test.YtgijoikmggjopaaDoorMsa
set_option linter.unusedVariables false
set_option linter.unusedSimpArgs false
namespace Go.Proofs.YtgijoikmggjopaaDoor
open Go.RowKit
theorem Fi_kd {x l : Nat → Int} {p : Nat → Nat} {al : Bool} {i s : Nat} (h : Fi x l p al i s = Sd0) : (Fi x l p al i s).t.kd = 0 := by rw [h]; rfl
theorem Fi_succ_acc {x l : Nat → Int} {p : Nat → Nat} {al : Bool} {i : Nat} (h : accB al (x (p i)) = true) : upF (Fi x l p al i) (p i) (sdC (x (p i)) (l i) (i + 1)) = Fi x l p al (i + 1) := by
  show _ = (if accB al (x (p i)) = true then upF (Fi x l p al i) (p i) (sdC (x (p i)) (l i) (i + 1)) else fun _ => Sd0)
  rw [if_pos h]
theorem Fi_succ_rej {x l : Nat → Int} {p : Nat → Nat} {al : Bool} {i : Nat} (h : accB al (x (p i)) = false) : Fi x l p al (i + 1) = fun _ => Sd0 := by
  show (if accB al (x (p i)) = true then upF (Fi x l p al i) (p i) (sdC (x (p i)) (l i) (i + 1)) else fun _ => Sd0) = _
  rw [h]; rfl
/-- how the world stands behind i declarations, when they are not merged -/
def MT (W0 : World) (b R DS TL : Nat) (x l : Nat → Int) (p : Nat → Nat) (kt : ByteArray) (al imp : Bool) (ky : Int) (i : Nat) (lf : Int) (wr : World) : Prop :=
  MI W0 b R DS TL x l p kt imp i lf wr ∧ ∃ imp0, Trk wr b (Fi x l p al i) kt al imp0 ky ∧ (imp0 = imp ∨ Fi x l p al i = fun _ => Sd0)
def MD (W0 : World) (b R DS TL : Nat) (x l : Nat → Int) (p q : Nat → Nat) (kt : ByteArray) (al imp m : Bool) (ky : Int) (i : Nat) (lf : Int) (wr : World) : Prop :=
  (¬ (i = 4 ∧ okN al x 4 = true) → MT W0 b R DS TL x l p kt al imp ky i lf wr) ∧ (i = 4 ∧ okN al x 4 = true → DN W0 b R DS TL x l p q kt imp m ky lf wr)
theorem side_c (W0 : World) (b R DS TL : Nat) (x l : Nat → Int) (p q : Nat → Nat) (kt : ByteArray) (al imp m : Bool) (ky lf : Int) (i Qn Tn : Nat) (imp0 : Bool) (V : World)
    (hd : Dist W0.heap.size b R DS TL) (hi : i < 4) (hx : ∀ s, 0 ≤ x s ∧ x s ≤ 4) (hky : (ky == 0) = false)
    (hp : ∀ j, j < 4 → p j < 4 ∧ q (p j) = j) (hq : ∀ s, s < 4 → q s < 4 ∧ p (q s) = s)
    (h : MI W0 b R DS TL x l p kt imp (i + 1) lf V) (ht : Trk V b (Fi x l p al i) kt al imp0 ky) (hFr : imp0 = imp ∨ Fi x l p al i = fun _ => Sd0)
    (hS : Seg V Qn 0 (dcL kt (.slice (some ⟨Tn, 0, none⟩) 1 1) (l i) 0 0 imp)) (hT : TAt V Tn 0 (zk (x (p i)) (l i))) (hQn : W0.heap.size ≤ Qn) (hTn : W0.heap.size ≤ Tn) :
    Calls Tryd.prog 7 #[.pointer (some ⟨b, 0, none⟩), .slice (some ⟨R, 0, none⟩) ((i + 1 : Nat)) 4, .pointer (some ⟨Qn, 0, none⟩), .bool m, .int .i64 (p i)] V (fun e w' => e = .returned (.tuple #[]) ∧ MD W0 b R DS TL x l p q kt al imp m ky (i + 1) lf w') := by
  have h1 := hd.bR
  have h2 := hd.RD
  have h3 := hd.DT
  have h4 := hd.Tn
  have pinj : ∀ j, j < 4 → ∀ k, k < 4 → p j = p k → j = k := fun j hj k hk e => by
    have := (hp j hj).2
    rw [e, (hp k hk).2] at this
    exact this.symm
  have qinj : ∀ j k, j < 4 → k < 4 → q j = q k → j = k := fun j k hj hk e => by
    have := (hq j hj).2
    rw [e, (hq k hk).2] at this
    exact this.symm
  have hF0 : Fi x l p al i (p i) = Sd0 := Fi_out x l p al (p i) i (fun j hj e => by have := pinj j (by omega) i hi e; omega)
  cases ha : accB al (x (p i))
  · -- refused
    have hno : okN al x 4 = false := by
      cases e : okN al x 4
      · rfl
      · have := (okN_yes e (p i) (hp i hi).1).2; rw [this] at ha; cases ha
    refine (ms_no b R (i + 1) 4 Qn Tn 1 (p i) (Fi x l p al i) kt kt al imp0 imp m (x (p i)) (l i) ky (l i) 0 0 V ht hFr hS hT ha (by omega) (by omega)).mono ?_
    rintro e w' ⟨rfl, t', o'⟩
    refine ⟨rfl, fun _ => ⟨h.bset hd o', imp, ?_, .inl rfl⟩, fun hh => by rw [hno] at hh; cases hh.2⟩
    rw [Fi_succ_rej ha]; exact t'
  · -- taken
    have eF := Fi_succ_acc (l := l) (p := p) (i := i) ha
    by_cases hok : i + 1 = 4 ∧ okN al x 4 = true
    · obtain ⟨hi3, hok⟩ := hok
      obtain rfl : i = 3 := by omega
      obtain ⟨Q0, T0, hD, hR⟩ := h.dec
      have hacc : ∀ j, j < 4 → accB al (x (p j)) = true := fun j hj => (okN_yes hok (p j) (hp j hj).1).2
      have eS : ∀ s, s < 4 → Fi x l p al 4 s = sdC (x s) (l (q s)) (q s + 1) := fun s hs => by
        have := Fi_yes x l p al 4 pinj hacc (q s) 4 (Nat.le_refl _) (hq s hs).1
        rw [(hq s hs).2] at this
        exact this
      have eT : ∀ s, s < 4 → (Fi x l p al 4 s).t = zk (x s) (l (q s)) := fun s hs => by rw [eS s hs]; rfl
      have C := ms_ok b R 4 4 Qn Tn 1 (p 3) (Fi x l p al 3) kt kt al imp0 imp m (x (p 3)) (l 3) (hx _).1 (hx _).2 ky (l 3) 0 0
        (CompP R 4 (kMin (zk (x 0) (l (q 0))) (zk (x 1) (l (q 1))) (zk (x 2) (l (q 2))) (zk (x 3) (l (q 3)))) (fun i => { pick4 (zk (x 0) (l (q 0))) (zk (x 1) (l (q 1))) (zk (x 2) (l (q 2))) (zk (x 3) (l (q 3))) i with ws := wsF i (kMin (zk (x 0) (l (q 0))) (zk (x 1) (l (q 1))) (zk (x 2) (l (q 2))) (zk (x 3) (l (q 3)))) m }) q (Dn Q0 4) (Ln l 4) kt (l 3) 0 ky imp)
        V ht hFr hS hT ha (hp 3 hi).1 (by omega) (by omega) (by omega) (by omega) (by rw [hF0]; decide)
        (fun w1 t1 o1 => by
          rw [eF] at t1
          have hc := comp_c b R 4 4 4 (Nat.le_refl _) (Fi x l p al 4) kt al imp m (Dn Q0 4) (Ln l 4) q ky (l 3) 0 hky w1 t1 (hR.only o1 (by omega)) (by omega) (by omega) (fun s hs => ⟨(hq s hs).1, by rw [eS s hs]; show ((q s + 1 : Nat) : Int) - 1 = q s; omega⟩)
            (fun s hs => by rw [eT s hs]; exact kd_zk _ _ (hx s).1 (hx s).2) (fun s hs => by rw [eS s hs]; exact ⟨if_neg (okN_yes hok s hs).1, rfl⟩) (fun s hs => by rw [eT s hs]; rfl) _ rfl
          rw [eT 0 (by omega), eT 1 (by omega), eT 2 (by omega), eT 3 (by omega)] at hc
          exact hc)
        (fun w1 e w' hh => hh.1)
      refine C.mono ?_
      rintro e w' ⟨w1, ⟨t1, o1⟩, hC⟩
      have hm := DN.mk' (q := q) (h.bset hd o1) hd (fun s hs => (hq s hs).1) hp qinj hx hC
      exact ⟨hm.1, fun hn => absurd ⟨rfl, hok⟩ hn, fun _ => hm.2⟩
    · have C := ms_ok b R (i + 1) 4 Qn Tn 1 (p i) (Fi x l p al i) kt kt al imp0 imp m (x (p i)) (l i) (hx _).1 (hx _).2 ky (l i) 0 0 NoP
        V ht hFr hS hT ha (hp i hi).1 (by omega) (by omega) (by omega) (by omega) (by rw [hF0]; decide)
        (fun w1 t1 o1 => by
          rw [eF] at t1
          by_cases hi3 : i + 1 < 4
          · refine comp_no b R (i + 1) 4 _ kt al imp m ky (l i) 0 hky w1 t1 ⟨p 3, (hp 3 (by omega)).1, Fi_kd (Fi_out x l p al (p 3) (i + 1) (fun j hj e => ?_))⟩
            have := pinj j (by omega) 3 (by omega) e
            omega
          · obtain rfl : i = 3 := by omega
            have hno : okN al x 4 = false := by
              cases e : okN al x 4
              · rfl
              · exact absurd ⟨rfl, e⟩ hok
            by_cases hall : ∃ k, k < 4 ∧ accB al (x (p k)) = false
            · obtain ⟨k, hk, hka⟩ := hall
              exact comp_no b R (3 + 1) 4 _ kt al imp m ky (l 3) 0 hky w1 t1 ⟨p k, (hp k hk).1, Fi_kd (Fi_no x l p al 4 pinj k hka 4 (Nat.le_refl _) hk)⟩
            · have hacc : ∀ j, j < 4 → accB al (x (p j)) = true := fun j hj => by
                cases e : accB al (x (p j))
                · exact absurd ⟨j, hj, e⟩ hall
                · rfl
              have eS : ∀ s, s < 4 → Fi x l p al 4 s = sdC (x s) (l (q s)) (q s + 1) := fun s hs => by
                have := Fi_yes x l p al 4 pinj hacc (q s) 4 (Nat.le_refl _) (hq s hs).1
                rw [(hq s hs).2] at this
                exact this
              obtain ⟨s, hs, hs4⟩ := okN_no hno
              have hs4 : x s = 4 := hs4.elim id (fun e => by
                have := hacc (q s) (hq s hs).1
                rw [(hq s hs).2, e] at this
                cases this)
              refine comp_un b R (3 + 1) 4 _ kt al imp m ky (l 3) 0 hky w1 t1 (fun k hk => ?_) (fun k hk => ?_) ⟨s, hs, ?_⟩
              · rw [eS k hk]; exact kd_zk _ _ (hx k).1 (hx k).2
              · rw [eS k hk]
                refine ⟨?_, rfl⟩
                show stC (x k) = 0 ∨ stC (x k) = 2
                unfold stC
                split
                · exact .inr rfl
                · exact .inl rfl
              · rw [eS s hs]; exact if_pos hs4)
        (fun w1 e w' hh => hh.1)
      refine C.mono ?_
      rintro e w' ⟨w1, ⟨t1, o1⟩, rfl, bN⟩
      rw [eF] at t1
      refine ⟨rfl, fun _ => ⟨h.bset hd (o1.trans (Only.of bN)), imp, t1.after bN, .inl rfl⟩, fun hh => absurd hh hok⟩
end Go.Proofs.YtgijoikmggjopaaDoor
