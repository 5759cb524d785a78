/- FnProcessAnimationNameIdempotent: the walk. -/
import Derived.Test.YtlmnnejfcieddaaDoorAm2
import Derived.Test.YtlmnnejfcieddaaDoorIU
set_option linter.unusedVariables false
set_option linter.unusedSimpArgs false
namespace Go.Proofs.YtlmnnejfcieddaaDoor
open Go.RowKit
theorem Low.below {low : ByteArray → ByteArray} {w w' : World} (h : Low low w) (hb : Below w.heap.size w w') : Low low w' := fun s v hs hv => h s v hs (hb.trans (hv.mono hb.size))
theorem Res.below {res : ByteArray → Bool} {w w' : World} (h : Res res w) (hb : Below w.heap.size w w') : Res res w' := by
  obtain ⟨bm, es, clock, h1, h2, h3⟩ := h
  exact ⟨bm, es, clock, ac hb h1, by rw [hb.block _ (Array.getElem?_eq_some_iff.1 h2).1]; exact h2, h3⟩
/-- numbers that are filled into a block -/
structure FillI (k0 : IntKind) (f : Nat → Int) (w : World) (T n k : Nat) (wr : World) : Prop where
  below : Below T w wr
  size : T < wr.heap.size
  row : ∀ i, i < k → wr.cell? ⟨T, i, none⟩ = some (.int k0 (f i))
  room : Room wr T n
theorem FillI.after {k0 : IntKind} {f : Nat → Int} {w wr w' : World} {T n k : Nat} (h : FillI k0 f w T n k wr) (hb : Below wr.heap.size wr w') : FillI k0 f w T n k w' :=
  ⟨h.below.trans (hb.mono (Nat.le_of_lt h.size)), Nat.lt_of_lt_of_le h.size hb.size, fun i hi => ac hb (h.row i hi), h.room.after hb⟩
theorem FillI.step {k0 : IntKind} {f : Nat → Int} {w wr : World} {T n k : Nat} (h : FillI k0 f w T n k wr) (hk : k < n) : FillI k0 f w T n (k + 1) (wr.setCell ⟨T, k, none⟩ (.int k0 (f k))) :=
  ⟨h.below.setCell (Nat.le_refl _) _, by simpa [World.setCell] using h.size, fun i hi => by
    by_cases e : i = k
    · subst e; obtain ⟨v, h1, h2⟩ := h.room i hk; exact cs h1
    · rw [co (by intro h; injection h; omega)]; exact h.row i (by omega), h.room.set _ _⟩
/-- .. another block is stored to -/
theorem FillI.other {k0 : IntKind} {f : Nat → Int} {w wr : World} {T n k T2 j : Nat} {v : Value} (h : FillI k0 f w T n k wr) (hT : T < T2) : FillI k0 f w T n k (wr.setCell ⟨T2, j, none⟩ v) :=
  ⟨h.below.setCell (Nat.le_of_lt hT) _, by simpa [World.setCell] using h.size, fun i hi => by rw [co (by intro h; injection h; omega)]; exact h.row i hi, h.room.setA _ _⟩
/-- two blocks, filled side by side -/
structure Fill2 (f g : Nat → Int) (w : World) (T n k : Nat) (wr : World) : Prop where
  size : T + 1 < wr.heap.size
  below : Below T w wr
  row1 : ∀ i, i < k → wr.cell? ⟨T, i, none⟩ = some (.int .u8 (f i))
  row2 : ∀ i, i < k → wr.cell? ⟨T + 1, i, none⟩ = some (.int .u32 (g i))
  room1 : Room wr T n
  room2 : Room wr (T + 1) n
theorem Fill2.start (f g : Nat → Int) (w : World) (z1 z2 : Array Value) (n : Nat) (t1 t2 : TypeId) : Fill2 f g w w.heap.size n 0 ((w.alloc (.cells (madeCells z1 n) t1)).alloc (.cells (madeCells z2 n) t2)) := by
  have e1 : (w.alloc (.cells (madeCells z1 n) t1)).heap.size = w.heap.size + 1 := by simp
  refine ⟨by simp, (ba w _).alloc (by simp) _, fun i hi => by omega, fun i hi => by omega, (Room.made w z1 n t1).after (ba _ _), ?_⟩
  have := Room.made (w.alloc (.cells (madeCells z1 n) t1)) z2 n t2
  rw [e1] at this
  exact this
theorem Fill2.step {f g : Nat → Int} {w wr : World} {T n k : Nat} (h : Fill2 f g w T n k wr) (hk : k < n) : Fill2 f g w T n (k + 1) ((wr.setCell ⟨T, k, none⟩ (.int .u8 (f k))).setCell ⟨T + 1, k, none⟩ (.int .u32 (g k))) := by
  have ne : ∀ i, (⟨T, i, none⟩ : Addr) ≠ ⟨T + 1, k, none⟩ := fun i e => by injection e; omega
  have ne2 : ∀ i, (⟨T + 1, i, none⟩ : Addr) ≠ ⟨T, k, none⟩ := fun i e => by injection e; omega
  obtain ⟨v1, a1, b1⟩ := h.room1 k hk
  obtain ⟨v2, a2, b2⟩ := h.room2 k hk
  refine ⟨by simpa [World.setCell] using h.size, (h.below.setCell (Nat.le_refl _) _).setCell (by show T ≤ T + 1; omega) _, fun i hi => ?_, fun i hi => ?_, (h.room1.setA _ _).setA _ _, (h.room2.setA _ _).setA _ _⟩
  · rw [co (ne i).symm]
    by_cases e : i = k
    · subst e; exact cs a1
    · rw [co (by intro h; injection h; omega)]; exact h.row1 i (by omega)
  · by_cases e : i = k
    · subst e; exact cs (by rw [co (ne2 i).symm]; exact a2)
    · rw [co (by intro h; injection h; omega), co (ne2 i).symm]; exact h.row2 i (by omega)
/-- which tokens processAnimationName converts -/
def cvT (mk : Bool) (t : Tk) : Bool := looked t.kd && !stay lowS resM mk t.kd t.tx
def cvB (mk : Bool) (F : Nat → Tk) (i : Nat) : Bool := cvT mk (F i)
theorem Lp_same (F : Nat → Tk) (cv : Nat → Bool) (l : List SyR) (n : Nat) (h : ∀ i, i < n → cv i = false) : ∀ k, k ≤ n → Lp F cv l k = l
  | 0, _ => rfl
  | k + 1, hk => by rw [Lp, if_neg (by simp [h k (by omega)])]; exact Lp_same F cv l n h k (by omega)
theorem Fp_kd (mk : Bool) (F : Nat → Tk) (l : List SyR) (i : Nat) : cvB mk (Fp F (cvB mk F) l) i = false := by
  show cvT mk (Fp F (cvB mk F) l i) = false
  unfold Fp
  cases h : cvB mk F i with
  | true => rw [if_pos rfl]; simp [cvT, looked]
  | false => rw [if_neg (by simp)]; exact h
theorem Fp_fix (F : Nat → Tk) (cv : Nat → Bool) (l : List SyR) (i : Nat) (h : cv i = false) : Fp F cv l i = F i := by unfold Fp; rw [if_neg (by simp [h])]
theorem Fp_ch (F : Nat → Tk) (cv : Nat → Bool) (l : List SyR) (i : Nat) : (Fp F cv l i).ch = (F i).ch ∧ (Fp F cv l i).lo = (F i).lo ∧ (Fp F cv l i).tx = (F i).tx := by unfold Fp; split <;> exact ⟨rfl, rfl, rfl⟩
theorem u32z : (Tryd.prog.info? 36).map (fun i => (i.zero.isSome, i.size, i.bytes)) = some (true, 1, 4) := by kernel_rfl
theorem u8z : (Tryd.prog.info? 38).map (fun i => (i.zero.isSome, i.size, i.bytes)) = some (true, 1, 1) := by kernel_rfl
theorem PS.base {w : World} {S : Nat → Prop} {G G' B : Nat} {mk : Bool} {l : List SyR} (h : PS w S G B mk l) (hG : G' ≤ G) : PS w S G' B mk l := by
  obtain ⟨m1, m2, v1, v2, D, h⟩ := h
  exact ⟨m1, m2, v1, v2, D, { h with gS := fun k q => Nat.le_trans hG (h.gS k q), o1 := own_base h.o1 hG, o2 := own_base h.o2 hG }⟩
theorem PS.lt {w : World} {S : Nat → Prop} {G B : Nat} {mk : Bool} {l : List SyR} (h : PS w S G B mk l) : ∀ k, S k → k < w.heap.size ∧ G ≤ k := by
  obtain ⟨m1, m2, v1, v2, D, h⟩ := h
  exact fun k q => ⟨h.lS k q, h.gS k q⟩
theorem PrIt.toks {w0 w wr : World} {S0 : Nat → Prop} {B : Nat} {mk : Bool} {T n : Nat} {F : Nat → Tk} {cv : Nat → Bool} {l : List SyR} (h : PrIt w0 w S0 B mk T n F cv l n wr) : TokR wr T n (Fp F cv l) :=
  ⟨fun i hi => by
    have := h.tok.tok i hi
    unfold Fk at this
    rw [if_pos hi] at this
    exact this, h.tok.froz⟩
def usesAt (l : List SyR) (j : Nat) : Int := ((l[j]?).map SyR.uses).getD 0
set_option maxRecDepth 100000 in
set_option maxHeartbeats 4000000 in
theorem walk4 (A0 A1 : Option Addr) (n0 c0 n1 c1 : Nat) (K : Nat → Int) (X : Nat → ByteArray) (mk : Bool) (w : World) (hL : Low lowS w) (hR : Res resM w) (hI : Inv w) (hG : 2 ≤ w.heap.size) (hk : Row .u8 w A0 n0 K) (hx : RowS w A1 n1 X) (hn0 : n0 ≤ maxLen) (hn1 : n1 ≤ maxLen) (hK : ∀ i, i < n0 → 0 ≤ K i ∧ K i ≤ 255) (hX : ∀ i, i < n1 → (X i).size ≤ maxLen) :
    Calls Tryd.prog 4 #[.slice A0 n0 c0, .slice A1 n1 c1, .bool mk] w (fun e w' => e = .returned (.bool true) ∧ Below w.heap.size w w') := by
  have C13 := Lib.hid (bytes13_c A0 A1 n0 c0 n1 c1 X mk w hx hn0 hn1 hX)
  have hL' := Lib.hid hL; have hR' := Lib.hid hR; have hI' := Lib.hid hI; have hk' := Lib.hid hk; have hx' := Lib.hid hx; have hK' := Lib.hid hK
  clear hL hR hI hk hx hn0 hn1 hX hK
  go_enter Tryd.func4, Tryd.ntmps4
  go_upto_region 3 with (go_at_call 13; (with_reducible refine C13.out.mono ?_); rintro e w1 ⟨x, rfl, hx1, rfl⟩; cases x)
  any_goals (go_ret; exact ⟨rfl, Below.refl _ _⟩)
  obtain ⟨hn0, hn1, hX⟩ := hx1 (by simp)
  have C6 := Lib.hid (big6_c A0 A1 n0 c0 n1 c1 X w hx'.out hn0 hn1 hX)
  replace hX := Lib.hid hX
  clear hx1 C13
  go_upto_region 5 with (go_at_call 6; (with_reducible refine C6.out.mono ?_); rintro e w1 ⟨y, rfl, hy, rfl⟩; cases y)
  any_goals (go_ret; exact ⟨rfl, Below.refl _ _⟩)
  obtain ⟨hm0, hm1⟩ := hy (by simp)
  clear hy C6 hn0 hn1
  obtain ⟨n, hn⟩ : ∃ n, n = Nat.min n0 n1 := ⟨_, rfl⟩
  have hl0 : n ≤ n0 := by rw [hn]; exact Nat.min_le_left _ _
  have hl1 : n ≤ n1 := by rw [hn]; exact Nat.min_le_right _ _
  have C7 := Lib.hid (build7_c A0 A1 n0 c0 n1 c1 n K X w hn (by omega) hk'.out hx'.out hK'.out)
  clear hn hk' hx' hK'
  go_upto_region 7 with (go_at_call 7; (with_reducible refine C7.out.mono ?_); rintro e w1 ⟨T, rfl, hT1, hT2, hTok, hb1⟩; replace hTok := Lib.hid hTok; replace hb1 := Lib.hid hb1)
  clear C7
  have C8 := Lib.hid (new6_c mk w1)
  go_upto_region 8 with (go_at_call 8; (with_reducible refine C8.out.mono ?_); rintro e w2 ⟨B, S, rfl, hb2, hps⟩; replace hb2 := Lib.hid hb2; replace hps := Lib.hid hps)
  clear C8
  have hz1 := hb1.out.size
  have hz2 := hb2.out.size
  have hTS : ¬ S T := fun h => by have := hps.out.lt T h; omega
  have hb02 := Lib.hid (hb1.out.trans (hb2.out.mono hz1))
  obtain ⟨F, hF⟩ : ∃ F, F = zF K X := ⟨_, rfl⟩
  rw [← hF] at hTok
  have hFp : Hid (∀ i, i < n → (F i).ch = .pointer none ∧ (F i).lo = 0 ∧ (F i).tx.size ≤ 1048576) := Lib.hid (fun i hi => by rw [hF]; exact ⟨rfl, rfl, hX.out i (by omega)⟩)
  obtain ⟨cv, hcv⟩ : ∃ cv, cv = cvB mk F := ⟨_, rfl⟩
  have C14 := Lib.hid (proc14_c B (.slice (some ⟨T, 0, none⟩) n n) w2 _ (proc25_c resM w w2 hL'.out hR'.out hI'.out hb02.out hG S B mk [] 0 (FitS.nil 0) (hps.out.base hz1) T n n F cv (hTok.out.below hb2.out hT2) (by omega) (by omega) hTS (by omega) hFp.out (fun i hi => by rw [hcv]; rfl)))
  clear hF hX
  go_upto_region 9 with (go_at_call 14; (with_reducible refine C14.out.mono ?_); rintro e w4 ⟨rfl, hP⟩; replace hP := Lib.hid hP)
  clear C14 hTok hps hb02
  obtain ⟨S1, hps1, hS1⟩ := hP.out.ps
  have hTok := Lib.hid hP.out.toks
  have hb04 := Lib.hid hP.out.bel
  have hz4 := hP.out.kp.size
  have hT4 : T < w4.heap.size := by omega
  have hfit := Lp_fit F cv [] 0 (FitS.nil 0) n
  obtain ⟨l, hl⟩ : ∃ l, l = Lp F cv [] n := ⟨_, rfl⟩
  rw [← hl] at hps1 hfit
  obtain ⟨F1, hF1⟩ : ∃ F1, F1 = Fp F cv [] := ⟨_, rfl⟩
  rw [← hF1] at hTok
  have hFp1 : Hid (∀ i, i < n → (F1 i).ch = .pointer none ∧ (F1 i).lo = 0 ∧ (F1 i).tx.size ≤ 1048576) := Lib.hid (fun i hi => by rw [hF1]; obtain ⟨h1, h2, h3⟩ := Fp_ch F cv [] i; rw [h1, h2, h3]; exact hFp.out i hi)
  have hcv1 : Hid (∀ i, cvB mk F1 i = false) := Lib.hid (fun i => by rw [hF1, hcv]; exact Fp_kd mk F [] i)
  have hS1lt := Lib.hid hps1.lt
  have hTS1 : ¬ S1 T := fun h => by
    rcases hS1 T h with q | q
    · exact hTS q
    · omega
  clear hTS hS1 hP hFp hl hF1 hcv
  replace hps1 := Lib.hid hps1
  replace hfit := Lib.hid hfit
  obtain ⟨zk, hmk⟩ := make_any (b := 1) Tryd.underlying46 u8z n (by omega) (by omega)
  obtain ⟨zp, hmp⟩ := make_any (b := 4) Tryd.underlying47 u32z n (by omega) (by omega)
  simp only [Nat.mul_one] at hmk hmp
  go_upto_region 11 with fail
  refine wp_gen (fun W5 hW => ?_)
  have H0 : Hid (Fill2 (fun i => (F1 i).kd) (fun i => (F1 i).pl) w4 w4.heap.size n 0 W5) := Lib.hid (by rw [hW]; exact Fill2.start _ _ w4 zk zp n _ _)
  clear hW hmk hmp
  go_wp2
  go_loopw [12] (fun i wr => ∃ k : Nat, k ≤ n ∧ i = .int .i64 k ∧ Fill2 (fun i => (F1 i).kd) (fun i => (F1 i).pl) w4 w4.heap.size n k wr) (fun i _ => n - (intOf i).toNat)
  case atStart => exact ⟨0, by omega, rfl, H0.out⟩
  case round =>
    clear H0
    obtain ⟨k, hk, rfl, HF⟩ := hrel
    by_cases hlt : k < n
    · have tk := (hTok.out.tok k hlt).after HF.below
      have d3 := tk.c3; have d5 := tk.c5
      clear tk
      obtain ⟨v1, q1, f1⟩ := HF.room1 k hlt
      obtain ⟨v2, q2, f2⟩ := HF.room2 k hlt
      have i0 : (0 : Int) ≤ k := by omega
      have i1 : (k : Int) < n := by omega
      have e1 : ¬ (T = w4.heap.size) := by omega
      have e2 : ¬ (w4.heap.size = T) := by omega
      have HS := Lib.hid (HF.step hlt)
      clear HF
      go_wp2
      go_roundw
      case rel => exact ⟨k + 1, by omega, by go_num, HS.out⟩
      case measure => simp [intOf]; omega
    · obtain rfl : k = n := by omega
      obtain ⟨w5, rfl⟩ : ∃ w5, w5 = wr := ⟨_, rfl⟩
      have hz5 := HF.size
      have hb45 := HF.below
      have C15 := Lib.hid (cnt9_c w5 S1 w.heap.size B mk l (hps1.out.below hb45))
      replace HF := Lib.hid HF
      replace hb45 := Lib.hid hb45
      go_upto_region 17 with (go_at_call 15; (with_reducible refine C15.out.mono ?_); rintro e w6 ⟨rfl, hb6⟩)
      clear C15
      have hlen := hfit.out.len
      have hz6 := hb6.size
      obtain ⟨zu, hmu⟩ := make_any (b := 4) Tryd.underlying47 u32z l.length (by omega) (by omega)
      simp only [Nat.mul_one] at hmu
      go_upto_region 18 with fail
      refine wp_gen (fun W7 hW => ?_)
      have H0 : Hid (FillI .u32 (usesAt l) w6 w6.heap.size l.length 0 W7) := Lib.hid (by rw [hW]; exact ⟨ba _ _, by simp, fun i hi => by omega, Room.made _ _ _ _⟩)
      clear hW hmu
      have hb56 := Lib.hid hb6
      have hb46 := Lib.hid (hb45.out.trans (hb6.mono (by omega)))
      clear hb6
      go_wp2
      go_loopw [15] (fun i wr => ∃ j : Nat, j ≤ l.length ∧ i = .int .i64 j ∧ FillI .u32 (usesAt l) w6 w6.heap.size l.length j wr) (fun i _ => l.length - (intOf i).toNat)
      case atStart => exact ⟨0, by omega, rfl, H0.out⟩
      case round =>
        clear H0
        obtain ⟨j, hj, rfl, HU⟩ := hrel
        have hB : Hid (Below w4.heap.size w4 wr) := Lib.hid (hb46.out.trans (HU.below.mono (by omega)))
        replace HU := Lib.hid HU
        by_cases hlt : j < l.length
        · obtain ⟨r, hr⟩ : ∃ r, l[j]? = some r := ⟨l[j], List.getElem?_eq_getElem hlt⟩
          have er : usesAt l j = r.uses := by unfold usesAt; rw [hr]; rfl
          have C16 := Lib.hid (rd21_c wr S1 w.heap.size B mk l (hps1.out.below hB.out) j r hr)
          have i0 : (0 : Int) ≤ j := by omega
          have i1 : (j : Int) < l.length := by omega
          replace er := Lib.hid er
          go_wp2_with (go_at_call 16; (with_reducible refine C16.out.mono ?_); rintro e w8 ⟨rfl, hb8⟩; have HU8 := Lib.hid (HU.out.after hb8); obtain ⟨v9, q9, f9⟩ := HU8.out.room j hlt; have HS8 := Lib.hid (HU8.out.step hlt); rw [er.out] at HS8; clear hb8 HU8)
          go_roundw
          case rel => exact ⟨j + 1, by omega, by go_num, HS8.out⟩
          case measure => simp [intOf]; omega
        · obtain rfl : j = l.length := by omega
          have hz8 := HU.out.size
          have hlw := hS1lt.out
          have C14 := Lib.hid (proc14_c B (.slice (some ⟨T, 0, none⟩) k k) wr _ (proc25_c resM w wr hL'.out hR'.out hI'.out (hb04.out.trans (hB.out.mono (by omega))) hG S1 B mk l (0 + k) hfit.out (hps1.out.below hB.out) T k k F1 (cvB mk F1) (hTok.out.below hB.out hT4) (by omega) (by omega) hTS1 (by omega) hFp1.out (fun i hi => rfl)))
          replace hlw := Lib.hid hlw
          go_upto_region 23 with (go_at_call 14; (with_reducible refine C14.out.mono ?_); rintro e w9 ⟨rfl, hP⟩; replace hP := Lib.hid hP)
          clear C14
          obtain ⟨S2, hps2, -⟩ := hP.out.ps
          rw [Lp_same F1 (cvB mk F1) l k (fun i _ => hcv1.out i) k (Nat.le_refl _)] at hps2
          have hTok2 := hP.out.toks
          have hrow1 : Hid (∀ i, i < k → w9.cell? ⟨w4.heap.size, i, none⟩ = some (.int .u8 (F1 i).kd)) := Lib.hid (fun i hi => hP.out.kp.cell (ac (HU.out.below.mono (by show w6.heap.size ≤ w6.heap.size; omega)) (ac hb56.out (HF.out.row1 i hi))) (fun q => by
            rcases q with q | q
            · have := (hlw.out _ q).1; simp only at this; omega
            · simp only at q; omega))
          have hrow2 : Hid (∀ i, i < k → w9.cell? ⟨w4.heap.size + 1, i, none⟩ = some (.int .u32 (F1 i).pl)) := Lib.hid (fun i hi => hP.out.kp.cell (ac (HU.out.below.mono (by show w6.heap.size ≤ w6.heap.size; omega)) (ac hb56.out (HF.out.row2 i hi))) (fun q => by
            rcases q with q | q
            · have := (hlw.out _ q).1; simp only at this; omega
            · simp only at q; omega))
          have hrow3 : Hid (∀ i, i < l.length → w9.cell? ⟨w6.heap.size, i, none⟩ = some (.int .u32 (usesAt l i))) := Lib.hid (fun i hi => hP.out.kp.cell (HU.out.row i hi) (fun q => by
            rcases q with q | q
            · have := (hlw.out _ q).1; simp only at this; omega
            · simp only at q; omega))
          have hB9 := Lib.hid hP.out.bel
          replace hTok2 := Lib.hid hTok2
          replace hps2 := Lib.hid hps2
          clear hP HU HF hlw hB
          have C15 := Lib.hid (cnt9_c w9 S2 w.heap.size B mk l hps2.out)
          go_upto_region 25 with (go_at_call 15; (with_reducible refine C15.out.mono ?_); rintro e w10 ⟨rfl, hb10⟩; replace hb10 := Lib.hid hb10)
          clear C15
          go_wp2
          go_loopw [16] (fun i wr => ∃ j : Nat, j ≤ l.length ∧ i = .int .i64 j ∧ Below w9.heap.size w9 wr) (fun i _ => l.length - (intOf i).toNat)
          case atStart => exact ⟨0, by omega, rfl, hb10.out⟩
          case round =>
            clear hb10
            obtain ⟨j, hj, rfl, hB⟩ := hrel
            replace hB := Lib.hid hB
            by_cases hlt : j < l.length
            · obtain ⟨r, hr⟩ : ∃ r, l[j]? = some r := ⟨l[j], List.getElem?_eq_getElem hlt⟩
              have er : usesAt l j = r.uses := by unfold usesAt; rw [hr]; rfl
              have d2 := ac hB.out (hrow3.out j hlt)
              rw [er] at d2
              have C16 := Lib.hid (fun d os => rd21_c (Sort.grow (redrawn wr d) os) S2 w.heap.size B mk l ((hps2.out.below hB.out).below (below_regrown wr d os)) j r hr)
              have y2 := fun d os => cell_regrown d2 d os
              have i0 : (0 : Int) ≤ j := by omega
              have i1 : (j : Int) < l.length := by omega
              clear er d2
              go_upto_region 28 with fail
              refine drawn_tail 7 (by kernel_rfl) (by kernel_rfl) (by kernel_rfl) (fun Q hQ => ?_)
              simp only [List.take_succ_cons, List.take_zero, List.drop_succ_cons, List.drop_zero]
              repeat (quiet_step (exact Calls.regrown_of (C16.out _ _)))
              refine wpQuiet_nil ?_
              intro W3 hw
              have hb1 : Below wr.heap.size wr W3 := by
                obtain ⟨⟨d, os⟩, rfl⟩ := hw
                exact below_regrown _ d os
              clear hw
              have hB3 := Lib.hid (hB.out.trans (hb1.mono hB.out.size))
              clear y2 C16 hb1 hB
              go_wp2
              go_roundw
              case rel => exact ⟨j + 1, by omega, by go_num, hB3.out⟩
              case measure => simp [intOf]; omega
            · obtain rfl : j = l.length := by omega
              go_wp2
              go_loopw [17] (fun i wr => ∃ j : Nat, j ≤ k ∧ i = .int .i64 j ∧ Below w9.heap.size w9 wr) (fun i _ => k - (intOf i).toNat)
              case atStart => exact ⟨0, by omega, rfl, hB.out⟩
              case round =>
                clear hB
                obtain ⟨j, hj, rfl, hB⟩ := hrel
                replace hB := Lib.hid hB
                by_cases hlt : j < k
                · have tk := (hTok2.out.tok j hlt).after hB.out
                  rw [Fp_fix F1 (cvB mk F1) l j (hcv1.out j)] at tk
                  have d3 := tk.c3; have d5 := tk.c5
                  clear tk
                  have d1 := ac hB.out (hrow1.out j hlt)
                  have d2 := ac hB.out (hrow2.out j hlt)
                  have y1 := fun d os => cell_regrown d1 d os
                  have y2 := fun d os => cell_regrown d2 d os
                  have y3 := fun d os => cell_regrown d3 d os
                  have y5 := fun d os => cell_regrown d5 d os
                  have i0 : (0 : Int) ≤ j := by omega
                  have i1 : (j : Int) < k := by omega
                  clear d1 d2 d3 d5
                  go_upto_region 33 with fail
                  refine drawn_tail 21 (by kernel_rfl) (by kernel_rfl) (by kernel_rfl) (fun Q hQ => ?_)
                  simp only [List.take_succ_cons, List.take_zero, List.drop_succ_cons, List.drop_zero]
                  repeat (quiet_step (fail))
                  refine wpQuiet_nil ?_
                  intro W3 hw
                  have hb1 : Below wr.heap.size wr W3 := by
                    obtain ⟨⟨d, os⟩, rfl⟩ := hw
                    exact below_regrown _ d os
                  clear hw
                  have hB3 := Lib.hid (hB.out.trans (hb1.mono hB.out.size))
                  clear y1 y2 y3 y5 hb1 hB
                  go_wp2
                  go_roundw
                  case rel => exact ⟨j + 1, by omega, by go_num, hB3.out⟩
                  case measure => simp [intOf]; omega
                · obtain rfl : j = k := by omega
                  go_wp2
                  go_ret
                  exact ⟨rfl, hB9.out.trans (hB.out.mono hB9.out.size)⟩
end Go.Proofs.YtlmnnejfcieddaaDoor
