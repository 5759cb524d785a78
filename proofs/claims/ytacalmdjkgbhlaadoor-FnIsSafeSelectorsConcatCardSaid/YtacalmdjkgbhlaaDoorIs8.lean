/- FnIsSafeSelectorsConcat: the law's walk. -/
import Derived.Test.YtacalmdjkgbhlaaDoorIs4
import Derived.Test.YtacalmdjkgbhlaaDoorIs5
import Derived.Test.YtacalmdjkgbhlaaDoorIs7
set_option linter.unusedVariables false
set_option linter.unusedSimpArgs false
namespace Go.Proofs.YtacalmdjkgbhlaaDoor
open Go.RowKit
def Lk (W : World) (M : Nat) (x : Value) (g : List Cq) : Prop := ∃ a' c', x = .slice a' g.length c' ∧ (a' = none → g = [] ∧ c' = 0) ∧ RC (fun b => M ≤ b) W a' g ∧ g.length ≤ maxLen
theorem Lk.keep {W W' : World} {M : Nat} {x : Value} {g : List Cq} (h : Lk W M x g) (hk : Kc (fun b => M ≤ b) W W') : Lk W' M x g := by
  obtain ⟨a', c', h1, h2, h3, h4⟩ := h
  exact ⟨a', c', h1, h2, h3.keep hk (fun _ _ q => q), h4⟩
structure Lst (W : World) (M : Nat) (out : Value) (gs : List (List Cq)) (xs : List Value) : Prop where
  own : W.ownsRow M 26 1 out gs.length xs
  lk : ∀ (i : Nat) (g : List Cq), gs[i]? = some g → ∃ x, xs[i]? = some x ∧ Lk W M x g
theorem Kc.bel {M : Nat} {w w' : World} (h : Below M w w') : Kc (fun b => M ≤ b) w w' := fun a v hc hn => by
  have hb : a.block < M := by
    have : ¬ M ≤ a.block := hn
    omega
  rw [World.cell?_of_block (h.block _ hb)]; exact hc
theorem Lst.add {W W' : World} {M : Nat} {out out' x : Value} {gs : List (List Cq)} {xs : List Value} {g : List Cq} (h : Lst W M out gs xs) (hx : Lk W M x g) (ho : W'.ownsRow M 26 1 out' (gs.length + 1) (xs ++ [x])) (hb : Below M W W') : Lst W' M out' (gs ++ [g]) (xs ++ [x]) := by
  have hl := h.own.1
  refine ⟨by simpa using ho, fun i g' hi => ?_⟩
  rcases Nat.lt_trichotomy i gs.length with q | q | q
  · rw [List.getElem?_append_left q] at hi
    obtain ⟨y, h1, h2⟩ := h.lk i g' hi
    exact ⟨y, by rw [List.getElem?_append_left (by omega)]; exact h1, h2.keep (Kc.bel hb)⟩
  · subst q
    rw [List.getElem?_append_right (by omega), Nat.sub_self] at hi
    cases hi
    exact ⟨x, by rw [List.getElem?_append_right (by omega)]; simp [show gs.length - xs.length = 0 by omega], hx.keep (Kc.bel hb)⟩
  · rw [List.getElem?_eq_none (by simp; omega)] at hi
    cases hi
theorem Lst.keep {W W' : World} {M : Nat} {S : Nat → Prop} {out : Value} {gs : List (List Cq)} {xs : List Value} (h : Lst W M out gs xs) (hk : Kp S W W') (hs : ∀ k, out.ownBlock = some k → ¬ S k) (hb : Below M W W') : Lst W' M out gs xs :=
  ⟨hk.own h.own hs, fun i g hi => by obtain ⟨x, h1, h2⟩ := h.lk i g hi; exact ⟨x, h1, h2.keep (Kc.bel hb)⟩⟩
structure Jn (w4 : World) (M : Nat) (ab ba : Value) (gA gB : List (List Cq)) (W : World) : Prop where
  a : ∃ xs, Lst W M ab gA xs
  b : ∃ xs, Lst W M ba gB xs
  dis : ∀ k, ab.ownBlock = some k → ba.ownBlock ≠ some k
  bel : Below M w4 W
  le : M ≤ W.heap.size
theorem Jn.sym {w4 W : World} {M : Nat} {ab ba : Value} {gA gB : List (List Cq)} (h : Jn w4 M ab ba gA gB W) : Jn w4 M ba ab gB gA W := ⟨h.b, h.a, fun k h1 h2 => h.dis k h2 h1, h.bel, h.le⟩
theorem Jn.add {w4 W W' : World} {M : Nat} {ab ba ab' x : Value} {gA gB : List (List Cq)} {g : List Cq} {xs : List Value} (h : Jn w4 M ab ba gA gB W) (hl : Lst W M ab gA xs) (hx : Lk W M x g) (ho : W'.ownsRow M 26 1 ab' (gA.length + 1) (xs ++ [x])) (hk : Kp (fun b => ab.ownBlock = some b) W W') (hn : ∀ k, ab'.ownBlock = some k → ab.ownBlock = some k ∨ W.heap.size ≤ k) : Jn w4 M ab' ba (gA ++ [g]) gB W' := by
  have hb : Below M W W' := hk.below h.le (fun b e => (hl.own.lt b e).1)
  obtain ⟨ys, hB⟩ := h.b
  refine ⟨⟨_, hl.add hx ho hb⟩, ⟨ys, hB.keep hk (fun k h1 h2 => h.dis k h2 h1) hb⟩, fun k h1 h2 => ?_, h.bel.trans hb, Nat.le_trans h.le hk.size⟩
  rcases hn k h1 with q | q
  · exact h.dis k q h2
  · have := (hB.own.lt k h2).2
    omega
theorem Lst.rg {W : World} {M : Nat} {out : Value} {gs : List (List Cq)} {xs : List Value} (h : Lst W M out gs xs) : ∃ a c, out = .slice a gs.length c ∧ RG (fun _ => False) W a gs := by
  obtain ⟨a, c, rfl, -, -⟩ := own_shape h.own
  refine ⟨a, c, rfl, fun i g hi => ?_⟩
  have hil : i < gs.length := (List.getElem?_eq_some_iff.1 hi).1
  obtain ⟨x, hx, a', c', rfl, h2, h3, h4⟩ := h.lk i g hi
  obtain ⟨g0, c0, e, hg1, hg2, -, -⟩ := own_some h.own (by omega)
  injection e with e _ _
  subst e
  have hcell := h.own.cells (g := g0) rfl i _ hx
  exact ⟨g0, 0, a', c', rfl, id, by
    have e : (⟨g0, 0, none⟩ : Addr).add i = ⟨g0, 0 + i, none⟩ := by unfold Addr.add; split <;> simp_all
    rw [e] at hcell
    simpa using hcell, h2, h3.keep (fun _ _ q _ => q) (fun _ _ q => q.elim), h4⟩
theorem RG.get {O : Nat → Prop} {W : World} {M : Nat} {a : Option Addr} {gs : List (List Cq)} {i : Nat} {g : List Cq} (h : RG (fun b => M ≤ b) W a gs) (hi : gs[i]? = some g) : ∃ ab ao xa xn xc, a = some ⟨ab, ao, none⟩ ∧ W.cell? ⟨ab, ao + i, none⟩ = some (.slice xa xn xc) ∧ Lk W M (.slice xa xn xc) g := by
  obtain ⟨b, o, a', c', h1, hn, h2, h3, h4, h5⟩ := h i g hi
  exact ⟨b, o, _, _, _, h1, h2, a', c', rfl, h3, h4, h5⟩
theorem RG.up {W : World} {a : Option Addr} {gs : List (List Cq)} {O : Nat → Prop} (h : RG O W a gs) : RG (fun b => W.heap.size ≤ b) W a gs := h.keep (O := O) (fun _ _ q _ => q) (fun b hb q => by have : W.heap.size ≤ b := q; omega)
theorem RG.kp {W W' : World} {M : Nat} {a : Option Addr} {gs : List (List Cq)} (h : RG (fun b => M ≤ b) W a gs) (hb : Below M W W') : RG (fun b => M ≤ b) W' a gs := h.keep (Kc.bel hb) (fun _ _ q => q)
theorem Res.after {res : ByteArray → Bool} {w w' : World} (h : Res res w) (hb : Below w.heap.size w w') : Res res w' := by
  obtain ⟨bm, es, clock, h1, h2, h3⟩ := h
  exact ⟨bm, es, clock, ac hb h1, by rw [hb.block _ (Array.getElem?_eq_some_iff.1 h2).1]; exact h2, h3⟩
theorem safeG_app (kn : ByteArray → Bool) (x y : List (List Cq)) : safeG kn (x ++ y) = (safeG kn x && safeG kn y) := by unfold safeG; rw [List.all_append]
/-- zzBuild, then ZZisSafeSelectors -/
theorem build_len {kn : ByteArray → Bool} {gs : List (List Cq)} (a : Option Addr) (cc n : Nat) (O : Nat → Prop) (w : World) (h : RG O w a gs) (hl : gs.length = n) (hn : n ≤ 1048576) (hin : ∀ g ∈ gs, Bc g) : Calls Tryd.prog 8 #[.slice a n cc] w (BuildP kn gs w) := by
  subst hl
  exact build8_c kn gs a cc O w h hn (fun g hg => ⟨(hin g hg).1, (hin g hg).2⟩)
theorem clone_len {gs : List (List Cq)} (a : Option Addr) (cc n : Nat) (O : Nat → Prop) (w : World) (h : RG O w a gs) (hl : gs.length = n) (hnil : a = none → gs = [] ∧ cc = 0) (hn : n ≤ 1048576) (hin : ∀ g ∈ gs, Bc g) : Calls Tryd.prog 6 #[.slice a n cc] w (ClP gs w) := by
  subst hl
  exact clone_c gs a cc O w h hnil hn hin
theorem bytes_len {ga gb : List (List Cq)} (a b : Option Addr) (ac bc na nb : Nat) (O : Nat → Prop) (w : World) (ha : RG O w a ga) (hb : RG O w b gb) (hla : ga.length = na) (hlb : gb.length = nb) : Calls Tryd.prog 4 #[.slice a na ac, .slice b nb bc] w (BytP ga gb w) := by
  subst hla hlb
  exact bytes4_c ga gb a b ac bc O w ha hb
theorem sum_len {gs : List (List Cq)} (a : Option Addr) (cc n : Nat) (O : Nat → Prop) (w : World) (h : RG O w a gs) (hl : gs.length = n) (hn : n ≤ 1048576) : Calls Tryd.prog 5 #[.slice a n cc] w (SomeZ w) := by
  subst hl
  exact bytes5_c gs a cc O w h (by unfold maxLen; omega)
/-- the law's answer -/
def LawP (w : World) (e : Ending) (w' : World) : Prop := e = .returned (.bool true) ∧ Below w.heap.size w w'
set_option maxRecDepth 100000 in
set_option maxHeartbeats 4000000 in
theorem law_c (kn : ByteArray → Bool) (ga gb : List (List Cq)) (a b : Option Addr) (ac bc : Nat) (w : World) (O : Nat → Prop) (ha : RG O w a ga) (hb : RG O w b gb) (hna : a = none → ga = [] ∧ ac = 0) (hnb : b = none → gb = [] ∧ bc = 0) (hla : ga.length ≤ maxLen) (hlb : gb.length ≤ maxLen) (hR : Res kn w) : Calls Tryd.prog 3 #[.slice a ga.length ac, .slice b gb.length bc] w (LawP w) := by
  have hM : maxLen = 9223372036854775807 := by decide
  rw [hM] at hla hlb
  obtain ⟨na, ena⟩ : ∃ n, ga.length = n := ⟨_, rfl⟩
  obtain ⟨nb, enb⟩ : ∃ n, gb.length = n := ⟨_, rfl⟩
  have C4 := Lib.hid (bytes_len a b ac bc na nb O w ha hb ena enb)
  rw [ena] at hla ⊢
  rw [enb] at hlb ⊢
  replace ha := Lib.hid ha
  replace hb := Lib.hid hb
  replace hna := Lib.hid hna
  replace hnb := Lib.hid hnb
  replace ena := Lib.hid ena
  replace enb := Lib.hid enb
  replace hR := Lib.hid hR
  have q0 := wr64 (x := 0) (by omega) (by omega)
  clear q0
  go_enter Tryd.func3, Tryd.ntmps3
  go_upto_if 16 with (go_at_call 4; (with_reducible refine C4.out.mono ?_); rintro e w2 ⟨ok, rfl, rfl, hok⟩; replace hok := Lib.hid hok)
  clear C4
  cases ok with
  | false =>
    go_wp2
    go_ret
    exact ⟨rfl, Below.refl _ _⟩
  | true =>
  obtain ⟨hsum, hBa, hBb⟩ := hok.out rfl
  rw [ena.out, enb.out] at hsum
  replace hBa := Lib.hid hBa
  replace hBb := Lib.hid hBb
  clear hok
  have Ca := Lib.hid (sum_len a ac na O w ha.out ena.out (by omega))
  go_upto_if 22 with (first | (go_at_call 5; (with_reducible refine Ca.out.mono ?_); rintro e w3 ⟨⟨za, rfl⟩, b3⟩; replace b3 := Lib.hid b3; have Cb := Lib.hid (sum_len b bc nb O w3 (hb.out.after b3.out) enb.out (by omega))) | (go_at_call 5; (with_reducible refine Cb.out.mono ?_); rintro e w4 ⟨⟨zb, rfl⟩, b4⟩; replace b4 := Lib.hid b4))
  clear Ca Cb
  obtain ⟨z, hz⟩ : ∃ z, wrap64 (za + zb) = z := ⟨_, rfl⟩
  simp only [hz]
  clear hz
  have B4 := Lib.hid (b3.out.trans (b4.out.mono b3.out.size))
  clear b3 b4
  by_cases hbig : (1048576 : Int) < z
  · go_wp2
    go_ret
    exact ⟨rfl, B4.out⟩
  have Ca := Lib.hid (clone_len a ac na O w4 (ha.out.after B4.out) ena.out hna.out (by omega) hBa.out)
  go_upto_region 7 with (first | (go_at_call 6; (with_reducible refine Ca.out.mono ?_); rintro e w5 ⟨a5, c5, rfl, -, r5, b5⟩; rw [ena.out]; replace r5 := Lib.hid r5; replace b5 := Lib.hid b5; have B5 := Lib.hid (B4.out.trans (b5.out.mono B4.out.size)); have Cb := Lib.hid (clone_len b bc nb O w5 (hb.out.after B5.out) enb.out hnb.out (by omega) hBb.out)) | (go_at_call 6; (with_reducible refine Cb.out.mono ?_); rintro e w6 ⟨a6, c6, rfl, -, r6, b6⟩; rw [enb.out]; replace r6 := Lib.hid r6; replace b6 := Lib.hid b6))
  clear Ca Cb
  have B6 := Lib.hid (B5.out.trans (b6.out.mono B5.out.size))
  have HA := Lib.hid (r5.out.after b6.out).up
  have HB := Lib.hid r6.out.up
  have R6 := Lib.hid (hR.out.after B6.out)
  clear r5 r6 b5 b6 B4 B5 ha hb hR hna hnb
  have m22 := make0_z (P := Tryd.prog) #[.slice none 0 0] Tryd.underlying22 info26 (na + nb) (by omega) (by omega)
  simp only [Nat.mul_one, Int.natCast_add] at m22
  have q1 := wr64 (x := (na : Int) + nb) (by omega) (by omega)
  go_upto_region 9 with fail
  clear m22 q1
  refine wp_gen (fun w7 hW => ?_)
  have h0 : Hid (Jn w6 w6.heap.size (.slice (some ⟨w6.heap.size, 0, none⟩) 0 (na + nb)) (.slice (some ⟨w6.heap.size + 1, 0, none⟩) 0 (na + nb)) [] [] w7) := Lib.hid (by
    have h1 : (w6.alloc (.cells (madeCells #[.slice none 0 0] (na + nb)) 26)).ownsRow w6.heap.size 26 1 (.slice (some ⟨w6.heap.size, 0, none⟩) 0 (na + nb)) 0 [] := World.ownsRow_made _ _ _ (by omega) (by unfold maxLen; omega) (by rw [size_madeCells]; omega)
    have h2 := World.ownsRow_made (base := w6.heap.size) (e := 26) (size := 1) (w6.alloc (.cells (madeCells #[.slice none 0 0] (na + nb)) 26)) (madeCells #[.slice none 0 0] (na + nb)) (na + nb) (by simp) (by unfold maxLen; omega) (by rw [size_madeCells]; omega)
    refine ⟨⟨[], ?_, fun i g hi => by simp at hi⟩, ⟨[], ?_, fun i g hi => by simp at hi⟩, fun k h1 h2 => ?_, ?_, ?_⟩
    · rw [hW]; exact h1.alloc _
    · rw [hW]; simpa using h2
    · simp [Value.ownBlock] at h1 h2; omega
    · rw [hW]; exact (ba _ _).alloc (by simp) _
    · rw [hW]; simp; omega)
  clear hW
  go_wp2
  go_loopw [5, 7] (fun u v wr => ∃ (i : Nat) (ab : Value), ab = u ∧ i ≤ na ∧ v = .int .i64 i ∧ Jn w6 w6.heap.size ab (.slice (some ⟨w6.heap.size + 1, 0, none⟩) 0 (na + nb)) (ga.take i) [] wr) (fun _ v _ => na - (intOf v).toNat)
  case atStart => exact ⟨0, _, rfl, by omega, rfl, h0.out⟩
  case round =>
    clear h0
    obtain ⟨i, ab, rfl, hi, rfl, h0⟩ := hrel
    obtain ⟨w1, rfl⟩ : ∃ w1 : World, w1 = wr := ⟨_, rfl⟩
    replace h0 := Lib.hid h0
    by_cases hlt : i < na
    · obtain ⟨g, hg⟩ : ∃ g, ga[i]? = some g := ⟨_, List.getElem?_eq_getElem (by rw [ena.out]; exact hlt)⟩
      obtain ⟨xb, xo, xa, xn, xc, hx, hc, hL⟩ := RG.get (O := fun _ => False) (HA.out.kp h0.out.bel) hg
      cases hx
      obtain ⟨xs, hX⟩ := h0.out.a
      have hlen : Hid ((ga.take i).length = i) := Lib.hid (by rw [List.length_take, ena.out]; omega)
      have hO := Lib.hid hX.own
      rw [hlen.out] at hO
      replace hX := Lib.hid hX
      replace hL := Lib.hid hL
      replace hg := Lib.hid hg
      have i0 : (0 : Int) ≤ i := by omega
      have i1 : (i : Int) < na := by omega
      have hz := h0.out.le
      go_wp2_with (at_builtin; go_loud (refine app1n (w := w1) (.tmp 45) (.tmp 50) 22 26 w6.heap.size 1 24 #[.slice none 0 0] #[.slice xa xn xc] _ i _ rfl rfl rfl rfl rfl Tryd.underlying22 info26 rfl (by omega) hO.out rfl (by simp [Value.oneCell']) (by omega) (by omega) hz ?_); intro u2 w8 hO8 hkp hnew; replace hO8 := Lib.hid hO8; replace hkp := Lib.hid hkp; replace hnew := Lib.hid hnew)
      go_roundw
      case rel =>
        refine ⟨i + 1, _, rfl, by omega, by go_num, ?_⟩
        have := h0.out.add hX.out hL.out (by rw [hlen.out]; exact hO8.out) hkp.out hnew.out
        rw [List.take_add_one, hg.out]
        exact this
      case measure => simp [intOf]; omega
    · obtain rfl : na = i := by omega
      rw [show ga.take na = ga from List.take_of_length_le (by rw [ena.out]; omega)] at h0
      go_wp2
      go_loopw [5, 6, 8] (fun u u' v wr => ∃ (i : Nat) (ab ba : Value), ab = u ∧ ba = u' ∧ i ≤ nb ∧ v = .int .i64 i ∧ Jn w6 w6.heap.size ab ba (ga ++ gb.take i) (gb.take i) wr) (fun _ _ v _ => nb - (intOf v).toNat)
      case atStart => exact ⟨0, _, _, rfl, rfl, by omega, rfl, by simpa using h0.out⟩
      case round =>
        clear h0 hlt hi
        obtain ⟨i, ab, ba, rfl, rfl, hi, rfl, h0⟩ := hrel
        obtain ⟨w1, rfl⟩ : ∃ w1 : World, w1 = wr := ⟨_, rfl⟩
        replace h0 := Lib.hid h0
        by_cases hlt : i < nb
        · obtain ⟨g, hg⟩ : ∃ g, gb[i]? = some g := ⟨_, List.getElem?_eq_getElem (by rw [enb.out]; exact hlt)⟩
          obtain ⟨xb, xo, xa, xn, xc, hx, hc, hL⟩ := RG.get (O := fun _ => False) (HB.out.kp h0.out.bel) hg
          cases hx
          obtain ⟨xs, hX⟩ := h0.out.a
          have hlen : Hid ((ga ++ gb.take i).length = na + i) := Lib.hid (by rw [List.length_append, List.length_take, ena.out, enb.out]; omega)
          have hlen2 : Hid ((gb.take i).length = i) := Lib.hid (by rw [List.length_take, enb.out]; omega)
          have hO := Lib.hid hX.own
          rw [hlen.out] at hO
          replace hX := Lib.hid hX
          replace hL := Lib.hid hL
          replace hg := Lib.hid hg
          have i0 : (0 : Int) ≤ i := by omega
          have i1 : (i : Int) < nb := by omega
          have hz := h0.out.le
          go_upto_region 17 with (at_builtin; refine app1n (w := w1) (.tmp 58) (.tmp 63) 22 26 w6.heap.size 1 24 #[.slice none 0 0] #[.slice xa xn xc] _ (na + i) _ rfl rfl rfl rfl rfl Tryd.underlying22 info26 rfl (by omega) hO.out rfl (by simp [Value.oneCell']) (by omega) (by omega) hz ?_; intro u2 w8 hO8 hkp hnew; replace hO8 := Lib.hid hO8; replace hkp := Lib.hid hkp; replace hnew := Lib.hid hnew)
          have h1 := Lib.hid (h0.out.add hX.out hL.out (by rw [hlen.out]; exact hO8.out) hkp.out hnew.out)
          have hb8 : Hid (Below w6.heap.size w1 w8) := Lib.hid (hkp.out.below hz (fun b e => (hO.out.lt b e).1))
          have hL8 := Lib.hid (hL.out.keep (Kc.bel hb8.out))
          obtain ⟨b2, o2, xa, xn, xc, hx2, hc2, hL2⟩ := RG.get (O := fun _ => False) (HB.out.kp h1.out.bel) hg.out
          cases hx2
          replace hL2 := Lib.hid hL2
          obtain ⟨ys, hY⟩ := h1.out.b
          have hO2 := Lib.hid hY.own
          rw [hlen2.out] at hO2
          replace hY := Lib.hid hY
          have hz2 := h1.out.le
          clear hc hz hX hL hO hO8 hkp hnew hb8 hL8
          go_wp2_with (at_builtin; refine app1n (w := w8) (.tmp 65) (.tmp 70) 22 26 w6.heap.size 1 24 #[.slice none 0 0] #[.slice xa xn xc] _ i _ rfl rfl rfl rfl rfl Tryd.underlying22 info26 rfl (by omega) hO2.out rfl (by simp [Value.oneCell']) (by omega) (by omega) hz2 ?_; intro u3 w9 hO9 hkp9 hnew9; replace hO9 := Lib.hid hO9; replace hkp9 := Lib.hid hkp9; replace hnew9 := Lib.hid hnew9)
          go_roundw
          case rel =>
            refine ⟨i + 1, _, _, rfl, rfl, by omega, by go_num, ?_⟩
            have := (h1.out.sym.add hY.out hL2.out (by rw [hlen2.out]; exact hO9.out) hkp9.out hnew9.out).sym
            rw [List.take_add_one, hg.out]
            simpa using this
          case measure => simp [intOf]; omega
        · obtain rfl : nb = i := by omega
          rw [show gb.take nb = gb from List.take_of_length_le (by rw [enb.out]; omega)] at h0
          go_wp2
          go_loopw [6, 9] (fun u' v wr => ∃ (i : Nat) (ba : Value), ba = u' ∧ i ≤ na ∧ v = .int .i64 i ∧ Jn w6 w6.heap.size ab ba (ga ++ gb) (gb ++ ga.take i) wr) (fun _ v _ => na - (intOf v).toNat)
          case atStart => exact ⟨0, _, rfl, by omega, rfl, by simpa using h0.out⟩
          case round =>
            clear h0 hlt hi
            obtain ⟨i, ba, rfl, hi, rfl, h0⟩ := hrel
            obtain ⟨w1, rfl⟩ : ∃ w1 : World, w1 = wr := ⟨_, rfl⟩
            replace h0 := Lib.hid h0
            by_cases hlt : i < na
            · obtain ⟨g, hg⟩ : ∃ g, ga[i]? = some g := ⟨_, List.getElem?_eq_getElem (by rw [ena.out]; exact hlt)⟩
              obtain ⟨xb, xo, xa, xn, xc, hx, hc, hL⟩ := RG.get (O := fun _ => False) (HA.out.kp h0.out.bel) hg
              cases hx
              obtain ⟨xs, hX⟩ := h0.out.b
              have hlen : Hid ((gb ++ ga.take i).length = nb + i) := Lib.hid (by rw [List.length_append, List.length_take, ena.out, enb.out]; omega)
              have hO := Lib.hid hX.own
              rw [hlen.out] at hO
              replace hX := Lib.hid hX
              replace hL := Lib.hid hL
              replace hg := Lib.hid hg
              have i0 : (0 : Int) ≤ i := by omega
              have i1 : (i : Int) < na := by omega
              have hz := h0.out.le
              go_wp2_with (at_builtin; refine app1n (w := w1) (.tmp 78) (.tmp 83) 22 26 w6.heap.size 1 24 #[.slice none 0 0] #[.slice xa xn xc] _ (nb + i) _ rfl rfl rfl rfl rfl Tryd.underlying22 info26 rfl (by omega) hO.out rfl (by simp [Value.oneCell']) (by omega) (by omega) hz ?_; intro u2 w8 hO8 hkp hnew; replace hO8 := Lib.hid hO8; replace hkp := Lib.hid hkp; replace hnew := Lib.hid hnew)
              go_roundw
              case rel =>
                refine ⟨i + 1, _, rfl, by omega, by go_num, ?_⟩
                have := (h0.out.sym.add hX.out hL.out (by rw [hlen.out]; exact hO8.out) hkp.out hnew.out).sym
                rw [List.take_add_one, hg.out]
                simpa using this
              case measure => simp [intOf]; omega
            · obtain rfl : na = i := by omega
              rw [show ga.take na = ga from List.take_of_length_le (by rw [ena.out]; omega)] at h0
              obtain ⟨xA, hXA⟩ := h0.out.a
              obtain ⟨xB, hXB⟩ := h0.out.b
              obtain ⟨aA, cA, rfl, rA⟩ := hXA.rg
              obtain ⟨aB, cB, rfl, rB⟩ := hXB.rg
              have lA : (ga ++ gb).length = na + nb := by rw [List.length_append, ena.out, enb.out]
              have lB : (gb ++ ga).length = na + nb := by rw [List.length_append, ena.out, enb.out]; omega
              rw [lA, lB]
              replace rA := Lib.hid rA
              replace rB := Lib.hid rB
              replace lA := Lib.hid lA
              replace lB := Lib.hid lB
              have bAB : Hid (∀ g ∈ ga ++ gb, Bc g) := Lib.hid (fun g hg => by rcases List.mem_append.1 hg with q | q; exact hBa.out g q; exact hBb.out g q)
              have bBA : Hid (∀ g ∈ gb ++ ga, Bc g) := Lib.hid (fun g hg => by rcases List.mem_append.1 hg with q | q; exact hBb.out g q; exact hBa.out g q)
              have rA1 := Lib.hid (HA.out.kp h0.out.bel)
              have rB1 := Lib.hid (HB.out.kp h0.out.bel)
              have R1 := Lib.hid (R6.out.after h0.out.bel)
              have B1 := Lib.hid (B6.out.trans (h0.out.bel.mono B6.out.size))
              have sAB : Hid (safeG kn (ga ++ gb) = (safeG kn ga && safeG kn gb)) := Lib.hid (safeG_app kn ga gb)
              have sBA : Hid (safeG kn (gb ++ ga) = (safeG kn ga && safeG kn gb)) := Lib.hid (by rw [safeG_app, Bool.and_comm])
              clear hXA hXB h0 HA HB R6 B6
              have C0 := Lib.hid (safe7_c kn none 0 [] w1 (fun i s hi => by simp at hi) (by simp) R1.out)
              simp only [List.all_nil, List.length_nil] at C0
              go_upto_region 24 with (go_at_call 7; (with_reducible refine C0.out.mono ?_); rintro e w2 ⟨rfl, b2⟩; replace b2 := Lib.hid b2)
              clear C0
              have D2 : Hid (Below w1.heap.size w1 (w2.alloc (.cells #[] 26))) := Lib.hid (b2.out.alloc (by exact b2.out.size) _)
              have C8e := Lib.hid (build_len (kn := kn) (gs := []) (some ⟨w2.heap.size, 0, none⟩) 0 0 (fun _ => False) (w2.alloc (.cells #[] 26)) (fun i g hi => by simp at hi) rfl (by omega) (fun g hg => by simp at hg))
              go_upto_region 26 with (first | (go_at_call 8; (with_reducible refine C8e.out.mono ?_); rintro e w23 ⟨gae, gce, lse, rfl, hle, hRe, hse, be⟩; have D3 := Lib.hid (D2.out.trans (be.mono D2.out.size)); replace be := Lib.hid be; have C7e := Lib.hid (safe7_c kn gae gce lse w23 hRe hle (R1.out.after D3.out)); rw [hse] at C7e; clear hRe hse hle; generalize lse.length = nle at *) | (go_at_call 7; (with_reducible refine C7e.out.mono ?_); rintro e w24 ⟨rfl, b7e⟩; have D4 := Lib.hid (D3.out.trans (b7e.mono D3.out.size)); replace b7e := Lib.hid b7e; have C8a := Lib.hid (build_len (kn := kn) (gs := ga) a5 c5 na _ w24 (rA1.out.after D4.out) ena.out (by omega) hBa.out)))
              clear C8e C7e
              go_upto_region 27 with (first | (go_at_call 8; (with_reducible refine C8a.out.mono ?_); rintro e w25 ⟨gaa, gca, lsa, rfl, hla, hRa, hsa, ba⟩; have D5 := Lib.hid (D4.out.trans (ba.mono D4.out.size)); replace ba := Lib.hid ba; have C7a := Lib.hid (safe7_c kn gaa gca lsa w25 hRa hla (R1.out.after D5.out)); rw [hsa] at C7a; clear hRa hsa hla; generalize lsa.length = nla at *) | (go_at_call 7; (with_reducible refine C7a.out.mono ?_); rintro e w26 ⟨rfl, b7a⟩; have D6 := Lib.hid (D5.out.trans (b7a.mono D5.out.size)); replace b7a := Lib.hid b7a; have C8b := Lib.hid (build_len (kn := kn) (gs := gb) a6 c6 nb _ w26 (rB1.out.after D6.out) enb.out (by omega) hBb.out)))
              clear C8a C7a
              go_upto_region 28 with (first | (go_at_call 8; (with_reducible refine C8b.out.mono ?_); rintro e w27 ⟨gab, gcb, lsb, rfl, hlb, hRb, hsb, bb⟩; have D7 := Lib.hid (D6.out.trans (bb.mono D6.out.size)); replace bb := Lib.hid bb; have C7b := Lib.hid (safe7_c kn gab gcb lsb w27 hRb hlb (R1.out.after D7.out)); rw [hsb] at C7b; clear hRb hsb hlb; generalize lsb.length = nlb at *) | (go_at_call 7; (with_reducible refine C7b.out.mono ?_); rintro e w28 ⟨rfl, b7b⟩; have D8 := Lib.hid (D7.out.trans (b7b.mono D7.out.size)); replace b7b := Lib.hid b7b; have C8x := Lib.hid (build_len (kn := kn) (gs := ga ++ gb) aA cA (na + nb) _ w28 (rA.out.after D8.out) lA.out (by omega) bAB.out)))
              clear C8b C7b
              generalize hsa : safeG kn ga = sa at *
              generalize hsb : safeG kn gb = sb at *
              clear hsa hsb
              cases sa <;> cases sb
              all_goals
                go_wp2_with (first | (go_at_call 8; (with_reducible refine C8x.out.mono ?_); rintro e w29 ⟨gax, gcx, lsx, rfl, hlx, hRx, hsx, bx⟩; have D9 := Lib.hid (D8.out.trans (bx.mono D8.out.size)); replace bx := Lib.hid bx; have C7x := Lib.hid (safe7_c kn gax gcx lsx w29 hRx hlx (R1.out.after D9.out)); rw [hsx] at C7x; clear hRx hsx hlx; generalize lsx.length = nlx at *) | (go_at_call 7; rw [sAB.out] at C7x; (with_reducible refine C7x.out.mono ?_); rintro e w30 ⟨rfl, b7x⟩; have D10 := Lib.hid (D9.out.trans (b7x.mono D9.out.size)); replace b7x := Lib.hid b7x; have C8v := Lib.hid (build_len (kn := kn) (gs := gb ++ ga) aB cB (na + nb) _ w30 (rB.out.after D10.out) lB.out (by omega) bBA.out)) | (go_at_call 8; (with_reducible refine C8v.out.mono ?_); rintro e w31 ⟨gav, gcv, lsv, rfl, hlv, hRv, hsv, bv⟩; have D11 := Lib.hid (D10.out.trans (bv.mono D10.out.size)); replace bv := Lib.hid bv; have C7v := Lib.hid (safe7_c kn gav gcv lsv w31 hRv hlv (R1.out.after D11.out)); rw [hsv] at C7v; clear hRv hsv hlv; generalize lsv.length = nlv at *) | (go_at_call 7; rw [sBA.out] at C7v; (with_reducible refine C7v.out.mono ?_); rintro e w32 ⟨rfl, b7v⟩; have D12 := Lib.hid (D11.out.trans (b7v.mono D11.out.size)); replace b7v := Lib.hid b7v))
                go_ret
                exact ⟨rfl, B1.out.trans (D12.out.mono B1.out.size)⟩
end Go.Proofs.YtacalmdjkgbhlaaDoor
