/- FnSubstituteAmpersandsClosedForm: the expected combinator, substitutedEqual. -/
import Derived.Test.YtjigljpodkfchaaFmtSuq
set_option linter.unusedVariables false
set_option linter.unusedSimpArgs false
namespace Go.Proofs.YtjigljpodkfchaaFmt
open Go.RowKit
set_option maxRecDepth 100000
set_option maxHeartbeats 4000000
abbrev stI (b : Bool) : Int := if b then 1 else 0
theorem exp13_c (c : Int) (k : Nat) (st : Bool) (rc : Int) (w : World) : Calls Tryf.prog 13 #[.int .u8 c, .int .i64 k, .bool st, .int .u8 rc] w (RetV (.int .u8 (ecomb c k (stI st) rc)) w) := by
  by_cases hc : c = 0
  · have h1 : (c != 0) = false := by simp [hc]
    by_cases hk : k = 0
    · have h2 : ((k : Int) == 0) = true := by simp [hk]
      have he : ecomb c k (stI st) rc = c := by unfold ecomb; rw [if_pos (.inr (.inl hk))]
      rw [he]
      clear he
      go_enter Tryf.func13, Tryf.ntmps13
      go_wp2
      go_ret
      exact ⟨rfl, Below.refl _ _⟩
    · have h2 : ((k : Int) == 0) = false := by simp; omega
      cases st
      · have he : ecomb c k (stI false) rc = rc := by unfold ecomb; rw [if_neg (by simp [hc, hk, stI])]
        rw [he]
        clear he
        go_enter Tryf.func13, Tryf.ntmps13
        go_wp2
        go_ret
        exact ⟨rfl, Below.refl _ _⟩
      · have he : ecomb c k (stI true) rc = c := by unfold ecomb; rw [if_pos (.inr (.inr rfl))]
        rw [he]
        clear he
        go_enter Tryf.func13, Tryf.ntmps13
        go_wp2
        go_ret
        exact ⟨rfl, Below.refl _ _⟩
  · have h1 : (c != 0) = true := by simp [hc]
    have he : ecomb c k (stI st) rc = c := by unfold ecomb; rw [if_pos (.inl hc)]
    rw [he]
    clear he
    go_enter Tryf.func13, Tryf.ntmps13
    go_wp2
    go_ret
    exact ⟨rfl, Below.refl _ _⟩
def rcombM (gs : List (List Cm)) : Int := match gs.getLast? with | none => 0 | some x => (match x with | [] => 0 | s :: _ => s.cb)
def repM (gs : List (List Cm)) : List SK := match gs with | [[c]] => c.nm.map .inl | _ => [.inr (gs.map (List.map Cm.key))]
theorem repM_len (gs : List (List Cm)) : (repM gs).length = rlen gs := by
  unfold repM rlen
  split
  · rw [List.length_map]
  · rename_i hx
    split
    · exact absurd rfl (hx _)
    · rfl
theorem rep14_c (gs : List (List Cm)) (n : Nat) (hn : gs.length = n) (hn2 : n ≤ 1048576) (hne : ∀ g ∈ gs, g ≠ []) (a : Option Addr) (cc : Nat) (w : World) (h : RX w a gs) : Calls Tryf.prog 14 #[.slice a n cc] w (RetV (.int .u8 (rcombM gs)) w) := by
  by_cases hn0 : n = 0
  · subst hn0
    have hg0 : gs = [] := List.eq_nil_of_length_eq_zero hn
    have hr : rcombM gs = 0 := by rw [hg0]; rfl
    rw [hr]
    clear h hn hne hg0 hr
    go_enter Tryf.func14, Tryf.ntmps14
    go_wp2
    go_ret
    exact ⟨rfl, Below.refl _ _⟩
  · obtain ⟨p, rfl⟩ : ∃ p, n = p + 1 := ⟨n - 1, by omega⟩
    obtain ⟨g, hg⟩ : ∃ g, gs[p]? = some g := ⟨_, List.getElem?_eq_getElem (by omega)⟩
    obtain ⟨s, t, rfl⟩ : ∃ s t, g = s :: t := by
      cases g with
      | nil => exact absurd rfl (hne [] (List.mem_of_getElem? hg))
      | cons s t => exact ⟨s, t, rfl⟩
    have hr : rcombM gs = s.cb := by
      unfold rcombM
      rw [List.getLast?_eq_getElem?, hn, Nat.add_sub_cancel, hg]
    rw [hr]
    obtain ⟨b, o, a', c', rfl, hc, hRM, -⟩ := h p _ hg
    obtain ⟨b2, o2, a2, c2, rfl, hs, -⟩ := hRM 0 s rfl
    obtain ⟨d0, d1, d2⟩ := segs3 hs
    rw [Nat.zero_mul, Nat.add_zero] at d0
    obtain ⟨m, hm⟩ : ∃ y, (s :: t).length = y := ⟨_, rfl⟩
    have hm0 : (0 : Int) < m := by rw [← hm]; simp
    rw [hm] at hc
    have i0 : (0 : Int) ≤ p := by omega
    clear hs hRM d1 d2 h hne hg hr hn hm
    by_cases hp : p = 0
    · subst hp
      have hc2 : w.cell? ⟨b, o, none⟩ = some (.slice (some ⟨b2, o2, none⟩) m c') := hc
      clear hc
      show Calls Tryf.prog 14 #[.slice (some ⟨b, o, none⟩) 1 cc] w _
      go_enter Tryf.func14, Tryf.ntmps14
      go_wp2
      go_ret
      exact ⟨rfl, Below.refl _ _⟩
    · have hn1 : (((p + 1 : Nat) : Int) == 0) = false := by simp; omega
      have hn2' : (((p + 1 : Nat) : Int) == 1) = false := by simp; omega
      obtain ⟨n, hnp⟩ : ∃ n, p + 1 = n := ⟨_, rfl⟩
      rw [hnp] at hn1 hn2' ⊢
      have hsub : (n : Int) - 1 = (p : Int) := by omega
      have i1 : (p : Int) < n := by omega
      have hnb : n ≤ 1048576 := by omega
      clear hnp hn2 hn0
      go_enter Tryf.func14, Tryf.ntmps14
      go_wp2
      go_ret
      exact ⟨rfl, Below.refl _ _⟩
theorem subk_rep {rep : List SK} {nm : List ByteArray} {i : Nat} : ∀ {k j : Nat}, j < k → i < rep.length → (subk k rep nm)[j * rep.length + i]? = rep[i]? := by
  intro k
  induction k with
  | zero => intro j hj; omega
  | succ k ih =>
    intro j hj hi
    rw [subk_succ]
    cases j with
    | zero => rw [Nat.zero_mul, Nat.zero_add, List.getElem?_append_left hi]
    | succ j =>
      have e : (j + 1) * rep.length + i = rep.length + (j * rep.length + i) := by rw [Nat.succ_mul]; omega
      rw [e, List.getElem?_append_right (by omega), Nat.add_sub_cancel_left]
      exact ih (by omega) hi
theorem subk_nm {rep : List SK} {nm : List ByteArray} {i : Nat} : ∀ {k : Nat}, (subk k rep nm)[k * rep.length + i]? = (nm.map (Sum.inl : ByteArray → SK))[i]? := by
  intro k
  induction k with
  | zero => rw [subk_zero, Nat.zero_mul, Nat.zero_add]
  | succ k ih =>
    have e : (k + 1) * rep.length + i = rep.length + (k * rep.length + i) := by rw [Nat.succ_mul]; omega
    rw [subk_succ, e, List.getElem?_append_right (by omega), Nat.add_sub_cancel_left]
    exact ih
theorem nmAt_rowG {Zs O : Nat → Prop} {w : World} {a : Option Addr} {ls : List (SubR SK)} {f : Nat} {nms : List ByteArray} (h : RowG Zs O w a ls) (hk : ∀ i nm, nms[i]? = some nm → (ls.map SubR.k)[f + i]? = some (.inl nm)) : NmAt w a f nms := fun i nm hi => by
  have h1 := hk i nm hi
  rw [List.getElem?_map] at h1
  cases hs : ls[f + i]? with
  | none => rw [hs] at h1; cases h1
  | some s =>
    rw [hs] at h1
    injection h1 with h1
    obtain ⟨g, e1, -, -, e4, e5⟩ := h (f + i) s hs
    obtain ⟨t, p, k⟩ := s
    simp only at h1
    subst h1
    obtain ⟨q1, B, q2, -, q4, -⟩ := e5
    simp only at q1 q2
    subst q1
    subst q2
    exact ⟨g, B, e1, e4, by simpa using q4 0 _ rfl⟩
theorem sub12_c (r : CpR SK) (Zs O : Nat → Prop) (k : Nat) (gs : List (List Cm)) (n : Nat) (hn : gs.length = n) (hn2 : n ≤ 1048576) (hin : ∀ g ∈ gs, g.length ≤ 1048576 ∧ ∀ c ∈ g, c.nm.length ≤ 1048576) (h1 : n = 1 → ∀ g ∈ gs, g.length = 1) (nm : List ByteArray) (m : Nat) (hm : nm.length = m) (hm2 : m ≤ 1048576) (hk : k ≤ 255) (hrl : k * rlen gs ≤ 65536) (w : World) (hRG : RowG Zs O w r.a r.ls) (hnn : r.nn = 0) (hkey : r.ls.map SubR.k = subk k (repM gs) nm) (ga : Option Addr) (gc : Nat) (hX : RX w ga gs) (na : Option Addr) (nc : Nat) (hN : RN w na nm) : Calls Tryf.prog 12 #[.agg r.arr, .int .u8 r.cb, .int .i64 k, .slice ga n gc, .slice na m nc] w (RetV (.bool true) w) := by
  obtain ⟨a, c, ls, nx, nn, ncx, cb⟩ := r
  simp only at hRG hnn hkey
  subst hnn
  obtain ⟨L, hL⟩ : ∃ y, rlen gs = y := ⟨_, rfl⟩
  have hrL : (repM gs).length = L := by rw [repM_len]; exact hL
  obtain ⟨M, hM⟩ : ∃ y, ls.length = y := ⟨_, rfl⟩
  have hML : M = k * L + m := by rw [← hM, ← List.length_map (f := SubR.k), hkey, subk_len, hrL, hm]
  rw [hL] at hrl
  show Calls Tryf.prog 12 #[.agg #[.pointer none, .slice a ls.length c, .slice nx 0 ncx, .int .i32 0, .int .u8 cb, .bool false], .int .u8 cb, .int .i64 k, .slice ga n gc, .slice na m nc] w _
  rw [hM]
  have hNm : ∀ W, Below w.heap.size w W → Calls Tryf.prog 25 #[.slice a M c, .int .i64 ((k * L : Nat) : Int), .slice na m nc] W (RetV (.bool true) W) := fun W hb => names25_c a M c (k * L) nm m hm na nc (by omega) (by omega) W (NmAt.after (nmAt_rowG hRG (fun i x hi => by rw [hkey, ← hrL, subk_nm, List.getElem?_map, hi]; rfl)) hb) (hN.after hb)
  obtain ⟨KL, hKL⟩ : ∃ y, k * L = y := ⟨_, rfl⟩
  rw [hKL] at hNm hrl hML
  have hklI : (k : Int) * (L : Int) = (KL : Int) := by rw [← hKL, Int.natCast_mul]
  have hMLI : (KL : Int) + (m : Int) = (M : Int) := by omega
  replace hNm := Lib.hid hNm
  replace hML := Lib.hid hML
  by_cases hn1 : n = 1
  · subst hn1
    obtain ⟨g, rfl⟩ := List.length_eq_one_iff.1 hn
    obtain ⟨cm, rfl⟩ := List.length_eq_one_iff.1 (h1 rfl g (List.mem_cons_self ..))
    have hLc : cm.nm.length = L := hL
    have hrep : repM [[cm]] = cm.nm.map .inl := rfl
    obtain ⟨b, o, a', c', rfl, hc, hRM, -⟩ := hX 0 _ rfl
    obtain ⟨b2, o2, a2, c2, rfl, hs, hRN, -, -⟩ := hRM 0 cm rfl
    obtain ⟨d0, d1, d2⟩ := segs3 hs
    have hc' : w.cell? ⟨b, o, none⟩ = some (.slice (some ⟨b2, o2, none⟩) 1 c') := hc
    rw [Nat.zero_mul, Nat.add_zero, hLc] at d2
    have hLs : L ≤ 1048576 := by rw [← hLc]; exact (hin [cm] (List.mem_cons_self ..)).2 cm (List.mem_cons_self ..)
    have CN : Hid (∀ j W, j < k → Below w.heap.size w W → Calls Tryf.prog 25 #[.slice a M c, .int .i64 ((j * L : Nat) : Int), .slice a2 L c2] W (RetV (.bool true) W)) := Lib.hid (fun j W hj hb => by
      have hjL : (j + 1) * L ≤ k * L := Nat.mul_le_mul_right _ hj
      rw [Nat.succ_mul] at hjL
      exact names25_c a M c (j * L) cm.nm L hLc a2 c2 (by have := hML.out; omega) (by have := hML.out; omega) W (NmAt.after (nmAt_rowG hRG (fun i x hi => by
        have hil : i < (repM [[cm]]).length := by rw [hrL, ← hLc]; exact (List.getElem?_eq_some_iff.1 hi).1
        rw [hkey, ← hrL, subk_rep hj hil, hrep, List.getElem?_map, hi]; rfl)) hb) (hRN.after hb))
    clear hc hs hRM hRN hin h1 hX hN d0 d1 hrep hkey hRG hL hrL hLc hn
    go_enter Tryf.func12, Tryf.ntmps12
    go_upto_region 1 with fail
    refine wp_gen (fun W hW => ?_)
    have bW : Hid (Below w.heap.size w W) := Lib.hid (by rw [hW]; exact ba _ _)
    have s0 : Seg W w.heap.size 0 [.pointer none, .slice a M c, .slice nx 0 ncx, .int .i32 0, .int .u8 cb, .bool false] := by rw [hW]; exact Seg.new _ _ _
    clear hW
    have e0 := ac bW.out hc'
    have e2 := ac bW.out d2
    obtain ⟨f0, f1, f2, f3, f4, f5⟩ := segs6 s0
    simp only [Nat.zero_add] at f0 f1 f2 f3 f4 f5
    clear s0 hc' d2
    go_wp2
    clear f0 f1 f2 f3 f4 f5 e0 e2
    go_loopw [13] (fun v wr => ∃ j, j ≤ k ∧ v = .int .i64 j ∧ Below W.heap.size W wr) (fun v _ => k - (intOf v).toNat)
    case atStart => exact ⟨0, by omega, rfl, Below.refl _ _⟩
    case round =>
      obtain ⟨j, hj, rfl, hB⟩ := hrel
      obtain ⟨W1, rfl⟩ : ∃ y, y = wr := ⟨_, rfl⟩
      replace hB := Lib.hid hB
      have B1 : Hid (Below w.heap.size w W1) := Lib.hid (bW.out.trans (hB.out.mono bW.out.size))
      by_cases hlt : j < k
      · have C25 := Lib.hid (CN.out j W1 hlt B1.out)
        have hjb : j * L ≤ k * L := Nat.mul_le_mul_right _ hj
        obtain ⟨JL, hJL⟩ : ∃ y, j * L = y := ⟨_, rfl⟩
        rw [hJL] at C25 hjb
        have hjlI : (j : Int) * (L : Int) = (JL : Int) := by rw [← hJL, Int.natCast_mul]
        clear hJL
        have i0 : (0 : Int) ≤ j := by omega
        have i1 : (j : Int) < k := by omega
        have ew : wrap64 (JL : Int) = (JL : Int) := wr64 (by omega) (by omega)
        go_wp2_with (go_at_call 25; (with_reducible refine C25.out.mono ?_); rintro e w7 ⟨rfl, b7⟩; replace b7 := Lib.hid b7)
        go_roundw
        case rel => exact ⟨j + 1, by omega, by go_num, hB.out.trans (b7.out.mono hB.out.size)⟩
        case measure => simp [intOf]; omega
      · obtain rfl : j = k := by omega
        have C25 := Lib.hid (hNm.out W1 B1.out)
        have ew : wrap64 (KL : Int) = (KL : Int) := wr64 (by omega) (by omega)
        go_wp2_with (go_at_call 25; (with_reducible refine C25.out.mono ?_); rintro e w7 ⟨rfl, b7⟩; replace b7 := Lib.hid b7)
        go_ret
        exact ⟨rfl, B1.out.trans (b7.out.mono B1.out.size)⟩
  · have hni : ((n : Int) == 1) = false := by simp; omega
    have hL1 : L = 1 := by
      rw [← hL]
      unfold rlen
      split
      · exact absurd hn.symm hn1
      · rfl
    have hrep : repM gs = [.inr (gs.map (List.map Cm.key))] := by
      unfold repM
      split
      · exact absurd hn.symm hn1
      · rfl
    have hKk : KL = k := by rw [← hKL, hL1, Nat.mul_one]
    subst hKk
    have hRG' : Hid (∀ j, j < KL → ∃ g Z s1 s2 az cz lz, a = some ⟨g, 0, none⟩ ∧ Seg w g (j * 3) [.iface 116 (.pointer (some ⟨Z, 0, none⟩)), .int .i32 0, .int .i32 0] ∧ Seg w Z 0 [.slice az n cz, s1, s2, .int .u8 2] ∧ RCx G0 (fun b => O b ∨ Zs b) w az lz ∧ lz.length = n ∧ lz.map CxR.key = gs.map (List.map Cm.key)) := Lib.hid (fun j hj => by
      have e1 : (ls.map SubR.k)[j]? = some (.inr (gs.map (List.map Cm.key))) := by
        have := subk_rep (rep := repM gs) (nm := nm) (i := 0) hj (by rw [hrL, hL1]; omega)
        rw [hrL, hL1, Nat.mul_one, Nat.add_zero, hrep] at this
        rw [hkey, hrep]
        exact this
      rw [List.getElem?_map] at e1
      cases hs : ls[j]? with
      | none => rw [hs] at e1; cases e1
      | some s =>
        rw [hs] at e1
        injection e1 with e1
        obtain ⟨g, q1, -, -, q4, q5⟩ := hRG j s hs
        obtain ⟨t, p, kk⟩ := s
        simp only at e1
        subst e1
        obtain ⟨r1, Z, az, cz, nz, lz, r2, r3, r4, r5, r6, r7, r8⟩ := q5
        simp only at r1 r2
        subst r1
        subst r2
        have hnz : nz = n := by rw [← r7, ← hn, ← List.length_map (f := CxR.key), r8, List.length_map]
        subst hnz
        exact ⟨g, Z, _, _, az, cz, lz, q1, q4, r5, r6, r7, r8⟩)
    replace hX := Lib.hid hX
    replace hin := Lib.hid hin
    clear h1 hN hkey hRG hL hrL hrep hn hKL hL1
    go_enter Tryf.func12, Tryf.ntmps12
    go_upto_region 1 with fail
    refine wp_gen (fun W hW => ?_)
    have bW : Hid (Below w.heap.size w W) := Lib.hid (by rw [hW]; exact ba _ _)
    have s0 : Seg W w.heap.size 0 [.pointer none, .slice a M c, .slice nx 0 ncx, .int .i32 0, .int .u8 cb, .bool false] := by rw [hW]; exact Seg.new _ _ _
    clear hW
    obtain ⟨f0, f1, f2, f3, f4, f5⟩ := segs6 s0
    simp only [Nat.zero_add] at f0 f1 f2 f3 f4 f5
    clear s0
    go_wp2
    clear f0 f1 f2 f3 f4 f5
    go_loopw [14] (fun v wr => ∃ j, j ≤ KL ∧ v = .int .i64 j ∧ Below W.heap.size W wr) (fun v _ => KL - (intOf v).toNat)
    case atStart => exact ⟨0, by omega, rfl, Below.refl _ _⟩
    case round =>
      obtain ⟨j, hj, rfl, hB⟩ := hrel
      obtain ⟨W1, rfl⟩ : ∃ y, y = wr := ⟨_, rfl⟩
      replace hB := Lib.hid hB
      have B1 : Hid (Below w.heap.size w W1) := Lib.hid (bW.out.trans (hB.out.mono bW.out.size))
      by_cases hlt : j < KL
      · obtain ⟨g, Z, t1, t2, az, cz, lz, rfl, hsg, hsZ, hRz, hlz, hkz⟩ := hRG'.out j hlt
        have C26 := Lib.hid (isl26_c Z t1 t2 lz gs hkz n hlz hn2 hin.out _ W1 az cz (hsZ.after B1.out) (hRz.keep G0.keep (Kc.of_below B1.out) (fun _ _ q => q)) ga gc (hX.out.after B1.out))
        obtain ⟨d0, d1, d2⟩ := segs3 (hsg.after B1.out)
        clear hsg hsZ hRz hlz hkz
        have i0 : (0 : Int) ≤ j := by omega
        have i1 : (j : Int) < M := by have := hML.out; omega
        have i2 : (j : Int) < KL := by omega
        go_wp2_with (go_at_call 26; (with_reducible refine C26.out.mono ?_); rintro e w7 ⟨rfl, b7⟩; replace b7 := Lib.hid b7)
        go_roundw
        case rel => exact ⟨j + 1, by omega, by go_num, hB.out.trans (b7.out.mono hB.out.size)⟩
        case measure => simp [intOf]; omega
      · obtain rfl : j = KL := by omega
        have C25 := Lib.hid (hNm.out W1 B1.out)
        go_wp2_with (go_at_call 25; (with_reducible refine C25.out.mono ?_); rintro e w7 ⟨rfl, b7⟩; replace b7 := Lib.hid b7)
        go_ret
        exact ⟨rfl, B1.out.trans (b7.out.mono B1.out.size)⟩
end Go.Proofs.YtjigljpodkfchaaFmt
