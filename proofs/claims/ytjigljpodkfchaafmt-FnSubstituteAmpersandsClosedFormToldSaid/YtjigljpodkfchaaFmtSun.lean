/- FnSubstituteAmpersandsClosedForm: the sums of bytes, the premise. -/
import Derived.Test.YtjigljpodkfchaaFmtSum
set_option linter.unusedVariables false
set_option linter.unusedSimpArgs false
namespace Go.Proofs.YtjigljpodkfchaaFmt
open Go.RowKit
set_option maxRecDepth 100000
set_option maxHeartbeats 4000000
/-- a sum, whatever it is -/
def SomeZ (w : World) (e : Ending) (w' : World) : Prop := (∃ z, e = .returned (.int .i64 z)) ∧ Below w.heap.size w w'
def LpZ (w : World) (n : Nat) (u v : Value) (wr : World) : Prop := ∃ (i : Nat) (z : Int), i ≤ n ∧ u = .int .i64 z ∧ v = .int .i64 i ∧ Below w.heap.size w wr
theorem segs3' {w : World} {b : Nat} {v0 v1 v2 : Value} (h : Seg w b 0 [v0, v1, v2]) : w.cell? ⟨b, 0, none⟩ = some v0 ∧ w.cell? ⟨b, 1, none⟩ = some v1 ∧ w.cell? ⟨b, 2, none⟩ = some v2 := by
  have := segs3 h
  simpa only [Nat.zero_add] using this
theorem cmpBytes15_c (cb : Int) (am : Nat) (nm : List ByteArray) (n : Nat) (hn : nm.length = n) (hn2 : n ≤ 1048576) (na : Option Addr) (nc : Nat) (w : World) (h : RN w na nm) : Calls Tryf.prog 15 #[.agg #[.int .u8 cb, .int .u8 am, .slice na n nc]] w (SomeZ w) := by
  replace h := Lib.hid h
  replace hn := Lib.hid hn
  go_enter Tryf.func15, Tryf.ntmps15
  go_upto_region 1 with fail
  refine wp_gen (fun W hW => ?_)
  have bW : Hid (Below w.heap.size w W) := Lib.hid (by rw [hW]; exact ba _ _)
  have e2 : W.cell? ⟨w.heap.size, 2, none⟩ = some (.slice na n nc) := by rw [hW]; simp [go_sem]
  clear hW
  generalize hP : w.heap.size = P at *
  have hPw := Lib.hid hP
  clear hP
  go_wp2
  go_loopw [3, 4] (fun u v wr => LpZ W n u v wr) (fun _ v _ => n - (intOf v).toNat)
  case atStart => exact ⟨0, _, by omega, rfl, rfl, Below.refl _ _⟩
  case round =>
    obtain ⟨i, z, hi, rfl, rfl, hB⟩ := hrel
    obtain ⟨w1, rfl⟩ : ∃ w1 : World, w1 = wr := ⟨_, rfl⟩
    replace hB := Lib.hid hB
    have e2' := ac hB.out e2
    by_cases hlt : i < n
    · obtain ⟨x, hx⟩ : ∃ x, nm[i]? = some x := ⟨_, List.getElem?_eq_getElem (by rw [hn.out]; exact hlt)⟩
      obtain ⟨b, o, rfl, hc, -⟩ := ((h.out.after (by rw [hPw.out]; exact bW.out)).after hB.out) i x hx
      have i0 : (0 : Int) ≤ i := by omega
      have i1 : (i : Int) < n := by omega
      clear hx e2
      go_wp2
      go_roundw
      case rel => exact ⟨i + 1, _, by omega, rfl, by go_num, hB.out⟩
      case measure => simp [intOf]; omega
    · obtain rfl : i = n := by omega
      clear e2
      go_wp2
      go_ret
      exact ⟨⟨_, rfl⟩, by rw [hPw.out]; exact bW.out.trans (hB.out.mono (by have := bW.out.size; have := hPw.out; omega))⟩
theorem cmpsBytes17_c (cs : List Cm) (n : Nat) (hn : cs.length = n) (hn2 : n ≤ 1048576) (hin : ∀ c ∈ cs, c.nm.length ≤ 1048576) (a : Option Addr) (cc : Nat) (w : World) (h : RM w a cs) : Calls Tryf.prog 17 #[.slice a n cc] w (SomeZ w) := by
  replace h := Lib.hid h
  replace hn := Lib.hid hn
  replace hin := Lib.hid hin
  go_enter Tryf.func17, Tryf.ntmps17
  go_wp2
  go_loopw [3, 4] (fun u v wr => LpZ w n u v wr) (fun _ v _ => n - (intOf v).toNat)
  case atStart => exact ⟨0, _, by omega, rfl, rfl, Below.refl _ _⟩
  case round =>
    obtain ⟨i, z, hi, rfl, rfl, hB⟩ := hrel
    obtain ⟨w1, rfl⟩ : ∃ w1 : World, w1 = wr := ⟨_, rfl⟩
    replace hB := Lib.hid hB
    by_cases hlt : i < n
    · obtain ⟨x, hx⟩ : ∃ x, cs[i]? = some x := ⟨_, List.getElem?_eq_getElem (by rw [hn.out]; exact hlt)⟩
      obtain ⟨b, o, a', c', rfl, hs, hRN, -, -⟩ := (h.out.after hB.out) i x hx
      have hxn := hin.out x (List.mem_of_getElem? hx)
      have C := Lib.hid (cmpBytes15_c x.cb x.am x.nm _ rfl hxn a' c' w1 hRN)
      obtain ⟨d0, d1, d2⟩ := segs3 hs
      have i0 : (0 : Int) ≤ i := by omega
      have i1 : (i : Int) < n := by omega
      clear hx hs hRN
      go_wp2_with (go_at_call 15; (with_reducible refine C.out.mono ?_); rintro e w7 ⟨⟨z7, rfl⟩, b7⟩; replace b7 := Lib.hid b7)
      go_roundw
      case rel => exact ⟨i + 1, _, by omega, rfl, by go_num, hB.out.trans (b7.out.mono hB.out.size)⟩
      case measure => simp [intOf]; omega
    · obtain rfl : i = n := by omega
      go_wp2
      go_ret
      exact ⟨⟨_, rfl⟩, hB.out⟩
theorem cxsBytes16_c (gs : List (List Cm)) (n : Nat) (hn : gs.length = n) (hn2 : n ≤ 1048576) (hin : ∀ g ∈ gs, g.length ≤ 1048576 ∧ ∀ c ∈ g, c.nm.length ≤ 1048576) (a : Option Addr) (cc : Nat) (w : World) (h : RX w a gs) : Calls Tryf.prog 16 #[.slice a n cc] w (SomeZ w) := by
  replace h := Lib.hid h
  replace hn := Lib.hid hn
  replace hin := Lib.hid hin
  go_enter Tryf.func16, Tryf.ntmps16
  go_wp2
  go_loopw [3, 4] (fun u v wr => LpZ w n u v wr) (fun _ v _ => n - (intOf v).toNat)
  case atStart => exact ⟨0, _, by omega, rfl, rfl, Below.refl _ _⟩
  case round =>
    obtain ⟨i, z, hi, rfl, rfl, hB⟩ := hrel
    obtain ⟨w1, rfl⟩ : ∃ w1 : World, w1 = wr := ⟨_, rfl⟩
    replace hB := Lib.hid hB
    by_cases hlt : i < n
    · obtain ⟨x, hx⟩ : ∃ x, gs[i]? = some x := ⟨_, List.getElem?_eq_getElem (by rw [hn.out]; exact hlt)⟩
      obtain ⟨b, o, a', c', rfl, hc, hRM, -⟩ := (h.out.after hB.out) i x hx
      obtain ⟨hx1, hx2⟩ := hin.out x (List.mem_of_getElem? hx)
      have C := Lib.hid (cmpsBytes17_c x _ rfl hx1 hx2 a' c' w1 hRM)
      have i0 : (0 : Int) ≤ i := by omega
      have i1 : (i : Int) < n := by omega
      clear hx hRM hx2
      go_wp2_with (go_at_call 17; (with_reducible refine C.out.mono ?_); rintro e w7 ⟨⟨z7, rfl⟩, b7⟩; replace b7 := Lib.hid b7)
      go_roundw
      case rel => exact ⟨i + 1, _, by omega, rfl, by go_num, hB.out.trans (b7.out.mono hB.out.size)⟩
      case measure => simp [intOf]; omega
    · obtain rfl : i = n := by omega
      go_wp2
      go_ret
      exact ⟨⟨_, rfl⟩, hB.out⟩
theorem bytes5_c (c0 : Cm) (n : Nat) (na : Option Addr) (nc : Nat) (hn : c0.nm.length = n) (hn2 : n ≤ 1048576) (gs : List (List Cm)) (n1 : Nat) (hg : gs.length = n1) (hg2 : n1 ≤ 1048576) (hgin : ∀ g ∈ gs, g.length ≤ 1048576 ∧ ∀ c ∈ g, c.nm.length ≤ 1048576) (ga : Option Addr) (gc : Nat) (cs : List Cm) (n2 : Nat) (hc : cs.length = n2) (hc2 : n2 ≤ 1048576) (hcin : ∀ c ∈ cs, c.nm.length ≤ 1048576) (a : Option Addr) (cc : Nat) (w : World) (h0 : RN w na c0.nm) (h1 : RX w ga gs) (h2 : RM w a cs) : Calls Tryf.prog 5 #[.agg #[.int .u8 c0.cb, .int .u8 c0.am, .slice na n nc], .slice ga n1 gc, .slice a n2 cc] w (SomeZ w) := by
  have C15 := Lib.hid (fun W (hb : Below w.heap.size w W) => cmpBytes15_c c0.cb c0.am c0.nm n hn hn2 na nc W (h0.after hb))
  have C16 := Lib.hid (fun W (hb : Below w.heap.size w W) => cxsBytes16_c gs n1 hg hg2 hgin ga gc W (h1.after hb))
  have C17 := Lib.hid (fun W (hb : Below w.heap.size w W) => cmpsBytes17_c cs n2 hc hc2 hcin a cc W (h2.after hb))
  clear h0 h1 h2 hgin hcin hn hg hc
  go_enter Tryf.func5, Tryf.ntmps5
  go_upto_region 1 with fail
  refine wp_gen (fun W hW => ?_)
  have bW : Hid (Below w.heap.size w W) := Lib.hid (by rw [hW]; exact ba _ _)
  have hs : Seg W w.heap.size 0 [.int .u8 c0.cb, .int .u8 c0.am, .slice na n nc] := by rw [hW]; exact Seg.new _ _ _
  clear hW
  obtain ⟨e0, e1, e2⟩ := segs3' hs
  clear hs
  go_wp2_with (first | (go_at_call 15; (with_reducible refine (C15.out _ bW.out).mono ?_); rintro e w5 ⟨⟨z5, rfl⟩, b5⟩; have b5' := Lib.hid (bW.out.trans (b5.mono bW.out.size)); clear b5) | (go_at_call 16; (with_reducible refine (C16.out _ b5'.out).mono ?_); rintro e w6 ⟨⟨z6, rfl⟩, b6⟩; have b6' := Lib.hid (b5'.out.trans (b6.mono b5'.out.size)); clear b6) | (go_at_call 17; (with_reducible refine (C17.out _ b6'.out).mono ?_); rintro e w7 ⟨⟨z7, rfl⟩, b7⟩; have b7' := Lib.hid (b6'.out.trans (b7.mono b6'.out.size)); clear b7))
  go_ret
  exact ⟨⟨_, rfl⟩, b7'.out⟩
end Go.Proofs.YtjigljpodkfchaaFmt
