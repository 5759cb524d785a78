/- zzBuildCompound, zzBuildComplex, zzBuildComplexes. -/
import Derived.Test.YtidmdcadejfjhaaDd1
set_option linter.unusedVariables false
set_option linter.unusedSimpArgs false
namespace Go.Proofs.Ytidmdcadejfjhaa
open Go.RowKit
set_option maxRecDepth 100000
set_option maxHeartbeats 4000000
theorem Kp.kt {e : TypeId} {S : Nat → Prop} {w w1 w2 : World} (h : KT e w w1) (h' : Kp S w1 w2) (hs : ∀ b, S b → w.heap.size ≤ b) : KT e w w2 := h.trans' h' (fun b hb hl => by have := hs b hb; omega)
theorem Byt.base {w w' : World} {A : Option Addr} {n : Nat} {f : Nat → Int} (h : Byt w A n f) (hb : Below w.heap.size w w') : Byt w' A n f := h.after hb
theorem int1 (x : Int) : (#[Value.int .i64 x] : Array Value).all (·.oneCell') = true := by simp [Value.oneCell']
theorem SubR.one (t : SubR) : t.arr.all (·.oneCell') = true := by simp [Value.oneCell']
theorem CpR.one (t : CpR) : t.arr.all (·.oneCell') = true := by simp [Value.oneCell']
theorem CxR.one (t : CxR) : t.arr.all (·.oneCell') = true := by simp [Value.oneCell']
/-- a list of ints of the call's own -/
def Key (w0 w : World) (v : Value) (m : Nat) : Prop := ∃ n xs, n ≤ m ∧ w.ownsRow w0.heap.size 3 1 v n xs
theorem Key.kt {e : TypeId} {w0 w w' : World} {v : Value} {m : Nat} (h : Key w0 w v m) (hk : KT e w w') (he : (3 : TypeId) ≠ e) : Key w0 w' v m := by
  obtain ⟨n, xs, h1, h2⟩ := h
  exact ⟨n, xs, h1, hk.own h2 he⟩
theorem Key.below {w0 w w' : World} {v : Value} {m : Nat} (h : Key w0 w v m) (hb : Below w.heap.size w w') : Key w0 w' v m := h.kt (e := 95) (KT.of hb) (by decide)
theorem storeCp {w : World} {P B : Nat} {xs : List Value} (h : w.ownsRow B 84 6 (.slice (some ⟨P, 0, none⟩) 1 1) 1 xs) (s : CpR) :
    ((((((w.setCell ⟨P, 0, none⟩ (.pointer none)).setCell ⟨P, 1, none⟩ (.slice s.a s.n s.c)).setCell ⟨P, 2, none⟩ (.slice none 0 0)).setCell ⟨P, 3, none⟩ (.int .i32 0)).setCell ⟨P, 4, none⟩ (.int .u8 0)).setCell ⟨P, 5, none⟩ (.bool false)).ownsRow B 84 6 (.slice (some ⟨P, 0, none⟩) 1 1) 1 s.cells ∧ Kp (fun b => b = P) w ((((((w.setCell ⟨P, 0, none⟩ (.pointer none)).setCell ⟨P, 1, none⟩ (.slice s.a s.n s.c)).setCell ⟨P, 2, none⟩ (.slice none 0 0)).setCell ⟨P, 3, none⟩ (.int .i32 0)).setCell ⟨P, 4, none⟩ (.int .u8 0)).setCell ⟨P, 5, none⟩ (.bool false)) := by
  have h0 := h.stored 0 (.pointer none)
  have h1 := h0.1.stored 1 (.slice s.a s.n s.c)
  have h2 := h1.1.stored 2 (.slice none 0 0)
  have h3 := h2.1.stored 3 (.int .i32 0)
  have h4 := h3.1.stored 4 (.int .u8 0)
  have h5 := h4.1.stored 5 (.bool false)
  have Z : ∀ (w1 : World) (j : Nat) (v : Value), Kp (fun b => b = P) w w1 → Kp (fun b => b = P) w (w1.setCell ⟨P, j, none⟩ v) := fun w1 j v h => h.set _ _ (.inl rfl)
  refine ⟨?_, Z _ _ _ (Z _ _ _ (Z _ _ _ (Z _ _ _ (Z _ _ _ (Z _ _ _ (Kp.refl w))))))⟩
  have hl := h.1
  match xs, hl with
  | [x0, x1, x2, x3, x4, x5], _ => exact h5.1
theorem ownCp {w : World} {P B : Nat} {xs : List Value} (h : w.ownsRow B 84 6 (.slice (some ⟨P, 0, none⟩) 1 1) 1 xs) : ∀ j, j < 6 → ∃ v, w.cell? ⟨P, j, none⟩ = some v ∧ w.frozen? ⟨P, j, none⟩ = false := fun j hj => ⟨_, by rw [h.cellAt j (by omega)]; exact List.getElem?_eq_getElem (by rw [h.1]; omega), h.frozenAt j⟩
theorem Ty.of {w : World} {B : Nat} {e : TypeId} {z : Nat} {v : Value} {n : Nat} {xs : List Value} (h : w.ownsRow B e z v n xs) (k : Nat) (hk : v.ownBlock = some k) : Ty w e k := by
  rcases h.2 with ⟨rfl, _⟩ | ⟨g, cap, cur, rfl, _, hg, _⟩
  · simp [Value.ownBlock] at hk
  · simp [Value.ownBlock] at hk
    subst hk
    exact ⟨cur, _, hg⟩
def CompP (w0 w : World) (m : Nat) (e : Ending) (w' : World) : Prop := ∃ (r : CpR) (j : Int) (d : Bool) (key : Value), e = .returned (.tuple #[.agg r.arr, .int .i64 j, .bool d, key]) ∧ GCp w' r ∧ Key w0 w' key (m + 4) ∧ KT 3 w w' ∧ Below w0.heap.size w0 w'
def LC (w0 w : World) (m : Nat) (N : Nat) (j key subs dead q : Value) (wr : World) : Prop := ∃ (k : Nat) (j' : Int) (d : Bool) (ls : List SubR), k ≤ N ∧ q = .int .i64 k ∧ j = .int .i64 j' ∧ dead = .bool d ∧ Key w0 wr key (m + 1 + k) ∧ wr.ownsRow w.heap.size 95 3 subs k (flat SubR.cells ls) ∧ (∀ s ∈ ls, GSub wr s) ∧ KT 3 w wr ∧ Below w0.heap.size w0 wr ∧ (∃ xs, wr.ownsRow w.heap.size 84 6 (.slice (some ⟨w.heap.size, 0, none⟩) 1 1) 1 xs)
theorem comp18_c (A1 A2 A3 : Option Addr) (n1 n2 n3 c1 c2 c3 : Nat) (f1 f2 f3 : Nat → Int) (p j : Int) (key : Value) (m : Nat) (w0 w : World) (h1 : Byt w0 A1 n1 f1) (h2 : Byt w0 A2 n2 f2) (h3 : Byt w0 A3 n3 f3) (hb : Below w0.heap.size w0 w) (hk : Key w0 w key m) (hm : m ≤ 100000) :
    Calls Try.prog 18 #[.slice A1 n1 c1, .slice A2 n2 c2, .slice A3 n3 c3, .int .i64 p, .int .i64 j, key] w (CompP w0 w m) := by
  have C17 := Lib.hid (fun w' (hb : Below w0.heap.size w0 w') => at17_c A1 n1 c1 f1 p w' (h1.after hb))
  have C20 := Lib.hid (fun j w' (hb : Below w0.heap.size w0 w') => dead20_c A2 A3 n2 c2 n3 c3 f2 f3 j w' (h2.after hb) (h3.after hb))
  have C21 := Lib.hid (fun j w' (hb : Below w0.heap.size w0 w') => key21_c A2 A3 n2 c2 n3 c3 f2 f3 j w' (h2.after hb) (h3.after hb))
  have C22 := Lib.hid (fun j w' (hb : Below w0.heap.size w0 w') => sub22_c A2 A3 n2 c2 n3 c3 f2 f3 j w' (h2.after hb) (h3.after hb))
  clear h1 h2 h3
  obtain ⟨nk, xk, hnk, hk⟩ := hk
  replace hk := Lib.hid hk
  replace hb := Lib.hid hb
  go_enter Try.func18, Try.ntmps18
  go_upto_region 1 with fail
  refine wp_gen (fun W hW => ?_)
  have hbW : Below w.heap.size w W := by rw [hW]; exact ba _ _
  have hP : Hid (W.ownsRow w.heap.size 84 6 (.slice (some ⟨w.heap.size, 0, none⟩) 1 1) 1 (CpR.cells ⟨none, 0, 0, []⟩)) := Lib.hid (by rw [hW]; exact World.ownsRow_lit _ (CpR.arr ⟨none, 0, 0, []⟩) 1 (Nat.le_refl _) (by decide) rfl)
  clear hW
  replace hk := Lib.hid (own_below hk.out hbW)
  have hB := Lib.hid (hb.out.trans (hbW.mono hb.out.size))
  have hKT : Hid (KT 3 w W) := Lib.hid (KT.of hbW)
  have hwW := hbW.size
  have hw0 := hb.out.size
  clear hbW hb
  go_upto_region 2 with (go_at_call 17; (with_reducible refine (C17.out _ hB.out).mono ?_); rintro e w' ⟨x, rfl, hx, rfl⟩; obtain ⟨N, hN, hx4⟩ : ∃ N : Nat, N < 4 ∧ (x : Int) % 4 = N := ⟨x % 4, Nat.mod_lt _ (by omega), by omega⟩)
  rw [hx4]
  clear C17 hx4
  go_upto_region 3 with (at_builtin; go_loud (refine app1n (w := W) (.tmp 24) (.tmp 26) 51 3 w0.heap.size 1 8 #[.int .i64 0] #[.int .i64 N] _ nk _ rfl rfl rfl rfl rfl Try.underlying51 info3 rfl (by omega) hk.out rfl (int1 _) (by omega) (by omega) hB.out.size ?_); intro key1 W1 hk1 hkp hnew; replace hkp := Lib.hid hkp; replace hk1 := Lib.hid hk1; clear hnew)
  have hK1 : Hid (Key w0 W1 key1 (m + 1)) := Lib.hid ⟨nk + 1, _, by omega, hk1.out⟩
  have hBW : Below w0.heap.size W W1 := hkp.out.below hB.out.size (fun b e => (hk.out.lt b e).1)
  have hKT1 : Hid (KT 3 w W1) := Lib.hid (hKT.out.trans (KT.app hk.out hkp.out))
  replace hP := Lib.hid ((KT.app hk.out hkp.out).own hP.out (by decide))
  replace hB := Lib.hid (hB.out.trans hBW)
  have hw1 := hkp.out.size
  clear hBW hkp hk1 hk hKT
  have mk := make0_z (P := Try.prog) #[.nilIface, .int .i32 0, .int .i32 0] Try.underlying79 info95 N (by omega) (by omega)
  go_upto_region 4 with fail
  clear mk
  refine wp_gen (fun W2 hW => ?_)
  have hO : Hid (W2.ownsRow w.heap.size 95 3 (.slice (some ⟨W1.heap.size, 0, none⟩) 0 N) 0 (flat SubR.cells [])) := Lib.hid (by rw [hW]; exact World.ownsRow_made _ _ _ (by omega) (by unfold maxLen; omega) (by rw [size_madeCells]))
  have hbW : Below W1.heap.size W1 W2 := by rw [hW]; exact ba _ _
  clear hW
  replace hP := Lib.hid (own_below hP.out hbW); replace hK1 := Lib.hid (hK1.out.below hbW); replace hB := Lib.hid (hB.out.trans (hbW.mono hB.out.size)); replace hKT1 := Lib.hid (hKT1.out.trans (KT.of hbW))
  clear hbW
  have hR : Hid (LC w0 w m N (.int .i64 j) key1 (.slice (some ⟨W1.heap.size, 0, none⟩) 0 N) (.bool false) (.int .i64 0) W2) := Lib.hid ⟨0, j, false, [], by omega, rfl, rfl, rfl, hK1.out, hO.out, (fun s h => by simp at h), hKT1.out, hB.out, _, hP.out⟩
  go_wp2_with fail
  go_loopw [4, 5, 17, 18, 19] (fun j key subs dead q wr => LC w0 w m N j key subs dead q wr) (fun _ _ _ _ q _ => N - (intOf q).toNat)
  case atStart => exact hR.out
  case round =>
    clear hR hK1 hO hKT1 hB hP
    obtain ⟨k, j', d, ls, hkN, rfl, rfl, rfl, hK, hO, hG, hKT, hB, xp, hPr⟩ := hrel
    replace hPr := Lib.hid hPr
    replace hK := Lib.hid hK; replace hO := Lib.hid hO; replace hG := Lib.hid hG; replace hKT := Lib.hid hKT; replace hB := Lib.hid hB
    by_cases hlt : k < N
    · obtain ⟨nk', xk', hnk', hk⟩ := hK.out
      replace hk := Lib.hid hk
      clear hK
      go_upto_region 10 with (go_at_call 20; (with_reducible refine (C20.out j' _ hB.out).mono ?_); rintro e w' ⟨b, rfl, rfl⟩; cases b)
      all_goals
        go_upto_region 11 with (first | (go_at_call 21; (with_reducible refine (C21.out j' _ hB.out).mono ?_); rintro e w' ⟨y, rfl, rfl⟩) | (at_builtin; refine app1n (w := wr) (.tmp 39) (.tmp 44) 51 3 w0.heap.size 1 8 #[.int .i64 0] #[.int .i64 y] _ nk' _ rfl rfl rfl rfl rfl Try.underlying51 info3 rfl (by omega) hk.out rfl (int1 _) (by omega) (by omega) hB.out.size ?_; intro key2 W3 hk3 hkp hnew; replace hkp := Lib.hid hkp; replace hk3 := Lib.hid hk3; clear hnew))
        have hK3 : Hid (Key w0 W3 key2 (m + 1 + (k + 1))) := Lib.hid ⟨nk' + 1, _, by omega, hk3.out⟩
        have hBW : Below w0.heap.size wr W3 := hkp.out.below hB.out.size (fun b e => (hk.out.lt b e).1)
        have hkt := KT.app hk.out hkp.out
        have hO3 := Lib.hid (hkt.own hO.out (by decide)); have hP3 := Lib.hid (hkt.own hPr.out (by decide))
        have hG3 := Lib.hid (fun s hs => (hG.out s hs).kt hkt (by decide))
        have hKT3 : Hid (KT 3 w W3) := Lib.hid (hKT.out.trans hkt)
        have hB3 := Lib.hid (hB.out.trans hBW)
        have hw3 := hKT3.out.size
        clear hkt hBW hkp hk3 hk
        go_wp2_with (first | (go_at_call 22; (with_reducible refine (C22.out j' _ hB3.out).mono ?_); rintro e w4 ⟨s, rfl, hs, hb⟩; replace hs := Lib.hid hs; have hK4 := Lib.hid (hK3.out.below hb); have hO4 := Lib.hid (own_below hO3.out hb); have hP4 := Lib.hid (own_below hP3.out hb); have hG4 := Lib.hid (fun s hs => (hG3.out s hs).kt (KT.of (e := 84) hb) (by decide)); have hKT4 := Lib.hid (hKT3.out.trans (KT.of hb)); have hB4 := Lib.hid (hB3.out.trans (hb.mono hB3.out.size)); have hw4 := hb.size; clear hb) | (at_builtin; refine app1n (w := w4) (.tmp 46) (.tmp 51) 79 95 w.heap.size 3 24 #[.nilIface, .int .i32 0, .int .i32 0] s.arr _ k _ rfl rfl rfl rfl rfl Try.underlying79 info95 rfl (by omega) hO4.out rfl (SubR.one s) (by omega) (by omega) (by omega) ?_; intro subs2 W5 hO5 hkp hnew; replace hkp := Lib.hid hkp; replace hO5 := Lib.hid hO5; clear hnew))
        have hkt := KT.app hO4.out hkp.out
        have RR : ∀ d', LC w0 w m N (.int .i64 (wrap64 (j' + 1))) key2 subs2 (.bool d') (.int .i64 ((k : Int) + 1)) W5 := fun d' => ⟨k + 1, _, d', ls ++ [s], by omega, by go_num, rfl, rfl, hK4.out.kt hkt (by decide), by rw [← flat_add]; exact hO5.out, fun x hx => by
          rcases List.mem_append.1 hx with hx | hx
          · exact (hG4.out x hx).kt hkt (by decide)
          · rw [List.mem_singleton] at hx; subst hx; exact hs.out.kt hkt (by decide), Kp.kt hKT4.out hkp.out (fun b e => (hO4.out.lt b e).1), hB4.out.trans (hkp.out.below hB4.out.size (fun b e => by have := (hO4.out.lt b e).1; omega)), _, hkt.own hP4.out (by decide)⟩
        exact ⟨RR _, by simp [intOf]; omega⟩
    · obtain rfl : k = N := by omega
      obtain ⟨a, c, hu, -, -⟩ := own_shape hO.out
      subst hu
      have hst := Lib.hid (storeCp hPr.out ⟨a, k, c, ls⟩)
      obtain ⟨v0, c0, g0⟩ := ownCp hPr.out 0 (by omega); obtain ⟨v1, c1, g1⟩ := ownCp hPr.out 1 (by omega); obtain ⟨v2, c2, g2⟩ := ownCp hPr.out 2 (by omega); obtain ⟨v3, c3, g3⟩ := ownCp hPr.out 3 (by omega); obtain ⟨v4, c4, g4⟩ := ownCp hPr.out 4 (by omega); obtain ⟨v5, c5, g5⟩ := ownCp hPr.out 5 (by omega)
      go_wp2_with fail
      have hty : ∀ b, b = w.heap.size → Ty wr 84 b := fun b e => by subst e; exact Ty.of hPr.out _ rfl
      have hkt : KT 84 wr ((((((wr.setCell ⟨w.heap.size, 0, none⟩ (.pointer none)).setCell ⟨w.heap.size, 1, none⟩ (.slice a k c)).setCell ⟨w.heap.size, 2, none⟩ (.slice none 0 0)).setCell ⟨w.heap.size, 3, none⟩ (.int .i32 0)).setCell ⟨w.heap.size, 4, none⟩ (.int .u8 0)).setCell ⟨w.heap.size, 5, none⟩ (.bool false)) := hst.out.2.wide hty
      have HP : CompP w0 w m (.returned (.tuple #[.agg (CpR.arr ⟨a, k, c, ls⟩), .int .i64 j', .bool d, u5])) ((((((wr.setCell ⟨w.heap.size, 0, none⟩ (.pointer none)).setCell ⟨w.heap.size, 1, none⟩ (.slice a k c)).setCell ⟨w.heap.size, 2, none⟩ (.slice none 0 0)).setCell ⟨w.heap.size, 3, none⟩ (.int .i32 0)).setCell ⟨w.heap.size, 4, none⟩ (.int .u8 0)).setCell ⟨w.heap.size, 5, none⟩ (.bool false)) := by
        obtain ⟨nk', xk', hnk', hk⟩ := hK.out
        refine ⟨_, _, _, _, rfl, ⟨own_base (hkt.own hO.out (by decide)) (Nat.zero_le _), fun s hs => (hG.out s hs).kt hkt (by decide)⟩, ⟨nk', xk', by omega, hkt.own hk (by decide)⟩, Kp.kt hKT.out hst.out.2 (fun b e => by omega), hB.out.trans (hst.out.2.below hB.out.size (fun b e => by omega))⟩
      exact bodyPost_ret (v := .tuple #[.agg (CpR.arr ⟨a, k, c, ls⟩), .int .i64 j', .bool d, u5]) (by simp [results, Try.results18, go_sem, c0, c1, c2, c3, c4, c5]) rfl HP
end Go.Proofs.Ytidmdcadejfjhaa

