/- FnFlattenMatchesStreamModel: the law's four bounds. -/
import Derived.Test.YtjigljpodkfchadFmh
set_option linter.unusedVariables false
set_option linter.unusedSimpArgs false
namespace Go.Proofs.Ytjigljpodkfchad
open Go.RowKit
set_option maxRecDepth 100000
set_option maxHeartbeats 40000000
def sumTo {α : Type} (f : α → Nat) (l : List α) (i : Nat) : Nat := ((l.take i).map f).sum
theorem take_sum {α : Type} (f : α → Nat) {l : List α} {i : Nat} {x : α} (h : l[i]? = some x) : sumTo f l (i + 1) = sumTo f l i + f x := by
  unfold sumTo; rw [mapt h, List.sum_append]; simp
theorem sumTo_all {α : Type} (f : α → Nat) {l : List α} {i : Nat} (h : l.length ≤ i) : sumTo f l i = (l.map f).sum := by unfold sumTo; rw [List.take_of_length_le h]
theorem sumTo_zero {α : Type} (f : α → Nat) (l : List α) : sumTo f l 0 = 0 := by simp [sumTo]
theorem wrs {a b : Nat} (ha : a ≤ 1048576) (hb : ¬ (1048576 : Int) < b) : wrap64 ((a : Int) + b) = a + b := wr64 (by omega) (by omega)
theorem wrs2 {a b c : Nat} (ha : ¬ (1048576 : Int) < (a : Int) + b) (hb : ¬ (1048576 : Int) < c) : wrap64 ((a : Int) + b + c) = a + b + c := wr64 (by omega) (by omega)
def BytP (l : List Zc) (w : World) (e : Ending) (w' : World) : Prop := ∃ b, e = .returned (.bool b) ∧ w = w' ∧ (b = true → zA l ≤ 1048576)
theorem BytP.no (l : List Zc) (w : World) : BytP l w (.returned (.bool false)) w := ⟨false, rfl, rfl, fun h => by cases h⟩
def LpB {α : Type} (w : World) (n N : Nat) (f : α → Nat) (l : List α) (u v : Value) (wr : World) : Prop := ∃ i z : Nat, i ≤ n ∧ u = .int .i64 z ∧ v = .int .i64 i ∧ z = N + sumTo f l i ∧ z ≤ 1048576 ∧ w = wr
def IsA (a : Act) (A : Array Value) : Prop := a = ⟨A, []⟩
def U206 (u : Nat → Value) : Array Value := #[u 0, u 1, u 2, u 3, u 4, u 5, u 6, u 7, u 8, u 9, u 10, u 11, u 12, u 13, u 14, u 15, u 16, u 17, u 18, u 19, u 20, u 21, u 22, u 23, u 24, u 25, u 26, u 27, u 28, u 29, u 30, u 31, u 32, u 33, u 34, u 35, u 36, u 37, u 38, u 39, u 40, u 41, u 42, u 43, u 44, u 45, u 46, u 47, u 48, u 49, u 50, u 51, u 52, u 53, u 54, u 55, u 56, u 57, u 58, u 59, u 60, u 61, u 62, u 63, u 64, u 65, u 66, u 67, u 68, u 69, u 70, u 71, u 72, u 73, u 74, u 75, u 76, u 77, u 78, u 79, u 80, u 81, u 82, u 83, u 84, u 85, u 86, u 87, u 88, u 89, u 90, u 91, u 92, u 93, u 94, u 95, u 96, u 97, u 98, u 99, u 100, u 101, u 102, u 103, u 104, u 105, u 106, u 107, u 108, u 109, u 110, u 111, u 112, u 113, u 114, u 115, u 116, u 117, u 118, u 119, u 120, u 121, u 122, u 123, u 124, u 125, u 126, u 127, u 128, u 129, u 130, u 131, u 132, u 133, u 134, u 135, u 136, u 137, u 138, u 139, u 140, u 141, u 142, u 143, u 144, u 145, u 146, u 147, u 148, u 149, u 150, u 151, u 152, u 153, u 154, u 155, u 156, u 157, u 158, u 159, u 160, u 161, u 162, u 163, u 164, u 165, u 166, u 167, u 168, u 169, u 170, u 171, u 172, u 173, u 174, u 175, u 176, u 177, u 178, u 179, u 180, u 181, u 182, u 183, u 184, u 185, u 186, u 187, u 188, u 189, u 190, u 191, u 192, u 193, u 194, u 195, u 196, u 197, u 198, u 199, u 200, u 201, u 202, u 203, u 204, u 205]
theorem U206_eq (u : Nat → Value) : U206 u = ((List.range 206).map u).toArray := by kernel_rfl
theorem tm206 (l : List Value) (h : l.length = 206) : l.toArray = U206 (fun i => l.getD i undef) := by
  have e : l = (List.range 206).map (fun i => l.getD i undef) := by
    refine List.ext_getElem (by simp [h]) (fun i h1 h2 => ?_)
    simp [List.getD, h1]
  rw [U206_eq, ← e]
theorem am206 (l : List Value) (h : l.length = 206) : IsA ⟨l.toArray, []⟩ (U206 (fun i => l.getD i undef)) := congrArg (Act.mk · []) (tm206 l h)
theorem bytes4_c (l : List Zc) (n : Nat) (hn : l.length = n) (hn2 : n ≤ maxLen) (a : Option Addr) (cc : Nat) (md : Value) (w : World) (h : RC w a l) : Calls Try.prog 4 #[.slice a n cc, md] w (BytP l w) := by
  replace hn := Lib.hid hn; replace h := Lib.hid h
  clear hn2
  by_cases h1 : (1048576 : Int) < n
  · go_enter Try.func4, Try.ntmps4
    go_wp2
    go_ret
    exact BytP.no _ _
  have ewn := wr64 (x := (n : Int)) (by omega) (by omega)
  go_enter Try.func4, Try.ntmps4
  go_wp2
  clear ewn
  refine wp_loop (fun a' wr => ∃ u : Nat → Value, IsA a' (U206 u) ∧ u 0 = .slice a n cc ∧ LpB w n (n) zC l (u 5) (u 6) wr) (fun a' wr => n - (intOf (a'.tmps.getD 6 undef)).toNat) ?_ ?_
  · refine ⟨_, am206 _ rfl, ?_⟩
    exact ⟨rfl, 0, n, by omega, by first | rfl | simp, rfl, by rw [sumTo_zero]; rfl, by omega, by first | rfl | trivial⟩
  · rintro ac wr ⟨u, hA, l0, i, z, hi, e5, e6, hz0, z0, rfl⟩
    obtain rfl : ac = ⟨U206 u, []⟩ := hA
    rw [show (⟨U206 u, []⟩ : Act) = ⟨#[.slice a n cc, u 1, u 2, u 3, u 4, .int .i64 (z : Nat), .int .i64 (i : Nat), u 7, u 8, u 9, u 10, u 11, u 12, u 13, u 14, u 15, u 16, u 17, u 18, u 19, u 20, u 21, u 22, u 23, u 24, u 25, u 26, u 27, u 28, u 29, u 30, u 31, u 32, u 33, u 34, u 35, u 36, u 37, u 38, u 39, u 40, u 41, u 42, u 43, u 44, u 45, u 46, u 47, u 48, u 49, u 50, u 51, u 52, u 53, u 54, u 55, u 56, u 57, u 58, u 59, u 60, u 61, u 62, u 63, u 64, u 65, u 66, u 67, u 68, u 69, u 70, u 71, u 72, u 73, u 74, u 75, u 76, u 77, u 78, u 79, u 80, u 81, u 82, u 83, u 84, u 85, u 86, u 87, u 88, u 89, u 90, u 91, u 92, u 93, u 94, u 95, u 96, u 97, u 98, u 99, u 100, u 101, u 102, u 103, u 104, u 105, u 106, u 107, u 108, u 109, u 110, u 111, u 112, u 113, u 114, u 115, u 116, u 117, u 118, u 119, u 120, u 121, u 122, u 123, u 124, u 125, u 126, u 127, u 128, u 129, u 130, u 131, u 132, u 133, u 134, u 135, u 136, u 137, u 138, u 139, u 140, u 141, u 142, u 143, u 144, u 145, u 146, u 147, u 148, u 149, u 150, u 151, u 152, u 153, u 154, u 155, u 156, u 157, u 158, u 159, u 160, u 161, u 162, u 163, u 164, u 165, u 166, u 167, u 168, u 169, u 170, u 171, u 172, u 173, u 174, u 175, u 176, u 177, u 178, u 179, u 180, u 181, u 182, u 183, u 184, u 185, u 186, u 187, u 188, u 189, u 190, u 191, u 192, u 193, u 194, u 195, u 196, u 197, u 198, u 199, u 200, u 201, u 202, u 203, u 204, u 205], []⟩ by simp only [U206, l0, e5, e6]]
    clear l0 e5 e6
    replace hz0 := Lib.hid hz0
    by_cases hlt0 : i < n
    · obtain ⟨c, he0⟩ : ∃ e, l[i]? = some e := ⟨_, List.getElem?_eq_getElem (by rw [hn.out]; exact hlt0)⟩
      have hst0 := Lib.hid (take_sum zC he0)
      have i00 : (0 : Int) ≤ i := Int.natCast_nonneg _
      have i10 : (i : Int) < n := Int.ofNat_lt.2 hlt0
      clear hlt0 hi
      obtain ⟨b, o, a', c', rfl, hs, hRS, hmx, -, -, -⟩ := h.out i c he0
      obtain ⟨m, hm⟩ : ∃ y, c.ss.length = y := ⟨_, rfl⟩
      obtain ⟨d0, d1, d2, d3⟩ := segs4' (show Seg w b (o + i * 4) [.int .u8 c.cb, .int .u8 c.ty, .int .u8 c.am, .slice a' m c'] by rw [← hm]; exact hs)
      rw [hm] at hmx
      replace hm := Lib.hid hm; replace hRS := Lib.hid hRS
      clear hs he0 d0 d1 d2 hmx
      by_cases q1 : (1048576 : Int) < m
      · go_wp2
        go_ret
        exact BytP.no _ _
      go_upto_region 12 with fail
      by_cases q2 : (1048576 : Int) < (z : Int) + m
      · go_wp2
        go_ret
        exact BytP.no _ _
      go_upto_region 15 with fail
      clear z0
      go_wp2
      refine wp_loop (fun a' wr => ∃ u : Nat → Value, IsA a' (U206 u) ∧ u 0 = .slice (some ⟨b, o, none⟩) n cc ∧ u 6 = .int .i64 (i : Nat) ∧ LpB w m (z + m) zS c.ss (u 5) (u 7) wr) (fun a' wr => m - (intOf (a'.tmps.getD 7 undef)).toNat) ?_ ?_
      · refine ⟨_, am206 _ rfl, ?_⟩
        exact ⟨rfl, rfl, 0, z + m, by omega, by first | rfl | simp, rfl, by rw [sumTo_zero]; rfl, by omega, by first | rfl | trivial⟩
      · rintro ac wr ⟨u, hA, l0, l6, j, y, hj, e5, e6, hz1, z1, rfl⟩
        obtain rfl : ac = ⟨U206 u, []⟩ := hA
        rw [show (⟨U206 u, []⟩ : Act) = ⟨#[.slice (some ⟨b, o, none⟩) n cc, u 1, u 2, u 3, u 4, .int .i64 (y : Nat), .int .i64 (i : Nat), .int .i64 (j : Nat), u 8, u 9, u 10, u 11, u 12, u 13, u 14, u 15, u 16, u 17, u 18, u 19, u 20, u 21, u 22, u 23, u 24, u 25, u 26, u 27, u 28, u 29, u 30, u 31, u 32, u 33, u 34, u 35, u 36, u 37, u 38, u 39, u 40, u 41, u 42, u 43, u 44, u 45, u 46, u 47, u 48, u 49, u 50, u 51, u 52, u 53, u 54, u 55, u 56, u 57, u 58, u 59, u 60, u 61, u 62, u 63, u 64, u 65, u 66, u 67, u 68, u 69, u 70, u 71, u 72, u 73, u 74, u 75, u 76, u 77, u 78, u 79, u 80, u 81, u 82, u 83, u 84, u 85, u 86, u 87, u 88, u 89, u 90, u 91, u 92, u 93, u 94, u 95, u 96, u 97, u 98, u 99, u 100, u 101, u 102, u 103, u 104, u 105, u 106, u 107, u 108, u 109, u 110, u 111, u 112, u 113, u 114, u 115, u 116, u 117, u 118, u 119, u 120, u 121, u 122, u 123, u 124, u 125, u 126, u 127, u 128, u 129, u 130, u 131, u 132, u 133, u 134, u 135, u 136, u 137, u 138, u 139, u 140, u 141, u 142, u 143, u 144, u 145, u 146, u 147, u 148, u 149, u 150, u 151, u 152, u 153, u 154, u 155, u 156, u 157, u 158, u 159, u 160, u 161, u 162, u 163, u 164, u 165, u 166, u 167, u 168, u 169, u 170, u 171, u 172, u 173, u 174, u 175, u 176, u 177, u 178, u 179, u 180, u 181, u 182, u 183, u 184, u 185, u 186, u 187, u 188, u 189, u 190, u 191, u 192, u 193, u 194, u 195, u 196, u 197, u 198, u 199, u 200, u 201, u 202, u 203, u 204, u 205], []⟩ by simp only [U206, l0, l6, e5, e6]]
        clear l0 l6 e5 e6
        clear q2
        replace hz1 := Lib.hid hz1
        by_cases hlt1 : j < m
        · obtain ⟨s, he1⟩ : ∃ e, c.ss[j]? = some e := ⟨_, List.getElem?_eq_getElem (by rw [hm.out]; exact hlt1)⟩
          have hst1 := Lib.hid (take_sum zS he1)
          have i01 : (0 : Int) ≤ j := Int.natCast_nonneg _
          have i11 : (j : Int) < m := Int.ofNat_lt.2 hlt1
          clear hlt1 hj
          obtain ⟨b2, o2, a2, c2, rfl, hs, hRI, hpx, -, htx⟩ := hRS.out j s he1
          obtain ⟨p, hp⟩ : ∃ y, s.inn.length = y := ⟨_, rfl⟩
          obtain ⟨tz, htz⟩ : ∃ y, s.nm.size = y := ⟨_, rfl⟩
          obtain ⟨f0, f1, f2, f3⟩ := segs4' (show Seg w b2 (o2 + j * 4) [.bool s.wr, .int .u8 s.kd, .string s.nm, .slice a2 p c2] by rw [← hp]; exact hs)
          rw [hp] at hpx
          rw [htz] at htx
          have htz2 : Hid (s.nm.size = tz) := Lib.hid htz
          replace hp := Lib.hid hp; replace hRI := Lib.hid hRI
          clear hs he1 f0 f1 hpx htx
          by_cases q3 : (1048576 : Int) < tz
          · go_wp2
            go_ret
            exact BytP.no _ _
          go_upto_region 20 with fail
          by_cases q4 : (1048576 : Int) < (y : Int) + tz
          · go_wp2
            go_ret
            exact BytP.no _ _
          go_upto_region 23 with fail
          by_cases q5 : (1048576 : Int) < p
          · go_wp2
            go_ret
            exact BytP.no _ _
          go_upto_region 25 with fail
          by_cases q6 : (1048576 : Int) < (y : Int) + tz + p
          · go_wp2
            go_ret
            exact BytP.no _ _
          go_upto_region 28 with fail
          clear q3 q4 z1
          go_wp2
          clear f2 htz
          refine wp_loop (fun a' wr => ∃ u : Nat → Value, IsA a' (U206 u) ∧ u 0 = .slice (some ⟨b, o, none⟩) n cc ∧ u 6 = .int .i64 (i : Nat) ∧ u 7 = .int .i64 (j : Nat) ∧ LpB w p (y + tz + p) zI s.inn (u 5) (u 8) wr) (fun a' wr => p - (intOf (a'.tmps.getD 8 undef)).toNat) ?_ ?_
          · refine ⟨_, am206 _ rfl, ?_⟩
            exact ⟨rfl, rfl, rfl, 0, y + tz + p, by omega, by first | rfl | simp, rfl, by rw [sumTo_zero]; rfl, by omega, by first | rfl | trivial⟩
          · rintro ac wr ⟨u, hA, l0, l6, l7, k, x, hk, e5, e6, hz2, z2, rfl⟩
            obtain rfl : ac = ⟨U206 u, []⟩ := hA
            rw [show (⟨U206 u, []⟩ : Act) = ⟨#[.slice (some ⟨b, o, none⟩) n cc, u 1, u 2, u 3, u 4, .int .i64 (x : Nat), .int .i64 (i : Nat), .int .i64 (j : Nat), .int .i64 (k : Nat), u 9, u 10, u 11, u 12, u 13, u 14, u 15, u 16, u 17, u 18, u 19, u 20, u 21, u 22, u 23, u 24, u 25, u 26, u 27, u 28, u 29, u 30, u 31, u 32, u 33, u 34, u 35, u 36, u 37, u 38, u 39, u 40, u 41, u 42, u 43, u 44, u 45, u 46, u 47, u 48, u 49, u 50, u 51, u 52, u 53, u 54, u 55, u 56, u 57, u 58, u 59, u 60, u 61, u 62, u 63, u 64, u 65, u 66, u 67, u 68, u 69, u 70, u 71, u 72, u 73, u 74, u 75, u 76, u 77, u 78, u 79, u 80, u 81, u 82, u 83, u 84, u 85, u 86, u 87, u 88, u 89, u 90, u 91, u 92, u 93, u 94, u 95, u 96, u 97, u 98, u 99, u 100, u 101, u 102, u 103, u 104, u 105, u 106, u 107, u 108, u 109, u 110, u 111, u 112, u 113, u 114, u 115, u 116, u 117, u 118, u 119, u 120, u 121, u 122, u 123, u 124, u 125, u 126, u 127, u 128, u 129, u 130, u 131, u 132, u 133, u 134, u 135, u 136, u 137, u 138, u 139, u 140, u 141, u 142, u 143, u 144, u 145, u 146, u 147, u 148, u 149, u 150, u 151, u 152, u 153, u 154, u 155, u 156, u 157, u 158, u 159, u 160, u 161, u 162, u 163, u 164, u 165, u 166, u 167, u 168, u 169, u 170, u 171, u 172, u 173, u 174, u 175, u 176, u 177, u 178, u 179, u 180, u 181, u 182, u 183, u 184, u 185, u 186, u 187, u 188, u 189, u 190, u 191, u 192, u 193, u 194, u 195, u 196, u 197, u 198, u 199, u 200, u 201, u 202, u 203, u 204, u 205], []⟩ by simp only [U206, l0, l6, l7, e5, e6]]
            clear l0 l6 l7 e5 e6
            clear q6
            replace hz2 := Lib.hid hz2
            by_cases hlt2 : k < p
            · obtain ⟨t, he2⟩ : ∃ e, s.inn[k]? = some e := ⟨_, List.getElem?_eq_getElem (by rw [hp.out]; exact hlt2)⟩
              have hst2 := Lib.hid (take_sum zI he2)
              have i02 : (0 : Int) ≤ k := Int.natCast_nonneg _
              have i12 : (k : Int) < p := Int.ofNat_lt.2 hlt2
              clear hlt2 hk
              obtain ⟨b3, o3, a3, c3, rfl, hs, hRN, hrx, -, -, -⟩ := hRI.out k t he2
              obtain ⟨r, hr⟩ : ∃ y, t.nm.length = y := ⟨_, rfl⟩
              obtain ⟨g0, g1, g2, g3⟩ := segs4' (show Seg w b3 (o3 + k * 4) [.int .u8 t.cb, .int .u8 t.ty, .int .u8 t.am, .slice a3 r c3] by rw [← hr]; exact hs)
              rw [hr] at hrx
              replace hr := Lib.hid hr; replace hRN := Lib.hid hRN
              clear hs he2 g0 g1 g2 hrx
              by_cases q7 : (1048576 : Int) < r
              · go_wp2
                go_ret
                exact BytP.no _ _
              go_upto_region 33 with fail
              by_cases q8 : (1048576 : Int) < (x : Int) + r
              · go_wp2
                go_ret
                exact BytP.no _ _
              go_upto_region 36 with fail
              clear z2
              go_wp2
              refine wp_loop (fun a' wr => ∃ u : Nat → Value, IsA a' (U206 u) ∧ u 0 = .slice (some ⟨b, o, none⟩) n cc ∧ u 6 = .int .i64 (i : Nat) ∧ u 7 = .int .i64 (j : Nat) ∧ u 8 = .int .i64 (k : Nat) ∧ LpB w r (x + r) ByteArray.size t.nm (u 5) (u 9) wr) (fun a' wr => r - (intOf (a'.tmps.getD 9 undef)).toNat) ?_ ?_
              · refine ⟨_, am206 _ rfl, ?_⟩
                exact ⟨rfl, rfl, rfl, rfl, 0, x + r, by omega, by first | rfl | simp, rfl, by rw [sumTo_zero]; rfl, by omega, by first | rfl | trivial⟩
              · rintro ac wr ⟨u, hA, l0, l6, l7, l8, q, u0, hq, e5, e6, hz3, z3, rfl⟩
                obtain rfl : ac = ⟨U206 u, []⟩ := hA
                rw [show (⟨U206 u, []⟩ : Act) = ⟨#[.slice (some ⟨b, o, none⟩) n cc, u 1, u 2, u 3, u 4, .int .i64 (u0 : Nat), .int .i64 (i : Nat), .int .i64 (j : Nat), .int .i64 (k : Nat), .int .i64 (q : Nat), u 10, u 11, u 12, u 13, u 14, u 15, u 16, u 17, u 18, u 19, u 20, u 21, u 22, u 23, u 24, u 25, u 26, u 27, u 28, u 29, u 30, u 31, u 32, u 33, u 34, u 35, u 36, u 37, u 38, u 39, u 40, u 41, u 42, u 43, u 44, u 45, u 46, u 47, u 48, u 49, u 50, u 51, u 52, u 53, u 54, u 55, u 56, u 57, u 58, u 59, u 60, u 61, u 62, u 63, u 64, u 65, u 66, u 67, u 68, u 69, u 70, u 71, u 72, u 73, u 74, u 75, u 76, u 77, u 78, u 79, u 80, u 81, u 82, u 83, u 84, u 85, u 86, u 87, u 88, u 89, u 90, u 91, u 92, u 93, u 94, u 95, u 96, u 97, u 98, u 99, u 100, u 101, u 102, u 103, u 104, u 105, u 106, u 107, u 108, u 109, u 110, u 111, u 112, u 113, u 114, u 115, u 116, u 117, u 118, u 119, u 120, u 121, u 122, u 123, u 124, u 125, u 126, u 127, u 128, u 129, u 130, u 131, u 132, u 133, u 134, u 135, u 136, u 137, u 138, u 139, u 140, u 141, u 142, u 143, u 144, u 145, u 146, u 147, u 148, u 149, u 150, u 151, u 152, u 153, u 154, u 155, u 156, u 157, u 158, u 159, u 160, u 161, u 162, u 163, u 164, u 165, u 166, u 167, u 168, u 169, u 170, u 171, u 172, u 173, u 174, u 175, u 176, u 177, u 178, u 179, u 180, u 181, u 182, u 183, u 184, u 185, u 186, u 187, u 188, u 189, u 190, u 191, u 192, u 193, u 194, u 195, u 196, u 197, u 198, u 199, u 200, u 201, u 202, u 203, u 204, u 205], []⟩ by simp only [U206, l0, l6, l7, l8, e5, e6]]
                clear l0 l6 l7 l8 e5 e6
                clear q8
                replace hz3 := Lib.hid hz3
                by_cases hlt3 : q < r
                · obtain ⟨nm, he3⟩ : ∃ e, t.nm[q]? = some e := ⟨_, List.getElem?_eq_getElem (by rw [hr.out]; exact hlt3)⟩
                  have hst3 := Lib.hid (take_sum ByteArray.size he3)
                  have i03 : (0 : Int) ≤ q := Int.natCast_nonneg _
                  have i13 : (q : Int) < r := Int.ofNat_lt.2 hlt3
                  clear hlt3 hq
                  obtain ⟨b4, o4, rfl, hcell, hux⟩ := hRN.out q nm he3
                  obtain ⟨sz, hsz⟩ : ∃ y, nm.size = y := ⟨_, rfl⟩
                  rw [hsz] at hux
                  have hsz2 : Hid (nm.size = sz) := Lib.hid hsz
                  clear he3 hux
                  by_cases q9 : (1048576 : Int) < sz
                  · go_wp2
                    go_ret
                    exact BytP.no _ _
                  go_upto_region 41 with fail
                  by_cases q10 : (1048576 : Int) < (u0 : Int) + sz
                  · go_wp2
                    go_ret
                    exact BytP.no _ _
                  go_upto_region 38 with fail
                  go_wp2
                  refine ⟨⟨_, am206 _ rfl, ?_⟩, ?_⟩
                  · exact ⟨rfl, rfl, rfl, rfl, q + 1, u0 + sz, Nat.succ_le_of_lt (Int.ofNat_lt.1 i13), congrArg (Value.int .i64) (Int.natCast_add _ _).symm, by first | rfl | exact (congrArg (Value.int .i64) (Int.natCast_add _ _).symm), by rw [hst3.out, hsz2.out, hz3.out, Nat.add_assoc], by omega, by first | rfl | trivial⟩
                  · clear q10; simp [intOf]; omega
                · obtain rfl : r = q := by omega
                  have hfin : Hid (u0 = x + r + (t.nm.map ByteArray.size).sum) := Lib.hid (by rw [hz3.out, sumTo_all ByteArray.size (by rw [hr.out]; exact Nat.le_refl _)])
                  go_wp2
                  refine ⟨⟨_, am206 _ rfl, ?_⟩, ?_⟩
                  · exact ⟨rfl, rfl, rfl, k + 1, u0, by omega, rfl, by first | rfl | exact (congrArg (Value.int .i64) (Int.natCast_add _ _).symm), by rw [hst2.out, hfin.out, hz2.out]; unfold zI; rw [hr.out]; omega, z3, by first | rfl | trivial⟩
                  · simp [intOf]; omega
            · obtain rfl : p = k := by omega
              have hfin : Hid (x = y + tz + p + (s.inn.map zI).sum) := Lib.hid (by rw [hz2.out, sumTo_all zI (by rw [hp.out]; exact Nat.le_refl _)])
              go_wp2
              refine ⟨⟨_, am206 _ rfl, ?_⟩, ?_⟩
              · exact ⟨rfl, rfl, j + 1, x, by omega, rfl, by first | rfl | exact (congrArg (Value.int .i64) (Int.natCast_add _ _).symm), by rw [hst1.out, hfin.out, hz1.out]; unfold zS; rw [hp.out, htz2.out]; omega, z2, by first | rfl | trivial⟩
              · simp [intOf]; omega
        · obtain rfl : m = j := by omega
          have hfin : Hid (y = z + m + (c.ss.map zS).sum) := Lib.hid (by rw [hz1.out, sumTo_all zS (by rw [hm.out]; exact Nat.le_refl _)])
          go_wp2
          refine ⟨⟨_, am206 _ rfl, ?_⟩, ?_⟩
          · exact ⟨rfl, i + 1, y, by omega, rfl, by first | rfl | exact (congrArg (Value.int .i64) (Int.natCast_add _ _).symm), by rw [hst0.out, hfin.out, hz0.out]; unfold zC; rw [hm.out]; omega, z1, by first | rfl | trivial⟩
          · simp [intOf]; omega
    · obtain rfl : n = i := by omega
      have hfin : Hid (z = n + (l.map zC).sum) := Lib.hid (by rw [hz0.out, sumTo_all zC (by rw [hn.out]; exact Nat.le_refl _)])
      go_wp2
      go_ret
      exact ⟨true, rfl, rfl, fun _ => by unfold zA; rw [hn.out, ← hfin.out]; exact z0⟩
theorem cnt6_c (l : List Zc) (n : Nat) (hn : l.length = n) (hz : zA l ≤ 1048576) (a : Option Addr) (cc : Nat) (w : World) (h : RC w a l) : Calls Try.prog 6 #[.slice a n cc] w (fun e w' => ∃ b, e = .returned (.bool b) ∧ w = w' ∧ (b = true → OkN l)) := by
  have hn2 : n ≤ 1048576 := by have := hz; unfold zA at this; omega
  have hin : Hid (∀ c ∈ l, c.ss.length ≤ 1048576) := Lib.hid (fun c hc => by have := zC_le hc; unfold zC at this; omega)
  replace hn := Lib.hid hn; replace h := Lib.hid h; replace hz := Lib.hid hz
  go_enter Try.func6, Try.ntmps6
  go_wp2
  go_loopw [3] (fun v wr => ∃ i, i ≤ n ∧ v = .int .i64 i ∧ (∀ i' c, i' < i → l[i']? = some c → ∀ s ∈ c.ss, s.inn.length ≤ 4096) ∧ w = wr) (fun v _ => n - (intOf v).toNat)
  case atStart => exact ⟨0, by omega, rfl, fun _ _ q => by omega, by first | rfl | trivial⟩
  case round =>
    obtain ⟨i, hi, rfl, hAll, rfl⟩ := hrel
    replace hAll := Lib.hid hAll
    by_cases hlt : i < n
    · obtain ⟨c, hc⟩ : ∃ e, l[i]? = some e := ⟨_, List.getElem?_eq_getElem (by rw [hn.out]; exact hlt)⟩
      obtain ⟨b, o, a', c', rfl, hs, hRS, -, -, -, -⟩ := h.out i c hc
      have hmx := hin.out c (List.mem_of_getElem? hc)
      obtain ⟨m, hm⟩ : ∃ y, c.ss.length = y := ⟨_, rfl⟩
      obtain ⟨d0, d1, d2, d3⟩ := segs4' (show Seg w b (o + i * 4) [.int .u8 c.cb, .int .u8 c.ty, .int .u8 c.am, .slice a' m c'] by rw [← hm]; exact hs)
      rw [hm] at hmx
      replace hm := Lib.hid hm; replace hRS := Lib.hid hRS; replace hc := Lib.hid hc
      have i0 : (0 : Int) ≤ i := by omega
      have i1 : (i : Int) < n := by omega
      clear hs d0 d1 d2
      go_wp2
      go_loopw [4] (fun v wr => ∃ j, j ≤ m ∧ v = .int .i64 j ∧ (∀ j' s, j' < j → c.ss[j']? = some s → s.inn.length ≤ 4096) ∧ w = wr) (fun v _ => m - (intOf v).toNat)
      case atStart => exact ⟨0, by omega, rfl, fun _ _ q => by omega, by first | rfl | trivial⟩
      case round =>
        obtain ⟨j, hj, rfl, hAllj, rfl⟩ := hrel
        replace hAllj := Lib.hid hAllj
        by_cases hltj : j < m
        · obtain ⟨s, hsj⟩ : ∃ e, c.ss[j]? = some e := ⟨_, List.getElem?_eq_getElem (by rw [hm.out]; exact hltj)⟩
          obtain ⟨b2, o2, a2, c2, rfl, hs, hRI, hpx, -, -⟩ := hRS.out j s hsj
          obtain ⟨p, hp⟩ : ∃ y, s.inn.length = y := ⟨_, rfl⟩
          obtain ⟨f0, f1, f2, f3⟩ := segs4' (show Seg w b2 (o2 + j * 4) [.bool s.wr, .int .u8 s.kd, .string s.nm, .slice a2 p c2] by rw [← hp]; exact hs)
          replace hp := Lib.hid hp; replace hsj := Lib.hid hsj
          have j0 : (0 : Int) ≤ j := by omega
          have j1 : (j : Int) < m := by omega
          clear hs f0 f1 f2 hpx
          by_cases hq : (4096 : Int) < p
          · go_wp2
            go_ret
            exact ⟨false, rfl, by first | rfl | trivial, fun q => by cases q⟩
          · go_wp2
            go_roundw
            case rel => exact ⟨j + 1, by omega, by go_num, fun j' x q hx => by
              by_cases e : j' = j
              · subst e; rw [hsj.out] at hx; cases hx; have := hp.out; omega
              · exact hAllj.out j' x (by omega) hx, by first | rfl | trivial⟩
            case measure => simp [intOf]; omega
        · obtain rfl : j = m := by omega
          go_wp2
          go_roundw
          case rel => exact ⟨i + 1, by omega, by go_num, fun i' x q hx => by
            by_cases e : i' = i
            · subst e; rw [hc.out] at hx; cases hx
              exact all_of (fun j' y hj' hy => hAllj.out j' y (by rw [← hm.out]; exact hj') hy)
            · exact hAll.out i' x (by omega) hx, by first | rfl | trivial⟩
          case measure => simp [intOf]; omega
    · obtain rfl : i = n := by omega
      go_wp2
      go_ret
      exact ⟨true, rfl, by first | rfl | trivial, fun _ => all_of (fun i' y hi' hy => hAll.out i' y (by rw [← hn.out]; exact hi') hy)⟩
def AnyI (w : World) (e : Ending) (w' : World) : Prop := ∃ z : Int, e = .returned (.int .i64 z) ∧ Below w.heap.size w w'
theorem size5_c (l : List Zc) (n : Nat) (hn : l.length = n) (hz : zA l ≤ 1048576) (a : Option Addr) (cc : Nat) (w : World) (h : RC w a l) : Calls Try.prog 5 #[.slice a n cc] w (AnyI w) := by
  have hn2 : n ≤ 1048576 := by have := hz; unfold zA at this; omega
  have hin : Hid (∀ c ∈ l, c.ss.length ≤ 1048576 ∧ c.am ≤ 255 ∧ ∀ s ∈ c.ss, s.nm.size ≤ 1048576 ∧ s.inn.length ≤ 1048576 ∧ ∀ t ∈ s.inn, t.am ≤ 255 ∧ t.nm.length ≤ 1048576 ∧ ∀ nm ∈ t.nm, nm.size ≤ 1048576) := Lib.hid (fun c hc => by
    have h1 := zC_le hc
    have hu := h.uc c hc
    refine ⟨by unfold zC at h1; omega, hu.2.2.1, fun s hs => ?_⟩
    have h2 := zS_le hs
    have hu2 := hu.2.2.2 s hs
    refine ⟨by unfold zS at h2; omega, by unfold zS at h2; omega, fun t ht => ?_⟩
    have h3 := zI_le ht
    refine ⟨(hu2.2 t ht).2.2, by unfold zI at h3; omega, fun nm hnm => ?_⟩
    have h4 := zN_le hnm
    omega)
  replace hn := Lib.hid hn; replace h := Lib.hid h
  clear hz
  have hen : Hid (∀ W (z : Int), Below w.heap.size w W → AnyI w (.returned (.int .i64 z)) W) := Lib.hid (fun W z hb => ⟨z, rfl, hb⟩)
  go_enter Try.func5, Try.ntmps5
  go_wp2
  go_loopw [3, 4] (fun u v wr => ∃ (z : Int) (i : Nat), i ≤ n ∧ u = .int .i64 z ∧ v = .int .i64 i ∧ Below w.heap.size w wr) (fun _ v _ => n - (intOf v).toNat)
  case atStart => exact ⟨_, 0, by omega, rfl, rfl, Below.refl _ _⟩
  case round =>
    obtain ⟨z, i, hi, rfl, rfl, hB⟩ := hrel
    obtain ⟨W, rfl⟩ : ∃ y, y = wr := ⟨_, rfl⟩
    replace hB := Lib.hid hB
    by_cases hlt : i < n
    · obtain ⟨c, hc⟩ : ∃ e, l[i]? = some e := ⟨_, List.getElem?_eq_getElem (by rw [hn.out]; exact hlt)⟩
      obtain ⟨b, o, a', c', rfl, hs, hRS, -, -, -, -⟩ := h.out i c hc
      obtain ⟨hmx, ham, hin2⟩ := hin.out c (List.mem_of_getElem? hc)
      replace hin2 := Lib.hid hin2
      obtain ⟨m, hm⟩ : ∃ y, c.ss.length = y := ⟨_, rfl⟩
      obtain ⟨am, ham2⟩ : ∃ y, c.am = y := ⟨_, rfl⟩
      have hsw : Hid (Seg w b (o + i * 4) [.int .u8 c.cb, .int .u8 c.ty, .int .u8 am, .slice a' m c']) := Lib.hid (by rw [← hm, ← ham2]; exact hs)
      obtain ⟨d0, d1, d2, d3⟩ := segs4' (hsw.out.after hB.out)
      rw [hm] at hmx
      rw [ham2] at ham
      replace hm := Lib.hid hm; replace hRS := Lib.hid hRS
      have i0 : (0 : Int) ≤ i := by omega
      have i1 : (i : Int) < n := by omega
      have ha0 := wk64 (x := (am : Int)) (by omega) (by omega)
      clear hs d0 d1 hc ham2
      go_upto_region 6 with fail
      clear d2 ha0
      go_wp2
      clear d3
      go_loopw [3, 5] (fun u v wr => ∃ (z : Int) (j : Nat), j ≤ m ∧ u = .int .i64 z ∧ v = .int .i64 j ∧ Below w.heap.size w wr) (fun _ v _ => m - (intOf v).toNat)
      case atStart => exact ⟨_, 0, by omega, rfl, rfl, hB.out⟩
      case round =>
        clear hB
        obtain ⟨z2, j, hj, rfl, rfl, hB⟩ := hrel
        obtain ⟨W1, rfl⟩ : ∃ y, y = wr := ⟨_, rfl⟩
        replace hB := Lib.hid hB
        obtain ⟨d0, d1, d2, d3⟩ := segs4' (hsw.out.after hB.out)
        clear d0 d1 d2
        by_cases hltj : j < m
        · obtain ⟨s, hsj⟩ : ∃ e, c.ss[j]? = some e := ⟨_, List.getElem?_eq_getElem (by rw [hm.out]; exact hltj)⟩
          obtain ⟨b2, o2, a2, c2, rfl, hs, hRI, -, -, -⟩ := hRS.out j s hsj
          obtain ⟨htx, hpx, hin3⟩ := hin2.out s (List.mem_of_getElem? hsj)
          replace hin3 := Lib.hid hin3
          obtain ⟨p, hp⟩ : ∃ y, s.inn.length = y := ⟨_, rfl⟩
          obtain ⟨wr2, hwr2⟩ : ∃ y, s.wr = y := ⟨_, rfl⟩
          obtain ⟨kd, hkd⟩ : ∃ y, s.kd = y := ⟨_, rfl⟩
          obtain ⟨nm, hnm⟩ : ∃ y, s.nm = y := ⟨_, rfl⟩
          obtain ⟨f0, f1, f2, f3⟩ := segs4' ((show Seg w b2 (o2 + j * 4) [.bool wr2, .int .u8 kd, .string nm, .slice a2 p c2] by rw [← hp, ← hwr2, ← hkd, ← hnm]; exact hs).after hB.out)
          rw [hp] at hpx
          rw [hnm] at htx
          replace hp := Lib.hid hp; replace hRI := Lib.hid hRI
          have j0 : (0 : Int) ≤ j := by omega
          have j1 : (j : Int) < m := by omega
          clear hs hsj hwr2 hkd hnm
          go_upto_region 10 with fail
          refine wp_gen (fun W2 hW => ?_)
          have b2' : Hid (Below W1.heap.size W1 W2) := Lib.hid (by rw [hW]; exact ba _ _)
          have hS2 : Hid (NewAt W2 W1.heap.size #[.bool wr2, .int .u8 kd, .string nm, .slice a2 p c2] 45) := Lib.hid (by rw [hW]; exact newA _ _ _)
          clear hW d3 f0 f1 f2 f3
          have hB2 : Hid (Below w.heap.size w W2) := Lib.hid (hB.out.trans (b2'.out.mono hB.out.size))
          obtain ⟨C6, hC6⟩ : ∃ y, W1.heap.size = y := ⟨_, rfl⟩
          rw [hC6] at hS2 ⊢
          clear hC6 hB b2'
          obtain ⟨e0, e1, e2, e3⟩ := new_segs4 hS2.out
          clear e0 e1
          go_upto_region 11 with fail
          clear e2
          go_wp2
          clear e3
          go_loopw [3, 7] (fun u v wr => ∃ (z : Int) (k : Nat), k ≤ p ∧ u = .int .i64 z ∧ v = .int .i64 k ∧ NewAt wr C6 #[.bool wr2, .int .u8 kd, .string nm, .slice a2 p c2] 45 ∧ Below w.heap.size w wr) (fun _ v _ => p - (intOf v).toNat)
          case atStart => exact ⟨_, 0, by omega, rfl, rfl, hS2.out, hB2.out⟩
          case round =>
            clear hS2 hB2
            obtain ⟨z3, k, hk, rfl, rfl, hS3, hB3⟩ := hrel
            obtain ⟨W3, rfl⟩ : ∃ y, y = wr := ⟨_, rfl⟩
            replace hS3 := Lib.hid hS3; replace hB3 := Lib.hid hB3
            obtain ⟨e0, e1, e2, e3⟩ := new_segs4 hS3.out
            clear e0 e1 e2
            by_cases hltk : k < p
            · obtain ⟨t, htk⟩ : ∃ e, s.inn[k]? = some e := ⟨_, List.getElem?_eq_getElem (by rw [hp.out]; exact hltk)⟩
              obtain ⟨b3, o3, a3, c3, rfl, hs, hRN, -, -, -, -⟩ := hRI.out k t htk
              obtain ⟨ham3, hrx, hin4⟩ := hin3.out t (List.mem_of_getElem? htk)
              obtain ⟨r, hr⟩ : ∃ y, t.nm.length = y := ⟨_, rfl⟩
              obtain ⟨am3, ham4⟩ : ∃ y, t.am = y := ⟨_, rfl⟩
              have hsw3 : Hid (Seg w b3 (o3 + k * 4) [.int .u8 t.cb, .int .u8 t.ty, .int .u8 am3, .slice a3 r c3]) := Lib.hid (by rw [← hr, ← ham4]; exact hs)
              obtain ⟨g0, g1, g2, g3⟩ := segs4' (hsw3.out.after hB3.out)
              rw [hr] at hrx
              rw [ham4] at ham3
              replace hr := Lib.hid hr; replace hRN := Lib.hid hRN; replace hin4 := Lib.hid hin4
              have k0 : (0 : Int) ≤ k := by omega
              have k1 : (k : Int) < p := by omega
              have ha3 := wk64 (x := (am3 : Int)) (by omega) (by omega)
              clear hs g0 g1 htk ham4
              go_upto_region 14 with fail
              have y0 := cell_regrown e3
              have y1 := cell_regrown g2
              have y2 := cell_regrown g3
              refine drawn_tail 20 (by kernel_rfl) (by kernel_rfl) (by kernel_rfl) (fun Q hQ => ?_)
              simp only [List.take_succ_cons, List.take_zero, List.drop_succ_cons, List.drop_zero]
              repeat (quiet_step (fail))
              refine wpQuiet_nil ?_
              intro W6 hw
              have b6 : Hid (Below W3.heap.size W3 W6) := Lib.hid (by
                obtain ⟨⟨d, os⟩, rfl⟩ := hw
                exact below_regrown _ d os)
              have hS6 := Lib.hid (hS3.out.after b6.out)
              have hB6 := Lib.hid (hB3.out.trans (b6.out.mono hB3.out.size))
              clear hw g2 g3 e3 ha3 hS3 hB3 b6 y0 y1 y2
              go_wp2
              go_loopw [3, 8] (fun u v wr => ∃ (z : Int) (q : Nat), q ≤ r ∧ u = .int .i64 z ∧ v = .int .i64 q ∧ W6 = wr) (fun _ v _ => r - (intOf v).toNat)
              case atStart => exact ⟨_, 0, by omega, rfl, rfl, by first | rfl | trivial⟩
              case round =>
                obtain ⟨z4, q, hq, rfl, rfl, rfl⟩ := hrel
                obtain ⟨e0, e1, e2, e3⟩ := new_segs4 hS6.out
                obtain ⟨g0, g1, g2, g3⟩ := segs4' (hsw3.out.after hB6.out)
                clear e0 e1 e2 g0 g1 g2
                by_cases hltq : q < r
                · obtain ⟨nm4, hnq⟩ : ∃ e, t.nm[q]? = some e := ⟨_, List.getElem?_eq_getElem (by rw [hr.out]; exact hltq)⟩
                  obtain ⟨b4, o4, rfl, hcell, -⟩ := (hRN.out.after hB6.out) q nm4 hnq
                  have q0 : (0 : Int) ≤ q := by omega
                  have q1 : (q : Int) < r := by omega
                  clear hnq
                  go_wp2
                  go_roundw
                  case rel => exact ⟨_, q + 1, by omega, rfl, by go_num, by first | rfl | trivial⟩
                  case measure => simp [intOf]; omega
                · obtain rfl : r = q := by omega
                  go_wp2
                  go_roundw
                  case rel => exact ⟨_, k + 1, by omega, rfl, by go_num, hS6.out, hB6.out⟩
                  case measure => simp [intOf]; omega
            · obtain rfl : p = k := by omega
              obtain ⟨z5, hz5⟩ : ∃ y : Int, z3 = y := ⟨_, rfl⟩
              by_cases hbig : (2097152 : Int) < z3
              · go_wp2
                go_ret
                exact hen.out _ _ hB3.out
              · go_wp2
                go_roundw
                case rel => exact ⟨_, j + 1, by omega, rfl, by go_num, hB3.out⟩
                case measure => simp [intOf]; omega
        · obtain rfl : m = j := by omega
          by_cases hbig : (2097152 : Int) < z2
          · go_wp2
            go_ret
            exact hen.out _ _ hB.out
          · go_wp2
            go_roundw
            case rel => exact ⟨_, i + 1, by omega, rfl, by go_num, hB.out⟩
            case measure => simp [intOf]; omega
    · obtain rfl : n = i := by omega
      go_wp2
      go_ret
      exact hen.out _ _ hB.out
def PrmP (l : List Zc) (w : World) (e : Ending) (w' : World) : Prop := ∃ b, e = .returned (.bool b) ∧ Below w.heap.size w w' ∧ (b = true → PremZ l)
theorem prem7_c (l : List Zc) (n : Nat) (hn : l.length = n) (hz : zA l ≤ 1048576) (a : Option Addr) (cc : Nat) (w : World) (h : RC w a l) : Calls Try.prog 7 #[.slice a n cc] w (PrmP l w) := by
  have hn2 : n ≤ 1048576 := by have := hz; unfold zA at this; omega
  have hin : Hid (∀ c ∈ l, c.ss.length ≤ 1048576 ∧ ∀ s ∈ c.ss, s.inn.length ≤ 1048576 ∧ U8 s.kd ∧ ∀ t ∈ s.inn, t.nm.length ≤ 1048576) := Lib.hid (fun c hc => by
    have h1 := zC_le hc
    have hu := h.uc c hc
    refine ⟨by unfold zC at h1; omega, fun s hs => ?_⟩
    have h2 := zS_le hs
    have hu2 := hu.2.2.2 s hs
    refine ⟨by unfold zS at h2; omega, hu2.1, fun t ht => ?_⟩
    have h3 := zI_le ht
    unfold zI at h3; omega)
  replace hn := Lib.hid hn; replace h := Lib.hid h
  clear hz
  have hno : Hid (∀ W, Below w.heap.size w W → PrmP l w (.returned (.bool false)) W) := Lib.hid (fun W hb => ⟨false, rfl, hb, fun q => by cases q⟩)
  go_enter Try.func7, Try.ntmps7
  go_wp2
  go_loopw [3] (fun v wr => ∃ (i : Nat), i ≤ n ∧ v = .int .i64 i ∧ Below w.heap.size w wr ∧ (∀ i' c, i' < i → l[i']? = some c → PremC c)) (fun v _ => n - (intOf v).toNat)
  case atStart => exact ⟨0, by omega, rfl, Below.refl _ _, fun _ _ q => by omega⟩
  case round =>
    obtain ⟨i, hi, rfl, hB, hAll⟩ := hrel
    obtain ⟨W, rfl⟩ : ∃ y, y = wr := ⟨_, rfl⟩
    replace hB := Lib.hid hB; replace hAll := Lib.hid hAll
    by_cases hlt : i < n
    · obtain ⟨c, hc⟩ : ∃ e, l[i]? = some e := ⟨_, List.getElem?_eq_getElem (by rw [hn.out]; exact hlt)⟩
      obtain ⟨b, o, a', c', rfl, hs, hRS, -, -, -, -⟩ := h.out i c hc
      obtain ⟨hmx, hin2⟩ := hin.out c (List.mem_of_getElem? hc)
      replace hin2 := Lib.hid hin2; replace hc := Lib.hid hc
      obtain ⟨m, hm⟩ : ∃ y, c.ss.length = y := ⟨_, rfl⟩
      have hsw : Hid (Seg w b (o + i * 4) [.int .u8 c.cb, .int .u8 c.ty, .int .u8 c.am, .slice a' m c']) := Lib.hid (by rw [← hm]; exact hs)
      rw [hm] at hmx
      replace hm := Lib.hid hm; replace hRS := Lib.hid hRS
      have i0 : (0 : Int) ≤ i := by omega
      have i1 : (i : Int) < n := by omega
      clear hs
      go_wp2
      go_loopw [4] (fun v wr => ∃ (j : Nat), j ≤ m ∧ v = .int .i64 j ∧ Below w.heap.size w wr ∧ (∀ j' s, j' < j → c.ss[j']? = some s → PremS s)) (fun v _ => m - (intOf v).toNat)
      case atStart => exact ⟨0, by omega, rfl, hB.out, fun _ _ q => by omega⟩
      case round =>
        clear hB
        obtain ⟨j, hj, rfl, hB, hAllj⟩ := hrel
        obtain ⟨W1, rfl⟩ : ∃ y, y = wr := ⟨_, rfl⟩
        replace hB := Lib.hid hB; replace hAllj := Lib.hid hAllj
        obtain ⟨d0, d1, d2, d3⟩ := segs4' (hsw.out.after hB.out)
        clear d0 d1 d2
        by_cases hltj : j < m
        · obtain ⟨s, hsj⟩ : ∃ e, c.ss[j]? = some e := ⟨_, List.getElem?_eq_getElem (by rw [hm.out]; exact hltj)⟩
          obtain ⟨b2, o2, a2, c2, rfl, hs, hRI, -, -, -⟩ := hRS.out j s hsj
          obtain ⟨hpx, hkd, hin3⟩ := hin2.out s (List.mem_of_getElem? hsj)
          have hnext : Hid (PremS s → ∀ j' s, j' < j + 1 → c.ss[j']? = some s → PremS s) := Lib.hid (fun hp j' x q hx => by
            by_cases e : j' = j
            · subst e; rw [hsj] at hx; cases hx; exact hp
            · exact hAllj.out j' x (by omega) hx)
          obtain ⟨swr, skd, snm, sinn⟩ := s
          simp only at hpx hkd hin3 hRI
          replace hin3 := Lib.hid hin3
          obtain ⟨p, hp⟩ : ∃ y, sinn.length = y := ⟨_, rfl⟩
          obtain ⟨f0, f1, f2, f3⟩ := segs4' ((show Seg w b2 (o2 + j * 4) [.bool swr, .int .u8 skd, .string snm, .slice a2 p c2] by rw [← hp]; exact hs).after hB.out)
          rw [hp] at hpx
          replace hp := Lib.hid hp; replace hRI := Lib.hid hRI
          have j0 : (0 : Int) ≤ j := by omega
          have j1 : (j : Int) < m := by omega
          have C15 := Lib.hid (fun W => lgk15_c skd hkd.1 hkd.2 W)
          obtain ⟨L, hL⟩ : ∃ y, lgK skd = y := ⟨_, rfl⟩
          rw [hL] at C15
          replace hL := Lib.hid hL
          clear hs hsj hkd
          go_upto_region 8 with fail
          refine wp_gen (fun W2 hW => ?_)
          have b2' : Hid (Below W1.heap.size W1 W2) := Lib.hid (by rw [hW]; exact ba _ _)
          have hS2 : Hid (NewAt W2 W1.heap.size #[.bool swr, .int .u8 skd, .string snm, .slice a2 p c2] 45) := Lib.hid (by rw [hW]; exact newA _ _ _)
          clear hW d3 f0 f1 f2 f3
          have hB2 : Hid (Below w.heap.size w W2) := Lib.hid (hB.out.trans (b2'.out.mono hB.out.size))
          obtain ⟨C6, hC6⟩ : ∃ y, W1.heap.size = y := ⟨_, rfl⟩
          rw [hC6] at hS2 ⊢
          clear hC6 hB b2'
          obtain ⟨e0, e1, e2, e3⟩ := new_segs4 hS2.out
          cases swr with
          | false =>
            clear C15
            go_wp2
            go_roundw
            case rel => exact ⟨j + 1, by omega, by go_num, hB2.out, hnext.out (fun q => by cases q)⟩
            case measure => simp [intOf]; omega
          | true =>
            cases L with
            | false =>
              go_wp2_with (go_at_call 15; (with_reducible refine (C15.out _).mono ?_); rintro e w7 ⟨rfl, rfl⟩)
              go_roundw
              case rel => exact ⟨j + 1, by omega, by go_num, hB2.out, hnext.out (fun _ q => by rw [hL.out] at q; cases q)⟩
              case measure => simp [intOf]; omega
            | true =>
              by_cases hp0 : p = 0
              · subst hp0
                go_wp2_with (go_at_call 15; (with_reducible refine (C15.out _).mono ?_); rintro e w7 ⟨rfl, rfl⟩)
                go_ret
                exact hno.out _ hB2.out
              have qp : ((p : Int) == 0) = false := by simp; omega
              go_upto_region 11 with (go_at_call 15; (with_reducible refine (C15.out _).mono ?_); rintro e w7 ⟨rfl, rfl⟩)
              clear C15 e0 e1 e2 e3
              go_wp2
              go_loopw [6] (fun v wr => ∃ (k : Nat), k ≤ p ∧ v = .int .i64 k ∧ NewAt wr C6 #[.bool true, .int .u8 skd, .string snm, .slice a2 p c2] 45 ∧ Below w.heap.size w wr ∧ (∀ k' t, k' < k → sinn[k']? = some t → ¬ (t.ty = 0 ∧ t.am = 0 ∧ t.nm = []))) (fun v _ => p - (intOf v).toNat)
              case atStart => exact ⟨0, by omega, rfl, hS2.out, hB2.out, fun _ _ q => by omega⟩
              case round =>
                clear hS2 hB2
                obtain ⟨k, hk, rfl, hS3, hB3, hAllk⟩ := hrel
                obtain ⟨W3, rfl⟩ : ∃ y, y = wr := ⟨_, rfl⟩
                replace hS3 := Lib.hid hS3; replace hB3 := Lib.hid hB3; replace hAllk := Lib.hid hAllk
                obtain ⟨e0, e1, e2, e3⟩ := new_segs4 hS3.out
                clear e0 e1 e2
                by_cases hltk : k < p
                · obtain ⟨t, htk⟩ : ∃ e, sinn[k]? = some e := ⟨_, List.getElem?_eq_getElem (by rw [hp.out]; exact hltk)⟩
                  obtain ⟨b3, o3, a3, c3, rfl, hs, hRN, -, -, -, -⟩ := hRI.out k t htk
                  have hrx := hin3.out t (List.mem_of_getElem? htk)
                  obtain ⟨tcb, tty, tam, tnm⟩ := t
                  simp only at hrx hRN
                  obtain ⟨r, hr⟩ : ∃ y, tnm.length = y := ⟨_, rfl⟩
                  obtain ⟨g0, g1, g2, g3⟩ := segs4' ((show Seg w b3 (o3 + k * 4) [.int .u8 tcb, .int .u8 tty, .int .u8 tam, .slice a3 r c3] by rw [← hr]; exact hs).after hB3.out)
                  rw [hr] at hrx
                  have hnx : Hid (¬ (tty = 0 ∧ tam = 0 ∧ tnm = []) → ∀ k' t, k' < k + 1 → sinn[k']? = some t → ¬ (t.ty = 0 ∧ t.am = 0 ∧ t.nm = [])) := Lib.hid (fun hp k' x q hx => by
                    by_cases e : k' = k
                    · subst e; rw [htk] at hx; cases hx; exact hp
                    · exact hAllk.out k' x (by omega) hx)
                  replace hr := Lib.hid hr; replace hRN := Lib.hid hRN
                  have k0 : (0 : Int) ≤ k := by omega
                  have k1 : (k : Int) < p := by omega
                  clear hs htk
                  go_upto_region 15 with fail
                  refine wp_gen (fun W4 hW => ?_)
                  have b4' : Hid (Below W3.heap.size W3 W4) := Lib.hid (by rw [hW]; exact ba _ _)
                  have hT4 : Hid (NewAt W4 W3.heap.size #[.int .u8 tcb, .int .u8 tty, .int .u8 tam, .slice a3 r c3] 48) := Lib.hid (by rw [hW]; exact newA _ _ _)
                  clear hW e3 g0 g1 g2 g3
                  have hB4 : Hid (Below w.heap.size w W4) := Lib.hid (hB3.out.trans (b4'.out.mono hB3.out.size))
                  have hS4 := Lib.hid (hS3.out.after b4'.out)
                  obtain ⟨C7, hC7⟩ : ∃ y, W3.heap.size = y := ⟨_, rfl⟩
                  rw [hC7] at hT4 ⊢
                  clear hC7 hB3 hS3 b4'
                  obtain ⟨e0, e1, e2, e3⟩ := new_segs4 hT4.out
                  by_cases hbad : tty = 0 ∧ (tam : Int) = 0 ∧ r = 0
                  · obtain ⟨q1, q2, q3⟩ := hbad
                    subst q1 q3
                    rw [q2] at e2
                    clear q2
                    go_wp2
                    go_ret
                    exact hno.out _ hB4.out
                  have hgood : Hid (¬ (tty = 0 ∧ tam = 0 ∧ tnm = [])) := Lib.hid (fun q => hbad ⟨q.1, by have := q.2.1; omega, by rw [← hr.out, q.2.2]; rfl⟩)
                  have hpart : Hid ((tty == 0) = false ∨ (tty == 0) = true ∧ ((tam : Int) == 0) = false ∨ (tty == 0) = true ∧ ((tam : Int) == 0) = true ∧ ((r : Int) == 0) = false) := Lib.hid (by
                    by_cases h1 : tty = 0
                    · by_cases h2 : (tam : Int) = 0
                      · right; right
                        refine ⟨by simp [h1], by simp; omega, ?_⟩
                        have : ¬ r = 0 := fun q => hbad ⟨h1, h2, q⟩
                        simp; omega
                      · right; left
                        exact ⟨by simp [h1], by simp; omega⟩
                    · left; simp [h1])
                  clear hbad
                  go_cut [71] (fun v wx => v = .bool false ∧ W4 = wx)
                  case first =>
                    rcases hpart.out with q1 | ⟨q1, q2⟩ | ⟨q1, q2, q3⟩
                    all_goals
                      go_wp2
                      go_meet
                      exact ⟨rfl, by first | rfl | trivial⟩
                  case rest =>
                    obtain ⟨rfl, rfl⟩ := hcut
                    clear hpart e0 e1 e2 e3
                    go_wp2
                    go_loopw [8] (fun v wr => ∃ (q : Nat), q ≤ r ∧ v = .int .i64 q ∧ W4 = wr) (fun v _ => r - (intOf v).toNat)
                    case atStart => exact ⟨0, by omega, rfl, by first | rfl | trivial⟩
                    case round =>
                      obtain ⟨q, hq, rfl, rfl⟩ := hrel
                      obtain ⟨e0, e1, e2, e3⟩ := new_segs4 hT4.out
                      clear e0 e1 e2
                      by_cases hltq : q < r
                      · obtain ⟨nm4, hnq⟩ : ∃ e, tnm[q]? = some e := ⟨_, List.getElem?_eq_getElem (by rw [hr.out]; exact hltq)⟩
                        obtain ⟨b4, o4, rfl, hcell, -⟩ := (hRN.out.after hB4.out) q nm4 hnq
                        have q0 : (0 : Int) ≤ q := by omega
                        have q1 : (q : Int) < r := by omega
                        have C16 := Lib.hid (fun W => lgn16_c nm4 W)
                        obtain ⟨L4, hL4⟩ : ∃ y, lgN nm4 = y := ⟨_, rfl⟩
                        rw [hL4] at C16
                        clear hnq hL4
                        cases L4 with
                        | true =>
                          go_wp2_with (go_at_call 16; (with_reducible refine (C16.out _).mono ?_); rintro e w7 ⟨rfl, rfl⟩)
                          go_ret
                          exact hno.out _ hB4.out
                        | false =>
                          go_wp2_with (go_at_call 16; (with_reducible refine (C16.out _).mono ?_); rintro e w7 ⟨rfl, rfl⟩)
                          go_roundw
                          case rel => exact ⟨q + 1, by omega, by go_num, by first | rfl | trivial⟩
                          case measure => simp [intOf]; omega
                      · obtain rfl : r = q := by omega
                        go_wp2
                        go_roundw
                        case rel => exact ⟨k + 1, by omega, by go_num, hS4.out, hB4.out, hnx.out hgood.out⟩
                        case measure => simp [intOf]; omega
                · obtain rfl : p = k := by omega
                  have hprem : Hid (PremS ⟨true, skd, snm, sinn⟩) := Lib.hid (fun _ _ => ⟨fun e => hp0 (by rw [← hp.out]; show sinn.length = 0; rw [show sinn = [] from e]; rfl), all_of (fun j' y hj' hy => hAllk.out j' y (by rw [← hp.out]; exact hj') hy)⟩)
                  go_wp2
                  go_roundw
                  case rel => exact ⟨j + 1, by omega, by go_num, hB3.out, hnext.out hprem.out⟩
                  case measure => simp [intOf]; omega
        · obtain rfl : m = j := by omega
          go_wp2
          go_roundw
          case rel => exact ⟨i + 1, by omega, by go_num, hB.out, fun i' x q hx => by
            by_cases e : i' = i
            · subst e; rw [hc.out] at hx; cases hx
              exact all_of (fun j' y hj' hy => hAllj.out j' y (by rw [← hm.out]; exact hj') hy)
            · exact hAll.out i' x (by omega) hx⟩
          case measure => simp [intOf]; omega
    · obtain rfl : n = i := by omega
      go_wp2
      go_ret
      exact ⟨true, rfl, hB.out, fun _ => all_of (fun i' y hi' hy => hAll.out i' y (by rw [← hn.out]; exact hi') hy)⟩
end Go.Proofs.Ytjigljpodkfchad
