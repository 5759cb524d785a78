/- FnScanMediaComparisonDecidesOnItsFirstTwoTokens returns true at every argument (no condition). -/
import Derived.Test.YtpnfllnnbinbjaaZt
import Derived.Test.YtpnfllnnbinbjaaCmp
import Derived.Deep.DeepCutAuto
import Derived.WalkSpells
namespace Go.Proofs.Ytpnfllnnbinbjaa.fnScanMediaComparisonDecidesOnItsFirstTwoTokens
open Go.ChangeShapes Go.WideShapes Go.ChangeAt Go.RowKit
open Go.ChangeMaps (open_string shut_string)
set_option linter.unusedVariables false
set_option linter.unusedSimpArgs false
theorem block_add (a : Addr) (n : Nat) : (a.add n).block = a.block := by unfold Addr.add; split <;> rfl
theorem zl_below {w w' : World} {A : Option Addr} {n B : Nat} {Z : Nat → ZT} (h : ZL w A n Z) (hb : Below B w w') (hlt : ∀ x, A = some x → x.block < B) : ZL w' A n Z := fun i hi => by
  obtain ⟨x, e, h0, h1, h2, h3⟩ := h i hi
  have hx := hlt x e
  exact ⟨x, e, by rw [hb.cell (by rw [block_add]; exact hx)]; exact h0, by rw [hb.cell (by rw [block_add]; exact hx)]; exact h1, by rw [hb.cell (by rw [block_add]; exact hx)]; exact h2, by rw [hb.cell (by rw [block_add]; exact hx)]; exact h3⟩
theorem cv_two {n m : Nat} {F G : Nat → Tk} (hn : 2 ≤ n) (hm : 2 ≤ m) (h0 : F 0 = G 0) (h1 : F 1 = G 1) : cv n F = cv m G ∧ cn n F = cn m G := by
  have e : eq2 n F = eq2 m G := by unfold eq2; rw [h0, h1]; simp [hn, hm]
  have a : ¬ n = 0 := by omega
  have b : ¬ m = 0 := by omega
  unfold cv cn
  rw [e, h0, if_neg a, if_neg a, if_neg b, if_neg b]
  exact ⟨rfl, rfl⟩
theorem cn_two {n : Nat} (F : Nat → Tk) (hn : 2 ≤ n) : cn n F ≤ 2 := by
  have := (cv_two (F := F) (G := F) hn (Nat.le_refl 2) rfl rfl).2
  rw [this]; exact cn_le 2 F
abbrev four (z : ZT) : List Value := [.int .u8 z.k, .string z.tx, .int .u8 z.ws, .int .i32 z.lo]
def zcells (Z : Nat → ZT) : Nat → List Value
  | 0 => []
  | n + 1 => zcells Z n ++ four (Z n)
theorem zcells_length (Z : Nat → ZT) (n : Nat) : (zcells Z n).length = n * 4 := by
  induction n with
  | zero => rfl
  | succ n ih => simp [zcells, ih]; omega
theorem zcells_get (Z : Nat → ZT) (n i r : Nat) (hi : i < n) (hr : r < 4) : (zcells Z n)[i * 4 + r]? = (four (Z i))[r]? := by
  induction n with
  | zero => omega
  | succ n ih =>
    unfold zcells
    have hl := zcells_length Z n
    by_cases h : i < n
    · rw [List.getElem?_append_left (by omega)]; exact ih h
    · obtain rfl : i = n := by omega
      rw [List.getElem?_append_right (by omega), hl]
      congr 1; omega
theorem zcells_one (Z : Nat → ZT) (n : Nat) : ∀ u ∈ zcells Z n, u.oneCell' = true := by
  induction n with
  | zero => intro u hu; cases hu
  | succ n ih =>
    intro u hu
    rcases List.mem_append.1 hu with h | h
    · exact ih u h
    · simp only [List.mem_cons, List.not_mem_nil, or_false] at h
      rcases h with rfl | rfl | rfl | rfl <;> rfl
theorem zl_cells {w : World} {ad : Addr} {n : Nat} {Z : Nat → ZT} (h : ZL w (some ad) n Z) : ∀ j u, (zcells Z n)[j]? = some u → w.cell? (ad.add j) = some u := fun j u hu => by
  have hj : j < n * 4 := by have := (List.getElem?_eq_some_iff.1 hu).1; rw [zcells_length] at this; exact this
  have e : j = j / 4 * 4 + j % 4 := by omega
  have hi : j / 4 < n := by omega
  obtain ⟨x, hx, h0, h1, h2, h3⟩ := h (j / 4) hi
  cases hx
  have hr : j % 4 < 4 := by omega
  rw [e, zcells_get Z n _ _ hi hr] at hu
  rw [e]
  generalize j % 4 = r at *
  match r, hr with
  | 0, _ => cases hu; simpa using h0
  | 1, _ => cases hu; exact h1
  | 2, _ => cases hu; exact h2
  | 3, _ => cases hu; exact h3
theorem zl_of_cells {w : World} {G n : Nat} {Z : Nat → ZT} (xs : List Value) (h : ∀ j, j < n * 4 → w.cell? ⟨G, j, none⟩ = xs[j]?) (hx : ∀ i r, i < n → r < 4 → xs[i * 4 + r]? = (four (Z i))[r]?) : ZL w (some ⟨G, 0, none⟩) n Z := fun i hi => by
  have g : ∀ r, r < 4 → w.cell? ((⟨G, 0, none⟩ : Addr).add (i * 4 + r)) = (four (Z i))[r]? := fun r hr => by rw [own_add, h _ (by omega), hx i r hi hr]
  exact ⟨_, rfl, g 0 (by omega), g 1 (by omega), g 2 (by omega), g 3 (by omega)⟩
def zf (Z0 Z1 : Nat → ZT) (i : Nat) : ZT := if i < 2 then Z0 i else Z1 (i - 2)
theorem zf_get (Z0 Z1 : Nat → ZT) (n i r : Nat) (hi : i < 2 + n) (hr : r < 4) : ([] ++ zcells Z0 2 ++ zcells Z1 n)[i * 4 + r]? = (four (zf Z0 Z1 i))[r]? := by
  rw [List.nil_append]
  have hl := zcells_length Z0 2
  by_cases h : i < 2
  · rw [List.getElem?_append_left (by omega), zcells_get Z0 2 i r h hr]; unfold zf; rw [if_pos h]
  · rw [List.getElem?_append_right (by omega), hl, show i * 4 + r - 2 * 4 = (i - 2) * 4 + r by omega, zcells_get Z1 n (i - 2) r (by omega) hr]; unfold zf; rw [if_neg h]
set_option maxRecDepth 100000 in
set_option maxHeartbeats 4000000 in
theorem bytes7_c (A0 A1 : Option Addr) (n c0 n1 c1 : Nat) (Z0 Z1 : Nat → ZT) (w : World) (h0 : n ≤ maxLen) (h1 : n1 ≤ maxLen) (r0 : ZL w A0 n Z0) (r1 : ZL w A1 n1 Z1) :
    Calls Try.prog 7 #[.slice A0 n c0, .slice A1 n1 c1] w (SomeB w) := by
  unfold maxLen at h0 h1
  have R0 := Lib.hid r0; have R1 := Lib.hid r1
  clear r0 r1
  go_enter Try.func7, Try.ntmps7
  go_wp2
  any_goals (go_ret; exact ⟨_, rfl, rfl⟩)
  go_loop [5, 6] (fun s i => ∃ k m : Nat, k ≤ n ∧ m ≤ 1048576 ∧ s = .int .i64 m ∧ i = .int .i64 k) (fun _ i => n - (intOf i).toNat)
  case atStart => exact ⟨0, n, by omega, by omega, rfl, rfl⟩
  case round =>
    obtain ⟨k, m, hk, hm, rfl, rfl⟩ := hrel
    by_cases hlt : k < n
    · obtain ⟨x, rfl, d0, d1, d2, d3⟩ := R0.out.at_ k hlt
      have i0 : (0 : Int) ≤ k := by omega
      have i1 : (k : Int) < n := by omega
      by_cases hb : 1048576 < (Z0 k).tx.size
      · go_wp2
        go_ret
        exact ⟨_, rfl, rfl⟩
      · by_cases hb2 : 1048576 < m + (Z0 k).tx.size
        · go_wp2
          go_ret
          exact ⟨_, rfl, rfl⟩
        · go_wp2
          go_round
          case rel => exact ⟨k + 1, m + (Z0 k).tx.size, by omega, by omega, by go_num, by go_num⟩
          case measure => simp [intOf]; omega
    · by_cases hb1 : 1048576 < n1
      · go_wp2
        go_ret
        exact ⟨_, rfl, rfl⟩
      · by_cases hb2 : 1048576 < m + n1
        · go_wp2
          go_ret
          exact ⟨_, rfl, rfl⟩
        · go_wp2
          go_loop [5, 7] (fun s i => ∃ k m : Nat, k ≤ n1 ∧ m ≤ 1048576 ∧ s = .int .i64 m ∧ i = .int .i64 k) (fun _ i => n1 - (intOf i).toNat)
          case atStart => exact ⟨0, m + n1, by omega, by omega, by go_num, rfl⟩
          case round =>
            obtain ⟨k2, m2, hk2, hm2, rfl, rfl⟩ := hrel
            by_cases hlt2 : k2 < n1
            · obtain ⟨x, rfl, d0, d1, d2, d3⟩ := R1.out.at_ k2 hlt2
              have i0 : (0 : Int) ≤ k2 := by omega
              have i1 : (k2 : Int) < n1 := by omega
              by_cases hb : 1048576 < (Z1 k2).tx.size
              · go_wp2
                go_ret
                exact ⟨_, rfl, rfl⟩
              · by_cases hb2 : 1048576 < m2 + (Z1 k2).tx.size
                · go_wp2
                  go_ret
                  exact ⟨_, rfl, rfl⟩
                · go_wp2
                  go_round
                  case rel => exact ⟨k2 + 1, m2 + (Z1 k2).tx.size, by omega, by omega, by go_num, by go_num⟩
                  case measure => simp [intOf]; omega
            · go_wp2
              go_ret
              exact ⟨_, rfl, rfl⟩
set_option maxRecDepth 100000 in
set_option maxHeartbeats 4000000 in
theorem cmp10_c (A : Option Addr) (T o n c : Nat) (F : Nat → Tk) (w : World) (hA : 0 < n → A = some ⟨T, o, none⟩) (hA0 : A = none → c = 0) (hc : n ≤ c) (hm : c ≤ 9223372036854775807) (h : TokB w T o n F) :
    Calls Try.prog 10 #[.slice A n c] w (CmpP T o n c (cv n F) (cn n F) w) := by
  have C := Lib.hid (cmp_c A T o n c F w hA hA0 hc hm h)
  clear h hA hA0
  go_enter Try.func10, Try.ntmps10
  go_wp2_with (go_at_call 24; (with_reducible refine C.out.mono ?_); rintro e w' ⟨A', q, rfl, h1, h2, rfl⟩; replace h1 := Lib.hid h1; replace h2 := Lib.hid h2)
  go_ret2
  exact ⟨A', q, rfl, h1.out, h2.out, rfl⟩
theorem clone9_c (A : Option Addr) (n c : Nat) (Z : Nat → ZT) (w : World) (hn : n ≤ 1048576) (h0 : A = none → n = 0 ∧ c = 0) (h : ZL w A n Z) : Calls Try.prog 9 #[.slice A n c] w (CloneP w A n Z) := by
  cases A with
  | none => obtain ⟨rfl, rfl⟩ := h0 rfl; exact clone9_nil Z w
  | some y => exact clone9_some y n c Z w hn h
theorem info64 : (Try.prog.info? 64).map (fun i => (i.zero, i.size, i.bytes)) = some (some (.agg #[.int .u8 0, .string ⟨#[]⟩, .int .u8 0, .int .i32 0]), 4, 32) := by kernel_rfl
theorem own_made (W : World) (zs : Array Value) (n : Nat) (t : TypeId) (hn : n ≤ maxLen) : (W.alloc (.cells (madeCells zs (n * 4)) t)).ownsRow W.heap.size t 4 (.slice (some ⟨W.heap.size, 0, none⟩) 0 n) 0 [] :=
  ⟨rfl, .inr ⟨W.heap.size, n, madeCells zs (n * 4), rfl, Nat.le_refl _, heap_alloc_new W _, Nat.zero_le _, hn, size_madeCells _ _, by simp⟩⟩
set_option maxRecDepth 100000 in
set_option maxHeartbeats 4000000 in
theorem mainS (A0 A1 : Option Addr) (n c0 n1 c1 : Nat) (Z0 Z1 : Nat → ZT) (w : World) (m0 : n ≤ maxLen) (m1 : n1 ≤ maxLen) (mc : n ≤ c0) (nil1 : A1 = none → n1 = 0 ∧ c1 = 0) (r0 : ZL w A0 n Z0) (r1 : ZL w A1 n1 Z1) (s0 : ∀ i, i < n → (Z0 i).tx.size ≤ maxLen) (s1 : ∀ i, i < n1 → (Z1 i).tx.size ≤ maxLen) (h : n < 2) :
    Calls Try.prog 3 #[.slice A0 n c0, .slice A1 n1 c1] w fun e w' => e = .returned (.bool true) ∧ Below w.heap.size w w' := by
  have C7 := Lib.hid (bytes7_c A0 A1 n c0 n1 c1 Z0 Z1 w m0 m1 r0 r1)
  have C8a := Lib.hid (zsize8_c A0 n c0 Z0 w r0 m0 s0)
  have C8b := Lib.hid (zsize8_c A1 n1 c1 Z1 w r1 m1 s1)
  have R0 := Lib.hid r0; have R1 := Lib.hid r1; have HN := Lib.hid nil1
  clear r0 r1 nil1 s0 s1
  unfold maxLen at m0 m1
  go_enter Try.func3, Try.ntmps3
  go_wp2_with (first | (go_at_call 7; (with_reducible refine C7.out.mono ?_); rintro e w' ⟨b, rfl, rfl⟩; cases b) | (go_at_call 8; (with_reducible refine C8a.out.mono ?_); rintro e w' ⟨x, rfl, x0, x1, x2, rfl⟩; replace x2 := Lib.hid x2) | (go_at_call 8; (with_reducible refine C8b.out.mono ?_); rintro e w' ⟨y, rfl, y0, y1, y2, rfl⟩; replace y2 := Lib.hid y2))
  all_goals (go_ret; exact ⟨rfl, Below.refl _ _⟩)
set_option maxRecDepth 100000 in
set_option maxHeartbeats 4000000 in
theorem main (A0 A1 : Option Addr) (n c0 n1 c1 : Nat) (Z0 Z1 : Nat → ZT) (w : World) (m0 : n ≤ maxLen) (m1 : n1 ≤ maxLen) (mc : n ≤ c0) (nil1 : A1 = none → n1 = 0 ∧ c1 = 0) (r0 : ZL w A0 n Z0) (r1 : ZL w A1 n1 Z1) (s0 : ∀ i, i < n → (Z0 i).tx.size ≤ maxLen) (s1 : ∀ i, i < n1 → (Z1 i).tx.size ≤ maxLen) (h : 2 ≤ n) :
    Calls Try.prog 3 #[.slice A0 n c0, .slice A1 n1 c1] w fun e w' => e = .returned (.bool true) ∧ Below w.heap.size w w' := by
  have C7 := Lib.hid (bytes7_c A0 A1 n c0 n1 c1 Z0 Z1 w m0 m1 r0 r1)
  have C8a := Lib.hid (zsize8_c A0 n c0 Z0 w r0 m0 s0)
  have C8b := Lib.hid (zsize8_c A1 n1 c1 Z1 w r1 m1 s1)
  have R0 := Lib.hid r0; have R1 := Lib.hid r1; have HN := Lib.hid nil1
  clear r0 r1 nil1 s0 s1
  unfold maxLen at m0 m1
  obtain ⟨xa, ha, -⟩ := R0.out 0 (by omega)
  subst ha
  go_enter Try.func3, Try.ntmps3
  go_upto_region 7 with (first | (go_at_call 7; (with_reducible refine C7.out.mono ?_); rintro e w' ⟨b, rfl, rfl⟩; cases b) | (go_at_call 8; (with_reducible refine C8a.out.mono ?_); rintro e w' ⟨x, rfl, x0, x1, x2, rfl⟩; replace x2 := Lib.hid x2) | (go_at_call 8; (with_reducible refine C8b.out.mono ?_); rintro e w' ⟨y, rfl, y0, y1, y2, rfl⟩; replace y2 := Lib.hid y2))
  any_goals (go_ret; exact ⟨rfl, Below.refl _ _⟩)
  have hn0 : n ≤ 16384 := x2.out (by omega)
  have hn1 : n1 ≤ 16384 := y2.out (by omega)
  clear x2 y2 C7 C8a C8b
  have C9 := Lib.hid (clone9_some xa n c0 Z0 w (by omega) R0.out)
  go_upto_region 8 with (go_at_call 9; (with_reducible refine C9.out.mono ?_); rintro e w1 ⟨B0, rfl, hB0, hB0', zl0, hb⟩; replace zl0 := Lib.hid zl0; replace hb := Lib.hid hb)
  clear C9
  cases B0 with
  | none => exact absurd (hB0.1 rfl) (by simp)
  | some p0 =>
  obtain ⟨T0, rfl, hT0⟩ := hB0' p0 rfl
  clear hB0 hB0'
  have C9 := Lib.hid (clone9_c A1 n1 c1 Z1 w1 (by omega) HN.out (R1.out.after hb.out))
  go_upto_region 10 with (go_at_call 9; (with_reducible refine C9.out.mono ?_); rintro e w2 ⟨B1, rfl, hB1, hB1', zl1, hb2⟩; replace zl0 := Lib.hid (zl0.out.after hb2); replace zl1 := Lib.hid zl1; have hs2 := hb2.size; replace hb := Lib.hid (hb.out.trans (hb2.mono hb.out.size)); clear hb2)
  clear C9
  obtain ⟨i0, hi, hz0, hz1, hz2⟩ := info_parts info64
  have hmk : ∀ W : World, (Instr.makeSlice 22 (.int .i64 0) (.int .i64 (2 + (n1 : Int)))).run Try.prog W = .ok (.slice (some ⟨W.heap.size, 0, none⟩) 0 (2 + n1)) (W.alloc (.cells (madeCells (Value.cells (.agg #[.int .u8 0, .string ⟨#[]⟩, .int .u8 0, .int .i32 0])) ((2 + n1) * 4)) 64)) := fun W => by
    have := run_make (P := Try.prog) W 22 64 i0 _ Try.underlying22 hi hz0 .i64 .i64 0 (2 + (n1 : Int)) (by omega) (by omega) (by rw [hz2]; omega) (by omega)
    rw [hz1] at this
    rw [this]
    have e : (2 + (n1 : Int)).toNat = 2 + n1 := by omega
    rw [e]; rfl
  go_upto_region 11 with (fail)
  clear hmk
  refine wp_gen (fun W3 hW => ?_)
  have hown : Hid (W3.ownsRow w2.heap.size 64 4 (.slice (some ⟨w2.heap.size, 0, none⟩) 0 (2 + n1)) 0 []) := Lib.hid (by rw [hW]; exact own_made w2 _ _ _ (by unfold maxLen; omega))
  have hbG : Hid (Below w2.heap.size w2 W3) := Lib.hid (by rw [hW]; exact ba _ _)
  have hG : w2.heap.size < W3.heap.size := by rw [hW]; simp
  clear hW
  have hT0l : T0 < w2.heap.size := by
    obtain ⟨x, hx, h0, -⟩ := zl0.out 0 (by omega)
    cases hx
    have := block_lt_of_cell h0
    rw [own_add] at this
    exact this
  generalize hGe : w2.heap.size = G at *
  replace hGe := Lib.hid hGe
  go_upto_region 12 with (at_builtin; refine wpList_append_fits_any _ rfl _ _ 22 rfl G 64 i0 4 Try.underlying22 hi hz1 G 0 (2 + n1) [] rfl hown.out (some ⟨T0, 0, none⟩) 2 n (zcells Z0 2) rfl (zcells_length Z0 2) (fun h => by cases h) (fun ad h => by cases h; exact zl_cells ((zl0.out.take (by omega)).after (by rw [hGe.out]; exact hbG.out))) (zcells_one Z0 2) (by omega) ?_; intro W4 hown4 hg4; replace hbG := Lib.hid (hbG.out.grown hg4 (by omega) (fun k hk => by cases hk; exact Nat.le_refl _)); have hG4 := hg4.size; clear hg4; replace hown := Lib.hid hown4; clear hown4)
  have hown2 : Hid (W4.ownsRow G 64 4 (.slice (some ⟨G, 0, none⟩) 2 (2 + n1)) 2 ([] ++ zcells Z0 2)) := hown
  clear hown
  replace hB1 := Lib.hid hB1; replace hB1' := Lib.hid hB1'
  go_upto_region 13 with (at_builtin; refine wpList_append_fits_any _ rfl _ _ 22 rfl G 64 i0 4 Try.underlying22 hi hz1 G 2 (2 + n1) ([] ++ zcells Z0 2) rfl hown2.out B1 n1 n1 (zcells Z1 n1) rfl (zcells_length Z1 n1) (fun h => by have := (HN.out (hB1.out.1 h)).1; exact ⟨this, this⟩) (fun ad h => by subst h; exact zl_cells (zl1.out.after (by rw [hGe.out]; exact hbG.out))) (zcells_one Z1 n1) (by omega) ?_; intro W5 hown5 hg5; replace hbG := Lib.hid (hbG.out.grown hg5 (by omega) (fun k hk => by cases hk; exact Nat.le_refl _)); have hG5 := hg5.size; clear hg5; replace hown5 := Lib.hid hown5)
  clear hown2
  have zf5 : Hid (ZL W5 (some ⟨G, 0, none⟩) (2 + n1) (zf Z0 Z1)) := Lib.hid (zl_of_cells _ (fun j hj => hown5.out.cellAt j hj) (fun i r hi hr => zf_get Z0 Z1 n1 i r hi hr))
  clear hown5
  have zl5 : Hid (ZL W5 (some ⟨T0, 0, none⟩) 2 Z0) := Lib.hid ((zl0.out.take (by omega)).after (by rw [hGe.out]; exact hbG.out))
  have hb5 : Hid (Below w.heap.size w W5) := Lib.hid (hb.out.trans (hbG.out.mono (by have := hb.out.size; rw [hGe.out] at this; exact this)))
  clear hbG hb zl0 zl1 hi hz0 hz1 hz2
  have e2 := cv_two (F := zF Z0) (G := zF (zf Z0 Z1)) (n := 2) (m := 2 + n1) (Nat.le_refl _) (by omega) rfl rfl
  have hm2 := cn_le 2 (zF Z0)
  have E2 := Lib.hid e2
  clear e2
  have C11 := Lib.hid (tok11_some ⟨T0, 0, none⟩ 2 n Z0 W5 (by omega) zl5.out)
  go_upto_region 14 with (first | (go_at_call 11; (with_reducible refine C11.out.mono ?_); rintro e W6 ⟨A, T, rfl, g1, g2, g3, g4, htk, hb6⟩; have C10 := Lib.hid (cmp10_c A T 0 2 2 (zF Z0) W6 g1 (fun h => absurd (g2 h) (by omega)) (Nat.le_refl _) (by omega) htk); replace zf5 := Lib.hid (zf5.out.after hb6); replace hb5 := Lib.hid (hb5.out.trans (hb6.mono hb5.out.size)); clear g1 g2 g4 htk hb6) | (go_at_call 10; (with_reducible refine C10.out.mono ?_); rintro e W7 ⟨A', q, rfl, -, -, rfl⟩; replace zf5 := Lib.hid (zf5.out.after (bdN (Below.refl _ _) q)); replace hb5 := Lib.hid (bdN hb5.out q)))
  clear C11 C10
  have C11 := Lib.hid (tok11_some ⟨G, 0, none⟩ (2 + n1) (2 + n1) (zf Z0 Z1) (W6.drewN q) (by omega) zf5.out)
  go_wp2_with (first | (go_at_call 11; (with_reducible refine C11.out.mono ?_); rintro e W8 ⟨A2, T2, rfl, g1, g2, g3, g4, htk, hb8⟩; have C10 := Lib.hid (cmp10_c A2 T2 0 (2 + n1) (2 + n1) (zF (zf Z0 Z1)) W8 g1 (fun h => absurd (g2 h) (by omega)) (Nat.le_refl _) (by omega) htk); rw [← E2.out.1, ← E2.out.2] at C10; replace hb5 := Lib.hid (hb5.out.trans (hb8.mono hb5.out.size)); clear g1 g2 g4 htk hb8) | (go_at_call 10; (with_reducible refine C10.out.mono ?_); rintro e W9 ⟨A3, q', rfl, -, -, rfl⟩; replace hb5 := Lib.hid (bdN hb5.out q')))
  go_ret
  refine ⟨?_, hb5.out⟩
  generalize cn 2 (zF Z0) = m at *
  have hq : ((2 : Int) - ((2 - m : Nat) : Int) == 2 + (n1 : Int) - ((2 + n1 - m : Nat) : Int)) = true := by simp; omega
  show Ending.returned (.bool ((2 : Int) - ((2 - m : Nat) : Int) == 2 + (n1 : Int) - ((2 + n1 - m : Nat) : Int))) = _
  rw [hq]
def zOf (g : Nat → Nat → Value) (i : Nat) : ZT := ⟨intOf (g i 0), strV (g i 1), intOf (g i 2), intOf (g i 3)⟩
theorem argT_zl {w : World} {a : Option Addr} {n c : Nat} {g : Nat → Nat → Value} (h : ArgT [.int .u8, .str, .int .u8, .int .i32] w a n c g) : ZL w a n (zOf g) ∧ ∀ i, i < n → (zOf g i).tx.size ≤ maxLen := by
  refine ⟨fun i hi => ?_, fun i hi => ?_⟩
  · obtain ⟨x, e, hx⟩ := h.row i hi
    obtain ⟨h0, v0, e0, -⟩ := hx 0 _ rfl
    obtain ⟨h1, v1, e1, -⟩ := hx 1 _ rfl
    obtain ⟨h2, v2, e2, -⟩ := hx 2 _ rfl
    obtain ⟨h3, v3, e3, -⟩ := hx 3 _ rfl
    refine ⟨x, e, ?_, ?_, ?_, ?_⟩
    · rw [show x.add (i * 4) = x.add (i * [FK.int .u8, .str, .int .u8, .int .i32].length + 0) from rfl, h0]; unfold zOf; rw [e0]; rfl
    · rw [show x.add (i * 4 + 1) = x.add (i * [FK.int .u8, .str, .int .u8, .int .i32].length + 1) from rfl, h1]; unfold zOf; rw [e1]; rfl
    · rw [show x.add (i * 4 + 2) = x.add (i * [FK.int .u8, .str, .int .u8, .int .i32].length + 2) from rfl, h2]; unfold zOf; rw [e2]; rfl
    · rw [show x.add (i * 4 + 3) = x.add (i * [FK.int .u8, .str, .int .u8, .int .i32].length + 3) from rfl, h3]; unfold zOf; rw [e3]; rfl
  · obtain ⟨x, e, hx⟩ := h.row i hi
    obtain ⟨h1, v1, e1, hs⟩ := hx 1 _ rfl
    unfold zOf
    rw [e1]; exact hs
theorem walk (a0 : Option Addr) (n0 : Nat) (c0 : Nat) (g0 : Nat → Nat → Value) (a1 : Option Addr) (n1 : Nat) (c1 : Nat) (g1 : Nat → Nat → Value) (w : World) (w0 : ArgT [.int .u8, .str, .int .u8, .int .i32] w a0 n0 c0 g0) (w1 : ArgT [.int .u8, .str, .int .u8, .int .i32] w a1 n1 c1 g1) :
    Calls Try.prog 3 #[.slice a0 n0 c0, .slice a1 n1 c1] w fun e w' => e = .returned (.bool true) ∧ Below w.heap.size w w' := by
  obtain ⟨r0, s0⟩ := argT_zl w0
  obtain ⟨r1, s1⟩ := argT_zl w1
  by_cases h : n0 < 2
  · exact mainS a0 a1 n0 c0 n1 c1 _ _ w (Nat.le_trans w0.le w0.max) (Nat.le_trans w1.le w1.max) w0.le w1.nil r0 r1 s0 s1 h
  · exact main a0 a1 n0 c0 n1 c1 _ _ w (Nat.le_trans w0.le w0.max) (Nat.le_trans w1.le w1.max) w0.le w1.nil r0 r1 s0 s1 (by omega)
theorem own : ownKnob Try.prog.godebug = none := by kernel_rfl
theorem laidOut : laidOutB Try.prog = true := by kernel_rfl
set_option maxRecDepth 100000 in
theorem lifted (os : Os) (started : os.Started) (H : Type) (enc : TypeId × Value → H) :
    ReturnsInHanded {} Try.checked os 3 .any (Rows.fnScanMediaComparisonDecidesOnItsFirstTwoTokensSpec.pre6 enc Try.prog Try.f3 Rows.fnScanMediaComparisonDecidesOnItsFirstTwoTokensRow.domain false) (Rows.fnScanMediaComparisonDecidesOnItsFirstTwoTokensSpec.post enc Try.prog Try.f3 false true false false) := by
  refine returnsInHanded_of_change (C := Try.checked) own started (by kernel_rfl) Try.func3
    (ChangeSpec.witness6 (enc := enc) (C := Try.checked) false ⟨#[], #[.slice none 0 0, .slice none 0 0], []⟩ 8 (by kernel_rfl) (by kernel_rfl) (by kernel_rfl) (by kernel_rfl)) ?_
  intro W base args ds gs before hval0 hW hcnd _
  have hval : ∀ (j : Nat) t v, Try.f3.params[j]? = some t → args[j]? = some v → Value.okWide Try.prog W .any base t v := hval0
  have hW' := hW
  obtain ⟨p, q, hA0, hV, rfl, hfz, hnd⟩ := hW
  have hA : DataW.TrodAll enc Try.prog W 0 (fun _ => true) true Try.f3.params.toList args.toList ds p := hA0
  rw [Try.params3] at hA hval
  obtain ⟨v0, vs0, d0, ds0, p0, q0, hargs, rfl, rfl, h0, r0⟩ := trodAll_cons hA
  obtain ⟨v1, vs1, d1, ds1, p1, q1, rfl, rfl, rfl, h1, r1⟩ := trodAll_cons r0
  obtain ⟨rfl, rfl, rfl⟩ := trodAll_nil r1
  obtain rfl : args = #[v0, v1] := by cases args; simp_all
  obtain ⟨rfl, rfl⟩ := trodVars_none hV
  have k0 := h0
  have lt0 : ∀ x ∈ p0, x.block < W.heap.size := by obtain ⟨m, hm⟩ := k0; exact DataW.trod_lt m _ _ _ hm
  obtain ⟨a0, n0, c0, g0, rfl, w0⟩ := arg_structs [.int .u8, .str, .int .u8, .int .i32] Try.underlying22 Try.underlying64 (by kernel_rfl) (by kernel_rfl) rfl (by
    intro j f k hf hk
    match j with
    | 0 => cases hf; cases hk; exact Try.underlying5
    | 1 => cases hf; cases hk; exact Try.underlying9
    | 2 => cases hf; cases hk; exact Try.underlying5
    | 3 => cases hf; cases hk; exact Try.underlying21
    | j + 4 => simp at hk) (hval 0 22 v0 rfl rfl) h0
  have k1 := h1
  have lt1 : ∀ x ∈ p1, x.block < W.heap.size := by obtain ⟨m, hm⟩ := k1; exact DataW.trod_lt m _ _ _ hm
  obtain ⟨a1, n1, c1, g1, rfl, w1⟩ := arg_structs [.int .u8, .str, .int .u8, .int .i32] Try.underlying22 Try.underlying64 (by kernel_rfl) (by kernel_rfl) rfl (by
    intro j f k hf hk
    match j with
    | 0 => cases hf; cases hk; exact Try.underlying5
    | 1 => cases hf; cases hk; exact Try.underlying9
    | 2 => cases hf; cases hk; exact Try.underlying5
    | 3 => cases hf; cases hk; exact Try.underlying21
    | j + 4 => simp at hk) (hval 1 22 v1 rfl rfl) h1
  clear hA0 hval0
  refine (walk a0 n0 c0 g0 a1 n1 c1 g1 W w0 w1).mono fun e W' ⟨he, bel⟩ => ?_
  subst he
  exact ⟨_, rfl, _, _, _, [], _, [], hW', trodAll_mk1 (shut_bool Try.underlying4 _), (trodAll_cons_mk (Below.trod laidOut (by kernel_rfl) (of_decide_eq_true (by kernel_rfl)) k0 bel lt0) (trodAll_cons_mk (Below.trod laidOut (by kernel_rfl) (of_decide_eq_true (by kernel_rfl)) k1 bel lt1) trodAll_mk0)), rfl, bel.frame _, fun h => by cases h⟩

theorem over : Rows.fnScanMediaComparisonDecidesOnItsFirstTwoTokensRow.holds Try.pinned (OpenSpec.ofChange Rows.fnScanMediaComparisonDecidesOnItsFirstTwoTokensSpec) :=
  OpenClaim.holds_of_wide 3 Try.f3 rfl rfl rfl rfl rfl rfl rfl ⟨rfl, rfl, rfl, rfl, rfl⟩ rfl rfl rfl rfl rfl (by kernel_rfl) Try.func3 (by kernel_rfl)
    (of_decide_eq_true (by kernel_rfl)) (by unfold Func.isWrapper; first | (rw [if_pos (by decide +kernel)]; kernel_rfl) | (rw [if_neg (by decide +kernel)]; exact ⟨rfl, rfl⟩))
    (fun os started H enc _ => lifted os started H enc)

theorem proved : Rows.FnScanMediaComparisonDecidesOnItsFirstTwoTokensSaid :=
  over
#print axioms proved
end Go.Proofs.Ytpnfllnnbinbjaa.fnScanMediaComparisonDecidesOnItsFirstTwoTokens
