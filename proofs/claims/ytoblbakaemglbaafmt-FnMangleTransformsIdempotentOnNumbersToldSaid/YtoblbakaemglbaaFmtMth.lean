/- FnMangleTransformsIdempotentOnNumbers: mangleTransforms walked, matrix3d. -/
import Derived.Test.YtoblbakaemglbaaFmtMtf
import Derived.Deep.DeepCutAuto
import Derived.LoopN
set_option linter.unusedVariables false
set_option linter.unusedSimpArgs false
namespace Go.Proofs.YtoblbakaemglbaaFmt
open Go.RowKit
/-- the bits of the arguments that are zero, and of those that are one -/
def mk (G : Nat → Tq) (o : Nat) : Nat → Int
  | 0 => 0
  | i + 1 => if isZ (G (o + 2 * i)) = true then bits .or .u32 (mk G o i) (2 ^ i % 4294967296) else if isO (G (o + 2 * i)) = true then bits .or .u32 (mk G o i) (65536 * 2 ^ i % 4294967296) else mk G o i
def mbit (G : Nat → Tq) (o : Nat) : Bool := bits .and .u32 (mk G o 16) 2147515358 == 2147515358
set_option maxRecDepth 100000 in
set_option maxHeartbeats 8000000 in
theorem mt_12 (low : ByteArray → ByteArray) (T C A N : Nat) (nm : ByteArray) (G : Nat → Tq) (o n m : Nat) (p : Option Addr) (w : World) (h : MS w T C A N nm G o n) (hN : N ≤ 8191) (alt : ∀ j, j < n → (G (o + j)).kd = if j % 2 = 0 then 30 else 10) (hn : n = 2 * m + 1) (hL : Low low w) (hnm : nm.size ≤ 1048576) (hlow : low nm = ⟨#[109, 97, 116, 114, 105, 120, 51, 100]⟩) : Calls Tryf.prog 12 #[.pointer p, .slice (some ⟨T, 0, none⟩) 1 1] w (MtS T C A N (arm (mbit G o) 12 ⟨nm, G, o, n⟩) w) := by
  have hle := h.le
  have c5 : w.cell? ⟨T, 5, none⟩ = some (.int .u8 27) := by simpa using h.tok 5 _ rfl
  have c0 : w.cell? ⟨T, 0, none⟩ = some (.pointer (some ⟨C, 0, none⟩)) := by simpa using h.tok 0 _ rfl
  have c1 : w.cell? ⟨T, 1, none⟩ = some (.string nm) := by simpa using h.tok 1 _ rfl
  have cc := h.ch
  have C13 := Lib.hid (comma_c A (o * 7) m (N - o : Nat) w (by omega) (fun k hk => by
    have h1 := h.arr (o + (2 * k + 1)) (by omega) 5 _ rfl
    have h2 := alt (2 * k + 1) (by omega)
    rw [if_neg (by omega)] at h2
    rw [h2, Nat.add_mul] at h1
    exact h1))
  have C14 := Lib.hid (hL nm w hnm (Below.refl _ _))
  rw [hlow] at C14
  rw [← hn] at C13
  have n1 : 1 ≤ n := by omega
  have o30 : Hid (∀ i, i < n → i % 2 = 0 → w.cell? ⟨A, o * 7 + i * 7 + 5, none⟩ = some (.int .u8 30)) := Lib.hid (fun i hi he => by
    have h1 := h.arr (o + i) (by omega) 5 _ rfl
    have h2 := alt i hi
    rw [if_pos he] at h2
    rw [h2, Nat.add_mul] at h1
    exact h1)
  replace hn := Lib.hid hn
  replace h := Lib.hid h
  replace alt := Lib.hid alt
  clear hnm hlow hL
  go_enter Tryf.func12, Tryf.ntmps12
  go_wp2
  refine wp_loop_rounds 2 ?_
  rw [rounds_succ]
  go_upto_region 10 with (first | (go_at_call 13; (with_reducible refine C13.out.mono ?_); rintro e w2 ⟨rfl, rfl⟩) | (go_at_call 14; (with_reducible refine C14.out.mono ?_); rintro e w2 ⟨rfl, b2⟩; replace b2 := Lib.hid b2))
  clear C13 C14 c5 c1 c0 cc
  have M := Lib.hid (h.out.after b2.out)
  have O : Hid (O3 T C A w w2) := Lib.hid (Only.of b2.out)
  clear h b2 o30
  obtain ⟨wc, rfl⟩ : ∃ x, x = w2 := ⟨_, rfl⟩
  go_upto_region 89 with fail
  by_cases hn5 : n = 31
  · subst hn5
    go_upto_region 92 with fail
    obtain ⟨v31, hv31⟩ : ∃ y : Int, ((31 : Nat) : Int) = y := ⟨_, rfl⟩
    rw [hv31]
    clear hv31
    go_loopw [21, 22] (fun u v wr => ∃ (i : Nat) (x : Int), i ≤ 16 ∧ u = .int .u32 x ∧ v = .int .i64 i ∧ mk G o i = x ∧ Below wc.heap.size wc wr) (fun _ v _ => 16 - (intOf v).toNat)
    case atStart => exact ⟨0, 0, by omega, rfl, rfl, rfl, Below.refl _ _⟩
    case round =>
      obtain ⟨i, x, hi, rfl, rfl, hx, hB⟩ := hrel
      obtain ⟨wx, rfl⟩ : ∃ y, y = wr := ⟨_, rfl⟩
      replace hx := Lib.hid hx
      by_cases hlt : i < 16
      · have k0 : (0 : Int) ≤ i := by omega
        have k1 : (i : Int) < 16 := by omega
        have it : ((i : Int) * 2).toNat = 2 * i := by omega
        have i31 : (i : Int) * 2 < 31 := by omega
        have hM := Lib.hid (M.out.after hB)
        have s1 : Hid (Seg wx A (o * 7 + 2 * i * 7) (G (o + 2 * i)).L) := Lib.hid (by
          have h1 := hM.out.arr (o + 2 * i) (by omega)
          rw [Nat.add_mul] at h1
          exact h1)
        replace hB := Lib.hid hB
        cases hZ : isZ (G (o + 2 * i)) with
        | true =>
          have ZZ : Hid (∀ V, Calls Tryf.prog 15 #[.agg (G (o + 2 * i)).L.toArray] V (Gv (.bool true) V)) := Lib.hid (fun V => by have := isZ_c (G (o + 2 * i)) V; rw [hZ] at this; exact this)
          go_upto_region 95 with ((with_reducible refine wpList_at (o := ⟨some 357, .load 79 (.tmp 356), _, _, _, _⟩) ?_); refine wpList_load_seg (op := ⟨some 357, .load 79 (.tmp 356), _, _, _, _⟩) rfl 79 (.tmp 356) rfl A (o * 7 + 2 * i * 7) rfl ((G (o + 2 * i)).L) _ Tryf.underlying79 rfl (i79 (G (o + 2 * i))) s1.out ?_)
          refine wp_gen (fun w3 hW => ?_)
          have b3 : Hid (Below wx.heap.size wx w3) := Lib.hid (by rw [hW]; exact ba _ _)
          have hs3 : Seg w3 wx.heap.size 0 (G (o + 2 * i)).L := by rw [hW]; exact Seg.new _ _ _
          have f0 := hs3 0 _ rfl
          have f1 := hs3 1 _ rfl
          have f2 := hs3 2 _ rfl
          have f3 := hs3 3 _ rfl
          have f4 := hs3 4 _ rfl
          have f5 := hs3 5 _ rfl
          have f6 := hs3 6 _ rfl
          simp only [Nat.zero_add] at f0 f1 f2 f3 f4 f5 f6
          have HS := Lib.hid hs3
          clear hW hs3
          go_wp2_with (go_at_call 15; (with_reducible refine (ZZ.out _).mono ?_); rintro e w4 ⟨rfl, b4⟩; replace b4 := Lib.hid b4)
          go_roundw
          case rel => exact ⟨i + 1, _, by omega, rfl, by go_num, by show (if _ then _ else _) = _; rw [if_pos hZ, hx.out], hB.out.trans ((b3.out.trans (b4.out.mono b3.out.size)).mono hB.out.size)⟩
          case measure => simp [intOf]; omega
        | false =>
        cases hO : isO (G (o + 2 * i)) with
        | true =>
          have ZZ : Hid (∀ V, Calls Tryf.prog 15 #[.agg (G (o + 2 * i)).L.toArray] V (Gv (.bool false) V)) := Lib.hid (fun V => by have := isZ_c (G (o + 2 * i)) V; rw [hZ] at this; exact this)
          have ZO : Hid (∀ V, Calls Tryf.prog 17 #[.agg (G (o + 2 * i)).L.toArray] V (Gv (.bool true) V)) := Lib.hid (fun V => by have := isO_c (G (o + 2 * i)) V; rw [hO] at this; exact this)
          go_upto_region 95 with ((with_reducible refine wpList_at (o := ⟨some 357, .load 79 (.tmp 356), _, _, _, _⟩) ?_); refine wpList_load_seg (op := ⟨some 357, .load 79 (.tmp 356), _, _, _, _⟩) rfl 79 (.tmp 356) rfl A (o * 7 + 2 * i * 7) rfl ((G (o + 2 * i)).L) _ Tryf.underlying79 rfl (i79 (G (o + 2 * i))) s1.out ?_)
          refine wp_gen (fun w3 hW => ?_)
          have b3 : Hid (Below wx.heap.size wx w3) := Lib.hid (by rw [hW]; exact ba _ _)
          have hs3 : Seg w3 wx.heap.size 0 (G (o + 2 * i)).L := by rw [hW]; exact Seg.new _ _ _
          have f0 := hs3 0 _ rfl
          have f1 := hs3 1 _ rfl
          have f2 := hs3 2 _ rfl
          have f3 := hs3 3 _ rfl
          have f4 := hs3 4 _ rfl
          have f5 := hs3 5 _ rfl
          have f6 := hs3 6 _ rfl
          simp only [Nat.zero_add] at f0 f1 f2 f3 f4 f5 f6
          have HS := Lib.hid hs3
          clear hW hs3
          go_wp2_with (first | (go_at_call 15; (with_reducible refine (ZZ.out _).mono ?_); rintro e w4 ⟨rfl, b4⟩; replace b4 := Lib.hid b4; have hs3 := HS.out.after b4.out; have f0 := hs3 0 _ rfl; have f1 := hs3 1 _ rfl; have f2 := hs3 2 _ rfl; have f3 := hs3 3 _ rfl; have f4 := hs3 4 _ rfl; have f5 := hs3 5 _ rfl; have f6 := hs3 6 _ rfl; simp only [Nat.zero_add] at f0 f1 f2 f3 f4 f5 f6; clear hs3) | (go_at_call 17; (with_reducible refine (ZO.out _).mono ?_); rintro e w5 ⟨rfl, b5⟩; replace b5 := Lib.hid b5))
          go_roundw
          case rel => exact ⟨i + 1, _, by omega, rfl, by go_num, by show (if _ then _ else if _ then _ else _) = _; rw [if_neg (by rw [hZ]; decide), if_pos hO, hx.out], hB.out.trans ((b3.out.trans ((b4.out.trans (b5.out.mono b4.out.size)).mono b3.out.size)).mono hB.out.size)⟩
          case measure => simp [intOf]; omega
        | false =>
          have ZZ : Hid (∀ V, Calls Tryf.prog 15 #[.agg (G (o + 2 * i)).L.toArray] V (Gv (.bool false) V)) := Lib.hid (fun V => by have := isZ_c (G (o + 2 * i)) V; rw [hZ] at this; exact this)
          have ZO : Hid (∀ V, Calls Tryf.prog 17 #[.agg (G (o + 2 * i)).L.toArray] V (Gv (.bool false) V)) := Lib.hid (fun V => by have := isO_c (G (o + 2 * i)) V; rw [hO] at this; exact this)
          go_upto_region 95 with ((with_reducible refine wpList_at (o := ⟨some 357, .load 79 (.tmp 356), _, _, _, _⟩) ?_); refine wpList_load_seg (op := ⟨some 357, .load 79 (.tmp 356), _, _, _, _⟩) rfl 79 (.tmp 356) rfl A (o * 7 + 2 * i * 7) rfl ((G (o + 2 * i)).L) _ Tryf.underlying79 rfl (i79 (G (o + 2 * i))) s1.out ?_)
          refine wp_gen (fun w3 hW => ?_)
          have b3 : Hid (Below wx.heap.size wx w3) := Lib.hid (by rw [hW]; exact ba _ _)
          have hs3 : Seg w3 wx.heap.size 0 (G (o + 2 * i)).L := by rw [hW]; exact Seg.new _ _ _
          have f0 := hs3 0 _ rfl
          have f1 := hs3 1 _ rfl
          have f2 := hs3 2 _ rfl
          have f3 := hs3 3 _ rfl
          have f4 := hs3 4 _ rfl
          have f5 := hs3 5 _ rfl
          have f6 := hs3 6 _ rfl
          simp only [Nat.zero_add] at f0 f1 f2 f3 f4 f5 f6
          have HS := Lib.hid hs3
          clear hW hs3
          go_wp2_with (first | (go_at_call 15; (with_reducible refine (ZZ.out _).mono ?_); rintro e w4 ⟨rfl, b4⟩; replace b4 := Lib.hid b4; have hs3 := HS.out.after b4.out; have f0 := hs3 0 _ rfl; have f1 := hs3 1 _ rfl; have f2 := hs3 2 _ rfl; have f3 := hs3 3 _ rfl; have f4 := hs3 4 _ rfl; have f5 := hs3 5 _ rfl; have f6 := hs3 6 _ rfl; simp only [Nat.zero_add] at f0 f1 f2 f3 f4 f5 f6; clear hs3) | (go_at_call 17; (with_reducible refine (ZO.out _).mono ?_); rintro e w5 ⟨rfl, b5⟩; replace b5 := Lib.hid b5))
          go_roundw
          case rel => exact ⟨i + 1, _, by omega, rfl, by go_num, by show (if _ then _ else if _ then _ else _) = _; rw [if_neg (by rw [hZ]; decide), if_neg (by rw [hO]; decide), hx.out], hB.out.trans ((b3.out.trans ((b4.out.trans (b5.out.mono b4.out.size)).mono b3.out.size)).mono hB.out.size)⟩
          case measure => simp [intOf]; omega
      · obtain rfl : i = 16 := by omega
        replace hM := Lib.hid (M.out.after hB)
        replace O := Lib.hid (O.out.trans (Only.of hB))
        clear M hB
        have M := hM
        clear hM
        obtain ⟨wc, rfl⟩ : ∃ y, y = wx := ⟨_, rfl⟩
        have hmb : Hid (mbit G o = (bits .and .u32 x 2147515358 == 2147515358)) := Lib.hid (by unfold mbit; rw [hx.out])
        clear hx
        obtain ⟨v16, hv16⟩ : ∃ y : Int, ((16 : Nat) : Int) = y := ⟨_, rfl⟩
        have hv17 : ¬ v16 < 16 := by omega
        cases hbb : (bits .and .u32 x 2147515358 == 2147515358) with
        | false =>
          rw [hbb] at hmb
          go_upto_region 149 with fail
          have k0 : wc.cell? ⟨T, 0, none⟩ = some (.pointer (some ⟨C, 0, none⟩)) := by simpa using M.out.tok 0 _ rfl
          have kc := M.out.ch
          have kle := M.out.le
          have k6 : wc.cell? ⟨A, o * 7 + 6, none⟩ = some (.int .u8 (G o).ws) := M.out.arr o (by omega) 6 _ rfl
          have kf : wc.frozen? ⟨A, o * 7 + 6, none⟩ = false := by obtain ⟨_, -, q⟩ := M.out.ra (o * 7 + 6) (by omega); exact q
          generalize hws : (G o).ws = ws0 at k6
          replace hws := Lib.hid hws
          go_upto_region 152 with fail
          refine wp_gen (fun W9 hW9 => ?_)
          have M9 : Hid (MS W9 T C A N nm (setW G o (bits .and .u8 (G o).ws 254)) o 31) := Lib.hid (by
            rw [hW9, ← hws.out]
            have := M.out.setw (i := o) (v := bits .and .u8 (G o).ws 254) (by omega)
            exact this)
          have O9 : Hid (O3 T C A w W9) := Lib.hid (by rw [hW9]; exact O.out.set _ _ (.inr (.inr rfl)))
          clear hW9 k0 kc k6 kf hws
          have k0 : W9.cell? ⟨T, 0, none⟩ = some (.pointer (some ⟨C, 0, none⟩)) := by simpa using M9.out.tok 0 _ rfl
          generalize hG9 : setW G o (bits .and .u8 (G o).ws 254) = G9 at M9
          have ej : (o + 31 - 1) * 7 + 6 = o * 7 + 210 + 6 := by omega
          have k6 : W9.cell? ⟨A, o * 7 + 210 + 6, none⟩ = some (.int .u8 (G9 (o + 31 - 1)).ws) := by rw [← ej]; exact M9.out.arr (o + 31 - 1) (by omega) 6 _ rfl
          have kf : W9.frozen? ⟨A, o * 7 + 210 + 6, none⟩ = false := by rw [← ej]; obtain ⟨_, -, q⟩ := M9.out.ra ((o + 31 - 1) * 7 + 6) (by omega); exact q
          have hM := Lib.hid (M9.out.setw (i := o + 31 - 1) (v := bits .and .u8 (G9 (o + 31 - 1)).ws 253) (by omega))
          rw [ej] at hM
          generalize hws : (G9 (o + 31 - 1)).ws = ws1 at k6 hM
          replace hws := Lib.hid hws
          replace hG9 := Lib.hid hG9
          replace ej := Lib.hid ej
          go_wp2
          rw [rounds_succ]
          go_wp2
          go_ret
          refine ⟨rfl, ?_, O9.out.set _ _ (.inr (.inr rfl))⟩
          have ha : arm (mbit G o) 12 ⟨nm, G, o, 31⟩ = ⟨nm, G, o, 31⟩ := (by simp [arm, hmb.out])
          rw [ha]
          show MS _ T C A N nm (trm G o 31) o 31
          unfold trm
          rw [hG9.out, hws.out]
          exact hM.out
        | true =>
        rw [hbb] at hmb
        go_upto_region 100 with fail
        clear hv16
        have S0 := Lib.hid (fun (V : World) (x : ByteArray) (hV : MS V T C A N x G o 31) => (by
          have h1 := hV.arr (o + 0) (by omega)
          rw [Nat.add_mul] at h1
          simpa using h1 : Seg V A (o * 7) (G o).L))
        have S10 := Lib.hid (fun (V : World) (x : ByteArray) (hV : MS V T C A N x G o 31) => (by
          have h1 := hV.arr (o + 10) (by omega)
          rw [Nat.add_mul] at h1
          simpa using h1 : Seg V A (o * 7 + 70) (G (o + 10)).L))
        refine QTail.wp_region_inv (IV wc 2 (fun i => ([.slice (some ⟨A, o * 7, none⟩) 31 (N - o), .pointer (some ⟨A, o * 7, none⟩), .agg (G o).L.toArray, .slice (some ⟨A, o * 7, none⟩) 31 (N - o), .pointer (some ⟨A, o * 7 + 70, none⟩), .agg (G (o + 10)).L.toArray] : List Value).getD i undef) (fun k => G (o + ([0, 10] : List Nat).getD k 0))) (by kernel_rfl) (by kernel_rfl) (fun vs => ⟨(Below.refl _ _).drew, (fun i _ h => by cases h), (fun k _ h => by cases h), (fun k k' _ _ _ h => by cases h), (fun k _ h => by cases h)⟩) ?_ ?_
        · refine ⟨?_, ?_, ?_, ?_, ?_, ?_, ?_, ?_, ?_, ?_, trivial⟩
          all_goals intro L vs W' hL hd hI
          · clear hd hL
            replace hI := Lib.hid hI
            simp only [QTail.putA, Nat.reduceAdd, Act.put, List.setIfInBounds_toArray, List.set_cons_succ, List.set_cons_zero]
            go_wp2
            exact hI.out.v (i := 0) (by decide) (Below.refl _ _)
          · have d0 : vs 0 = .slice (some ⟨A, o * 7, none⟩) 31 (N - o) := hI.val 0 (by decide) (hd { on := 0, ground := Ground.data } (by simp) rfl)
            clear hd hL
            replace hI := Lib.hid hI
            simp only [QTail.putA, Nat.reduceAdd, Act.put, List.setIfInBounds_toArray, List.set_cons_succ, List.set_cons_zero]
            go_wp2
            exact hI.out.v (i := 1) (by decide) (Below.refl _ _)
          · have d0 : vs 1 = .pointer (some ⟨A, o * 7, none⟩) := hI.val 1 (by decide) (hd { on := 1, ground := Ground.data } (by simp) rfl)
            clear hd hL
            replace hI := Lib.hid hI
            have MM := Lib.hid (M.out.after hI.out.bel)
            simp only [QTail.putA, Nat.reduceAdd, Act.put, List.setIfInBounds_toArray, List.set_cons_succ, List.set_cons_zero, d0]
            go_wp2_with ((with_reducible refine wpList_at (o := ⟨some 375, .load 79 (.tmp 374), _, _, _, _⟩) ?_); refine wpList_load_seg (op := ⟨some 375, .load 79 (.tmp 374), _, _, _, _⟩) rfl 79 (.tmp 374) rfl A (o * 7) rfl ((G o).L) _ Tryf.underlying79 rfl (i79 (G o)) (S0.out _ _ MM.out) ?_)
            exact hI.out.v (i := 2) (by decide) (Below.refl _ _)
          · clear hd hL
            replace hI := Lib.hid hI
            simp only [QTail.putA, Nat.reduceAdd, Act.put, List.setIfInBounds_toArray, List.set_cons_succ, List.set_cons_zero]
            go_wp2
            exact hI.out.v (i := 3) (by decide) (Below.refl _ _)
          · have d0 : vs 3 = .slice (some ⟨A, o * 7, none⟩) 31 (N - o) := hI.val 3 (by decide) (hd { on := 3, ground := Ground.data } (by simp) rfl)
            clear hd hL
            replace hI := Lib.hid hI
            simp only [QTail.putA, Nat.reduceAdd, Act.put, List.setIfInBounds_toArray, List.set_cons_succ, List.set_cons_zero]
            go_wp2
            exact hI.out.v (i := 4) (by decide) (Below.refl _ _)
          · have d0 : vs 4 = .pointer (some ⟨A, o * 7 + 70, none⟩) := hI.val 4 (by decide) (hd { on := 4, ground := Ground.data } (by simp) rfl)
            clear hd hL
            replace hI := Lib.hid hI
            have MM := Lib.hid (M.out.after hI.out.bel)
            simp only [QTail.putA, Nat.reduceAdd, Act.put, List.setIfInBounds_toArray, List.set_cons_succ, List.set_cons_zero, d0]
            go_wp2_with ((with_reducible refine wpList_at (o := ⟨some 378, .load 79 (.tmp 377), _, _, _, _⟩) ?_); refine wpList_load_seg (op := ⟨some 378, .load 79 (.tmp 377), _, _, _, _⟩) rfl 79 (.tmp 377) rfl A (o * 7 + 70) rfl ((G (o + 10)).L) _ Tryf.underlying79 rfl (i79 (G (o + 10))) (S10.out _ _ MM.out) ?_)
            exact hI.out.v (i := 5) (by decide) (Below.refl _ _)
          · have h4 : L 8 = false := by
              cases h : L 8 with
              | false => rfl
              | true => have := hI.dn 0 (by decide) h; rw [hL] at this; cases this
            clear hd hL
            replace hI := Lib.hid hI
            simp only [QTail.putA, Nat.reduceAdd, Act.put, List.setIfInBounds_toArray, List.set_cons_succ, List.set_cons_zero]
            go_wp2
            exact hI.out.n (k := 0) (by decide) rfl h4
          · have h4 : L 9 = false := by
              cases h : L 9 with
              | false => rfl
              | true => have := hI.dn 1 (by decide) h; rw [hL] at this; cases this
            clear hd hL
            replace hI := Lib.hid hI
            simp only [QTail.putA, Nat.reduceAdd, Act.put, List.setIfInBounds_toArray, List.set_cons_succ, List.set_cons_zero]
            go_wp2
            exact hI.out.n (k := 1) (by decide) rfl h4
          · have l1 := hd { on := 6, ground := Ground.data } (by simp) rfl
            obtain ⟨b, d1, -, -, rm, -⟩ := hI.new 0 (by decide) l1
            have d2 : vs 2 = .agg (G o).L.toArray := hI.val 2 (by decide) (hd { on := 2, ground := Ground.data } (by simp) rfl)
            replace d1 : vs 6 = .pointer (some ⟨b, 0, none⟩) := d1
            clear hd hL
            replace hI := Lib.hid hI
            replace rm := Lib.hid rm
            replace l1 := Lib.hid l1
            have D1 := Lib.hid d1
            simp only [QTail.putA, Nat.reduceAdd, Act.put, List.setIfInBounds_toArray, List.set_cons_succ, List.set_cons_zero, d1, d2]
            go_wp2_with ((with_reducible refine wpList_at (o := ⟨none, .store 79 (.tmp 24) (.tmp 375), _, _, _, _⟩) ?_); refine wpList_store_room (op := ⟨none, .store 79 (.tmp 24) (.tmp 375), _, _, _, _⟩) rfl 79 (.tmp 24) (.tmp 375) rfl b 0 7 ((G o).L) rm.out (by show 0 + 7 ≤ 7; omega) rfl rfl (i79 (G o)) (Tq.one (G o)) ?_; intro W2 hW2; replace hW2 := Lib.hid hW2)
            rw [hW2.out]
            exact ⟨undef, hI.out.p (k := 0) (by decide) l1.out D1.out⟩
          · have l1 := hd { on := 7, ground := Ground.data } (by simp) rfl
            obtain ⟨b, d1, -, -, rm, -⟩ := hI.new 1 (by decide) l1
            have d2 : vs 5 = .agg (G (o + 10)).L.toArray := hI.val 5 (by decide) (hd { on := 5, ground := Ground.data } (by simp) rfl)
            replace d1 : vs 7 = .pointer (some ⟨b, 0, none⟩) := d1
            clear hd hL
            replace hI := Lib.hid hI
            replace rm := Lib.hid rm
            replace l1 := Lib.hid l1
            have D1 := Lib.hid d1
            simp only [QTail.putA, Nat.reduceAdd, Act.put, List.setIfInBounds_toArray, List.set_cons_succ, List.set_cons_zero, d1, d2]
            go_wp2_with ((with_reducible refine wpList_at (o := ⟨none, .store 79 (.tmp 25) (.tmp 378), _, _, _, _⟩) ?_); refine wpList_store_room (op := ⟨none, .store 79 (.tmp 25) (.tmp 378), _, _, _, _⟩) rfl 79 (.tmp 25) (.tmp 378) rfl b 0 7 ((G (o + 10)).L) rm.out (by show 0 + 7 ≤ 7; omega) rfl rfl (i79 (G (o + 10))) (Tq.one (G (o + 10))) ?_; intro W2 hW2; replace hW2 := Lib.hid hW2)
            rw [hW2.out]
            exact ⟨undef, hI.out.p (k := 1) (by decide) l1.out D1.out⟩
        intro vs W0 hI
        have v0 : vs 0 = .slice (some ⟨A, o * 7, none⟩) 31 (N - o) := hI.val 0 (by decide) (by decide)
        have v1 : vs 1 = .pointer (some ⟨A, o * 7, none⟩) := hI.val 1 (by decide) (by decide)
        have v2 : vs 2 = .agg (G o).L.toArray := hI.val 2 (by decide) (by decide)
        have v3 : vs 3 = .slice (some ⟨A, o * 7, none⟩) 31 (N - o) := hI.val 3 (by decide) (by decide)
        have v4 : vs 4 = .pointer (some ⟨A, o * 7 + 70, none⟩) := hI.val 4 (by decide) (by decide)
        have v5 : vs 5 = .agg (G (o + 10)).L.toArray := hI.val 5 (by decide) (by decide)
        obtain ⟨b0, n0, p0, -, -, s0⟩ := hI.new 0 (by decide) (by decide)
        replace n0 : vs 6 = .pointer (some ⟨b0, 0, none⟩) := n0
        replace s0 := Lib.hid (s0 (by decide))
        obtain ⟨b1, n1, p1, -, -, s1⟩ := hI.new 1 (by decide) (by decide)
        replace n1 : vs 7 = .pointer (some ⟨b1, 0, none⟩) := n1
        replace s1 := Lib.hid (s1 (by decide))
        have bc := hI.bel
        have lts := M.out.lt
        clear hI
        simp only [QTail.putA, Nat.reduceAdd, Act.put, List.setIfInBounds_toArray, List.set_cons_succ, List.set_cons_zero, v0, v1, v2, v3, v4, v5, n0, n1]
        clear v0 v1 v2 v3 v4 v5 n0 n1 S0 S10
        replace M := Lib.hid (M.out.after bc)
        replace O := Lib.hid (O.out.trans (Only.of bc))
        clear bc
        have VS0 := Lib.hid (fun (V : World) (hV : O3 T C A W0 V) => (s0.out.only hV (by rintro (q | q | q) <;> omega) : Seg V b0 0 (G o).L))
        have VS1 := Lib.hid (fun (V : World) (hV : O3 T C A W0 V) => (s1.out.only hV (by rintro (q | q | q) <;> omega) : Seg V b1 0 (G (o + 10)).L))
        clear s0 p0 s1 p1 lts
        have P : Hid (O3 T C A W0 W0) := Lib.hid (Only.refl _)
        obtain ⟨wc, hwc⟩ : ∃ x, W0 = x := ⟨_, rfl⟩
        rw [hwc] at M O
        rw [hwc]
        replace P : Hid (O3 T C A W0 wc) := Lib.hid (by rw [← hwc]; exact P.out)
        clear hwc
        have q := VS0.out _ P.out
        have f0 := q 0 _ rfl
        have f1 := q 1 _ rfl
        have f2 := q 2 _ rfl
        have f3 := q 3 _ rfl
        have f4 := q 4 _ rfl
        have f5 := q 5 _ rfl
        have f6 := q 6 _ rfl
        simp only [Nat.zero_add] at f0 f1 f2 f3 f4 f5 f6
        clear q
        cases h0 : isO (G o) with
        | false =>
          have Z0 : Hid (∀ V, Calls Tryf.prog 17 #[.agg (G o).L.toArray] V (Gv (.bool false) V)) := Lib.hid (fun V => by have := isO_c (G o) V; rw [h0] at this; exact this)
          go_upto_region 104 with (first | (go_at_call 17; (with_reducible refine (Z0.out _).mono ?_); rintro e wc ⟨rfl, bc⟩; replace M := Lib.hid (M.out.after bc); replace O := Lib.hid (O.out.trans (Only.of bc)); replace P := Lib.hid (P.out.trans (Only.of bc)); clear bc))
          clear Z0
          have k1 : wc.cell? ⟨T, 1, none⟩ = some (.string nm) := by simpa using M.out.tok 1 _ rfl
          have kf1 : wc.frozen? ⟨T, 1, none⟩ = false := by obtain ⟨_, -, q⟩ := M.out.rt 1 (by omega); exact q
          go_upto_region 105 with fail
          refine wp_gen (fun wd hWd => ?_)
          have M' : Hid (MS wd T C A N ⟨#[115, 99, 97, 108, 101, 51, 100]⟩ G o 31) := Lib.hid (by rw [hWd]; exact M.out.name)
          have O' : Hid (O3 T C A w wd) := Lib.hid (by rw [hWd]; exact O.out.set _ _ (.inl rfl))
          have P' : Hid (O3 T C A W0 wd) := Lib.hid (by rw [hWd]; exact P.out.set _ _ (.inl rfl))
          clear k1 kf1 hWd M O
          have M := M'
          have O := O'
          clear M' O'
          clear P
          have P := P'
          clear P'
          obtain ⟨wc, rfl⟩ : ∃ x, x = wd := ⟨_, rfl⟩
          clear f0 f1 f2 f3 f4 f5 f6
          obtain ⟨Gn, hGn⟩ : ∃ g : Nat → Tq, g = (fun j => if j = o + 4 then G (o + 20) else if j = o + 3 then G (o + 11) else if j = o + 2 then G (o + 10) else G j) := ⟨_, rfl⟩
          obtain ⟨Gm, hGm⟩ : ∃ g : Nat → Tq, g = (fun j => if j = o + 3 then G (o + 11) else if j = o + 2 then G (o + 10) else G j) := ⟨_, rfl⟩
          replace hGn := Lib.hid hGn
          replace hGm := Lib.hid hGm
          have lts := M.out.lt
          have Wle : Hid (o + 31 ≤ N) := Lib.hid hle
          obtain ⟨Wb, hWb⟩ : ∃ x, wc = x := ⟨_, rfl⟩
          rw [hWb] at M O P lts
          rw [hWb]
          clear hWb
          refine QTail.wp_region_inv (AP T C A N ⟨#[115, 99, 97, 108, 101, 51, 100]⟩ G Gm Gn o 31 5 12 8 13 15 (G (o + 20)) (fun i => ([.pointer (some ⟨T, 0, none⟩), .pointer (some ⟨T, 0, none⟩), .pointer (some ⟨T, 0, none⟩), .pointer (some ⟨C, 0, none⟩), .slice (some ⟨A, o * 7, none⟩) 31 (N - o), .slice (some ⟨A, o * 7, none⟩) 2 (N - o), .slice (some ⟨A, o * 7, none⟩) 31 (N - o), .slice (some ⟨A, o * 7 + 70, none⟩) 2 (N - o - 10), .slice (some ⟨A, o * 7, none⟩) 4 (N - o), .slice (some ⟨A, o * 7, none⟩) 31 (N - o), .pointer (some ⟨A, o * 7 + 140, none⟩), .agg (G (o + 20)).L.toArray, undef, .slice (some ⟨A, o * 7, none⟩) 5 (N - o), .pointer (some ⟨C, 0, none⟩)] : List Value).getD i undef) w W0 Wb) (by kernel_rfl) (by kernel_rfl) (AP.start O.out P.out M.out) ?_ ?_
          · refine ⟨?_, ?_, ?_, ?_, ?_, ?_, ?_, ?_, ?_, ?_, ?_, ?_, ?_, ?_, ?_, ?_, trivial⟩
            all_goals intro L vs W' hL hd hI
            · clear hd hL
              replace hI := Lib.hid hI
              simp only [QTail.putA, Nat.reduceAdd, Act.put, List.setIfInBounds_toArray, List.set_cons_succ, List.set_cons_zero]
              go_wp2
              exact hI.out.q 0 (by decide) (by decide) (by decide) (by decide)
            · have d0 : vs 0 = .pointer (some ⟨T, 0, none⟩) := hI.val 0 (by decide) (by decide) (hd { on := 0, ground := Ground.data } (by simp) rfl)
              clear hd hL
              replace hI := Lib.hid hI
              simp only [QTail.putA, Nat.reduceAdd, Act.put, List.setIfInBounds_toArray, List.set_cons_succ, List.set_cons_zero, d0]
              go_wp2
              exact hI.out.q 1 (by decide) (by decide) (by decide) (by decide)
            · have d1 : vs 1 = .pointer (some ⟨T, 0, none⟩) := hI.val 1 (by decide) (by decide) (hd { on := 1, ground := Ground.data } (by simp) rfl)
              clear hd hL
              replace hI := Lib.hid hI
              simp only [QTail.putA, Nat.reduceAdd, Act.put, List.setIfInBounds_toArray, List.set_cons_succ, List.set_cons_zero, d1]
              go_wp2
              exact hI.out.q 2 (by decide) (by decide) (by decide) (by decide)
            · have d2 : vs 2 = .pointer (some ⟨T, 0, none⟩) := hI.val 2 (by decide) (by decide) (hd { on := 2, ground := Ground.data } (by simp) rfl)
              have kx : W'.cell? ⟨T, 0, none⟩ = some (.pointer (some ⟨C, 0, none⟩)) := by simpa using hI.ms.tok 0 _ rfl
              clear hd hL
              replace hI := Lib.hid hI
              simp only [QTail.putA, Nat.reduceAdd, Act.put, List.setIfInBounds_toArray, List.set_cons_succ, List.set_cons_zero, d2]
              go_wp2
              exact hI.out.q 3 (by decide) (by decide) (by decide) (by decide)
            · clear hd hL
              replace hI := Lib.hid hI
              simp only [QTail.putA, Nat.reduceAdd, Act.put, List.setIfInBounds_toArray, List.set_cons_succ, List.set_cons_zero]
              go_wp2
              exact hI.out.q 4 (by decide) (by decide) (by decide) (by decide)
            · have d4 : vs 4 = .slice (some ⟨A, o * 7, none⟩) 31 (N - o) := hI.val 4 (by decide) (by decide) (hd { on := 4, ground := Ground.data } (by simp) rfl)
              have sl : ∀ W : World, (Instr.sliceAt 27 (.slice (some ⟨A, o * 7, none⟩) 31 (N - o)) (some (.int .i64 0)) (some (.int .i64 2)) none).run Tryf.prog W = .ok (.slice (some ⟨A, o * 7, none⟩) 2 (N - o)) W := fun W => sl_lh A (o * 7) 31 (N - o) 0 2 (by omega) (by have := Wle.out; omega) (by have := Wle.out; omega) W
              clear hd hL
              replace hI := Lib.hid hI
              simp only [QTail.putA, Nat.reduceAdd, Act.put, List.setIfInBounds_toArray, List.set_cons_succ, List.set_cons_zero, d4]
              go_wp2
              exact hI.out.q 5 (by decide) (by decide) (by decide) (by decide)
            · clear hd hL
              replace hI := Lib.hid hI
              simp only [QTail.putA, Nat.reduceAdd, Act.put, List.setIfInBounds_toArray, List.set_cons_succ, List.set_cons_zero]
              go_wp2
              exact hI.out.q 6 (by decide) (by decide) (by decide) (by decide)
            · have d6 : vs 6 = .slice (some ⟨A, o * 7, none⟩) 31 (N - o) := hI.val 6 (by decide) (by decide) (hd { on := 6, ground := Ground.data } (by simp) rfl)
              have sl : ∀ W : World, (Instr.sliceAt 27 (.slice (some ⟨A, o * 7, none⟩) 31 (N - o)) (some (.int .i64 10)) (some (.int .i64 12)) none).run Tryf.prog W = .ok (.slice (some ⟨A, o * 7 + 70, none⟩) 2 (N - o - 10)) W := fun W => sl_lh A (o * 7) 31 (N - o) 10 12 (by omega) (by have := Wle.out; omega) (by have := Wle.out; omega) W
              clear hd hL
              replace hI := Lib.hid hI
              simp only [QTail.putA, Nat.reduceAdd, Act.put, List.setIfInBounds_toArray, List.set_cons_succ, List.set_cons_zero, d6]
              go_wp2
              exact hI.out.q 7 (by decide) (by decide) (by decide) (by decide)
            · have d5 : vs 5 = .slice (some ⟨A, o * 7, none⟩) 2 (N - o) := hI.val 5 (by decide) (by decide) (hd { on := 5, ground := Ground.data } (by simp) rfl)
              have d7 : vs 7 = .slice (some ⟨A, o * 7 + 70, none⟩) 2 (N - o - 10) := hI.val 7 (by decide) (by decide) (hd { on := 7, ground := Ground.data } (by simp) rfl)
              have h10 : L 15 = false := by
                cases h : L 15 with
                | false => rfl
                | true => have := hI.ord.2 (hI.ord.1 h); rw [hL] at this; cases this
              have hf2 : L 13 = false := by
                cases h : L 13 with
                | false => rfl
                | true => have := hI.ord.2 h; rw [hL] at this; cases this
              have ms := hI.ms
              simp only [hL, hf2, h10, Bool.false_eq_true, if_false] at ms
              clear hd
              replace hI := Lib.hid hI
              replace ms := Lib.hid ms
              simp only [QTail.putA, Nat.reduceAdd, Act.put, List.setIfInBounds_toArray, List.set_cons_succ, List.set_cons_zero, d5, d7]
              have hnew : ∀ j u, ((G (o + 10)).L ++ (G (o + 11)).L)[j]? = some u → W'.cell? ((⟨A, o * 7 + 70, none⟩ : Addr).add j) = some u := fun j u hu => by
                rw [addN]
                by_cases hj : j < 7
                · rw [List.getElem?_append_left (by show j < 7; exact hj)] at hu
                  have := ms.out.arr (o + 10) (by have := Wle.out; omega) j u hu
                  rw [Nat.add_mul] at this
                  exact this
                · rw [List.getElem?_append_right (by show 7 ≤ j; omega)] at hu
                  have := ms.out.arr (o + 11) (by have := Wle.out; omega) (j - 7) u hu
                  rw [show (o + 11) * 7 + (j - 7) = o * 7 + 70 + j by omega] at this
                  exact this
              replace hnew := Lib.hid hnew
              go_wp2_with (at_builtin; refine wpList_append_in (.tmp 403) (.tmp 405) A (o * 7) 2 (N - o : Nat) 2 (N - o - 10 : Nat) ⟨A, o * 7 + 70, none⟩ ((G (o + 10)).L ++ (G (o + 11)).L) rfl rfl rfl rfl rfl hnew.out (fun v hv => by rcases List.mem_append.1 hv with q | q; exact Tq.one _ v q; exact Tq.one _ v q) (by have := Wle.out; omega) (fun j hj => by obtain ⟨v, hv, -⟩ := ms.out.ra (o * 7 + 2 * 7 + j) (by have := Wle.out; have hj' : j < 14 := hj; omega); rw [hv]; rfl) (fun j hj => by obtain ⟨v, -, hf⟩ := ms.out.ra (o * 7 + 2 * 7 + j) (by have := Wle.out; have hj' : j < 14 := hj; omega); exact hf) ?_; intro W2 hW2; replace hW2 := Lib.hid hW2)
              refine hI.out.step 8 _ (by decide) (fun _ => rfl) (by rw [hW2.out]; exact Only.setCells _ (.inr (.inr rfl)) _ _ (Only.refl _)) lts ?_ (fun q => by simp [h10] at q) (fun q => by simp)
              simp only [h10, hf2, beq_self_eq_true, Bool.true_or, if_true, Bool.or_false, show (13 == 8) = false from rfl, show (15 == 8) = false from rfl, Bool.false_eq_true, if_false]
              rw [hW2.out, hGm.out, setCells_app]
              have h1 := ms.out.putT (i := o + 2) (by have := Wle.out; omega) (G (o + 10))
              have h2 := h1.putT (i := o + 3) (by have := Wle.out; omega) (G (o + 11))
              rw [show (o + 2) * 7 = o * 7 + 2 * 7 by omega, show (o + 3) * 7 = o * 7 + 2 * 7 + 7 by omega] at h2
              exact h2
            · clear hd hL
              replace hI := Lib.hid hI
              simp only [QTail.putA, Nat.reduceAdd, Act.put, List.setIfInBounds_toArray, List.set_cons_succ, List.set_cons_zero]
              go_wp2
              exact hI.out.q 9 (by decide) (by decide) (by decide) (by decide)
            · have d9 : vs 9 = .slice (some ⟨A, o * 7, none⟩) 31 (N - o) := hI.val 9 (by decide) (by decide) (hd { on := 9, ground := Ground.data } (by simp) rfl)
              clear hd hL
              replace hI := Lib.hid hI
              simp only [QTail.putA, Nat.reduceAdd, Act.put, List.setIfInBounds_toArray, List.set_cons_succ, List.set_cons_zero, d9]
              go_wp2
              exact hI.out.q 10 (by decide) (by decide) (by decide) (by decide)
            · have d10 : vs 10 = .pointer (some ⟨A, o * 7 + 140, none⟩) := hI.val 10 (by decide) (by decide) (hd { on := 10, ground := Ground.data } (by simp) rfl)
              have sg : Hid (Seg W' A (o * 7 + 140) (G (o + 20)).L) := Lib.hid (by
                have h1 := hI.ms.arr (o + 20) (by have := Wle.out; omega)
                have e : (if L 13 = true then Gn else if L 8 = true then Gm else G) (o + 20) = G (o + 20) := by
                  rw [hGn.out, hGm.out]
                  split
                  · simp
                  · split
                    · simp
                    · rfl
                rw [e, Nat.add_mul] at h1
                exact h1)
              clear hd hL
              replace hI := Lib.hid hI
              simp only [QTail.putA, Nat.reduceAdd, Act.put, List.setIfInBounds_toArray, List.set_cons_succ, List.set_cons_zero, d10]
              go_wp2_with ((with_reducible refine wpList_at (o := ⟨some 409, .load 79 (.tmp 408), _, _, _, _⟩) ?_); refine wpList_load_seg (op := ⟨some 409, .load 79 (.tmp 408), _, _, _, _⟩) rfl 79 (.tmp 408) rfl A (o * 7 + 140) rfl ((G (o + 20)).L) _ Tryf.underlying79 rfl (i79 (G (o + 20))) sg.out ?_)
              exact hI.out.q 11 (by decide) (by decide) (by decide) (by decide)
            · have d11 : vs 11 = .agg (G (o + 20)).L.toArray := hI.val 11 (by decide) (by decide) (hd { on := 11, ground := Ground.data } (by simp) rfl)
              clear hd hL
              replace hI := Lib.hid hI
              simp only [QTail.putA, Nat.reduceAdd, Act.put, List.setIfInBounds_toArray, List.set_cons_succ, List.set_cons_zero, d11]
              go_wp2
              exact hI.out.n (by decide) (by decide) (by decide) 79
            · have d8 : vs 8 = .slice (some ⟨A, o * 7, none⟩) 4 (N - o) := hI.val 8 (by decide) (by decide) (hd { on := 8, ground := Ground.data } (by simp) rfl)
              have h10 : L 15 = false := by
                cases h : L 15 with
                | false => rfl
                | true => have := hI.ord.1 h; rw [hL] at this; cases this
              have hf1 := hd { on := 8, ground := Ground.data } (by simp) rfl
              have hf1 : L 8 = true := hf1
              obtain ⟨b, d12, b2, b3⟩ := hI.new (hd { on := 12, ground := Ground.data } (by simp) rfl)
              replace b3 := Lib.hid b3
              have ms := hI.ms
              simp only [hL, hf1, h10, Bool.false_eq_true, if_false, if_true] at ms
              clear hd
              replace hI := Lib.hid hI
              replace ms := Lib.hid ms
              simp only [QTail.putA, Nat.reduceAdd, Act.put, List.setIfInBounds_toArray, List.set_cons_succ, List.set_cons_zero, d8, d12]
              go_wp2_with (at_builtin; refine wpList_append_in (.tmp 406) (.tmp 410) A (o * 7) 4 (N - o : Nat) 1 1 ⟨b, 0, none⟩ (G (o + 20)).L rfl rfl rfl rfl rfl (fun j u hu => by rw [addN]; exact b3.out j u hu) (Tq.one _) (by have := Wle.out; omega) (fun j hj => by obtain ⟨v, hv, -⟩ := ms.out.ra (o * 7 + 4 * 7 + j) (by have := Wle.out; have hj' : j < 7 := hj; omega); rw [hv]; rfl) (fun j hj => by obtain ⟨v, -, hf⟩ := ms.out.ra (o * 7 + 4 * 7 + j) (by have := Wle.out; have hj' : j < 7 := hj; omega); exact hf) ?_; intro W2 hW2; replace hW2 := Lib.hid hW2)
              refine hI.out.step 13 _ (by decide) (fun _ => rfl) (by rw [hW2.out]; exact Only.setCells _ (.inr (.inr rfl)) _ _ (Only.refl _)) lts ?_ (fun q => by simp) (fun q => by simp [hf1])
              simp only [h10, hf1, beq_self_eq_true, Bool.true_or, if_true, Bool.or_false, show (15 == 13) = false from rfl, Bool.false_eq_true, if_false]
              rw [hW2.out, hGn.out]
              have h1 := ms.out.putT (i := o + 4) (by have := Wle.out; omega) (G (o + 20))
              rw [show (o + 4) * 7 = o * 7 + 4 * 7 by omega, hGm.out] at h1
              exact h1
            · have d3 : vs 3 = .pointer (some ⟨C, 0, none⟩) := hI.val 3 (by decide) (by decide) (hd { on := 3, ground := Ground.data } (by simp) rfl)
              clear hd hL
              replace hI := Lib.hid hI
              simp only [QTail.putA, Nat.reduceAdd, Act.put, List.setIfInBounds_toArray, List.set_cons_succ, List.set_cons_zero, d3]
              go_wp2
              exact hI.out.q 14 (by decide) (by decide) (by decide) (by decide)
            · have d14 : vs 14 = .pointer (some ⟨C, 0, none⟩) := hI.val 14 (by decide) (by decide) (hd { on := 14, ground := Ground.data } (by simp) rfl)
              have d13 : vs 13 = .slice (some ⟨A, o * 7, none⟩) 5 (N - o) := hI.val 13 (by decide) (by decide) (hd { on := 13, ground := Ground.data } (by simp) rfl)
              have lf : L 13 = true := hd { on := 13, ground := Ground.data } (by simp) rfl
              have lf1 : L 8 = true := hI.ord.2 lf
              have ms := hI.ms
              simp only [hL, lf, Bool.false_eq_true, if_false, if_true] at ms
              have kc := ms.ch
              have kcf : W'.frozen? ⟨C, 0, none⟩ = false := by obtain ⟨_, -, q⟩ := ms.rc 0 (by omega); exact q
              clear hd
              replace hI := Lib.hid hI
              replace ms := Lib.hid ms
              simp only [QTail.putA, Nat.reduceAdd, Act.put, List.setIfInBounds_toArray, List.set_cons_succ, List.set_cons_zero, d14, d13]
              go_wp2
              refine ⟨undef, hI.out.step 15 undef (by decide) (fun q => absurd rfl q) (Only.set (Only.refl _) _ _ (.inr (.inl rfl))) lts ?_ (fun _ => by simp [lf]) (fun _ => by simp [lf1])⟩
              simp only [lf, beq_self_eq_true, Bool.or_true, Bool.true_or, if_true]
              exact ms.out.kids (o' := o) (n' := 5) (by have := Wle.out; omega)
          intro vs wd hI
          have v0 : vs 0 = .pointer (some ⟨T, 0, none⟩) := hI.val 0 (by decide) (by decide) (by decide)
          have v1 : vs 1 = .pointer (some ⟨T, 0, none⟩) := hI.val 1 (by decide) (by decide) (by decide)
          have v2 : vs 2 = .pointer (some ⟨T, 0, none⟩) := hI.val 2 (by decide) (by decide) (by decide)
          have v3 : vs 3 = .pointer (some ⟨C, 0, none⟩) := hI.val 3 (by decide) (by decide) (by decide)
          have v4 : vs 4 = .slice (some ⟨A, o * 7, none⟩) 31 (N - o) := hI.val 4 (by decide) (by decide) (by decide)
          have v5 : vs 5 = .slice (some ⟨A, o * 7, none⟩) 2 (N - o) := hI.val 5 (by decide) (by decide) (by decide)
          have v6 : vs 6 = .slice (some ⟨A, o * 7, none⟩) 31 (N - o) := hI.val 6 (by decide) (by decide) (by decide)
          have v7 : vs 7 = .slice (some ⟨A, o * 7 + 70, none⟩) 2 (N - o - 10) := hI.val 7 (by decide) (by decide) (by decide)
          have v8 : vs 8 = .slice (some ⟨A, o * 7, none⟩) 4 (N - o) := hI.val 8 (by decide) (by decide) (by decide)
          have v9 : vs 9 = .slice (some ⟨A, o * 7, none⟩) 31 (N - o) := hI.val 9 (by decide) (by decide) (by decide)
          have v10 : vs 10 = .pointer (some ⟨A, o * 7 + 140, none⟩) := hI.val 10 (by decide) (by decide) (by decide)
          have v11 : vs 11 = .agg (G (o + 20)).L.toArray := hI.val 11 (by decide) (by decide) (by decide)
          have v13 : vs 13 = .slice (some ⟨A, o * 7, none⟩) 5 (N - o) := hI.val 13 (by decide) (by decide) (by decide)
          have v14 : vs 14 = .pointer (some ⟨C, 0, none⟩) := hI.val 14 (by decide) (by decide) (by decide)
          obtain ⟨bq, v12, -, -⟩ := hI.new (by decide)
          replace M : Hid (MS wd T C A N ⟨#[115, 99, 97, 108, 101, 51, 100]⟩ Gn o 5) := Lib.hid (by have := hI.ms; simpa using this)
          replace O := Lib.hid hI.O
          clear hI P lts Wle hGm
          simp only [QTail.putA, Nat.reduceAdd, Act.put, List.setIfInBounds_toArray, List.set_cons_succ, List.set_cons_zero, v0, v1, v2, v3, v4, v5, v6, v7, v8, v9, v10, v11, v12, v13, v14]
          clear v0 v1 v2 v3 v4 v5 v6 v7 v8 v9 v10 v11 v12 v13 v14
          obtain ⟨wc, rfl⟩ : ∃ x, x = wd := ⟨_, rfl⟩
          clear VS0 VS1
          have k0 : wc.cell? ⟨T, 0, none⟩ = some (.pointer (some ⟨C, 0, none⟩)) := by simpa using M.out.tok 0 _ rfl
          have kc := M.out.ch
          have kle := M.out.le
          have k6 : wc.cell? ⟨A, o * 7 + 6, none⟩ = some (.int .u8 (Gn o).ws) := M.out.arr o (by omega) 6 _ rfl
          have kf : wc.frozen? ⟨A, o * 7 + 6, none⟩ = false := by obtain ⟨_, -, q⟩ := M.out.ra (o * 7 + 6) (by omega); exact q
          generalize hws : (Gn o).ws = ws0 at k6
          replace hws := Lib.hid hws
          go_upto_region 152 with fail
          refine wp_gen (fun W9 hW9 => ?_)
          have M9 : Hid (MS W9 T C A N ⟨#[115, 99, 97, 108, 101, 51, 100]⟩ (setW Gn o (bits .and .u8 (Gn o).ws 254)) o 5) := Lib.hid (by
            rw [hW9, ← hws.out]
            have := M.out.setw (i := o) (v := bits .and .u8 (Gn o).ws 254) (by omega)
            exact this)
          have O9 : Hid (O3 T C A w W9) := Lib.hid (by rw [hW9]; exact O.out.set _ _ (.inr (.inr rfl)))
          clear hW9 k0 kc k6 kf hws
          have k0 : W9.cell? ⟨T, 0, none⟩ = some (.pointer (some ⟨C, 0, none⟩)) := by simpa using M9.out.tok 0 _ rfl
          generalize hG9 : setW Gn o (bits .and .u8 (Gn o).ws 254) = G9 at M9
          have ej : (o + 5 - 1) * 7 + 6 = o * 7 + 28 + 6 := by omega
          have k6 : W9.cell? ⟨A, o * 7 + 28 + 6, none⟩ = some (.int .u8 (G9 (o + 5 - 1)).ws) := by rw [← ej]; exact M9.out.arr (o + 5 - 1) (by omega) 6 _ rfl
          have kf : W9.frozen? ⟨A, o * 7 + 28 + 6, none⟩ = false := by rw [← ej]; obtain ⟨_, -, q⟩ := M9.out.ra ((o + 5 - 1) * 7 + 6) (by omega); exact q
          have hM := Lib.hid (M9.out.setw (i := o + 5 - 1) (v := bits .and .u8 (G9 (o + 5 - 1)).ws 253) (by omega))
          rw [ej] at hM
          generalize hws : (G9 (o + 5 - 1)).ws = ws1 at k6 hM
          replace hws := Lib.hid hws
          replace hG9 := Lib.hid hG9
          replace ej := Lib.hid ej
          go_wp2
          rw [rounds_succ]
          go_wp2
          go_ret
          refine ⟨rfl, ?_, O9.out.set _ _ (.inr (.inr rfl))⟩
          have ha : arm (mbit G o) 12 ⟨nm, G, o, 31⟩ = ⟨⟨#[115, 99, 97, 108, 101, 51, 100]⟩, Gn, o, 5⟩ := (by
              simp [arm, hmb.out, h0, hGn.out]
              funext j
              by_cases e2 : j = o + 2
              · subst e2; simp
              · by_cases e3 : j = o + 3
                · subst e3; simp
                · simp [e2, e3])
          rw [ha]
          show MS _ T C A N ⟨#[115, 99, 97, 108, 101, 51, 100]⟩ (trm Gn o 5) o 5
          unfold trm
          rw [hG9.out, hws.out]
          exact hM.out
        | true =>
        cases h10 : isO (G (o + 10)) with
        | false =>
          have Z0 : Hid (∀ V, Calls Tryf.prog 17 #[.agg (G o).L.toArray] V (Gv (.bool true) V)) := Lib.hid (fun V => by have := isO_c (G o) V; rw [h0] at this; exact this)
          have Z10 : Hid (∀ V, Calls Tryf.prog 17 #[.agg (G (o + 10)).L.toArray] V (Gv (.bool false) V)) := Lib.hid (fun V => by have := isO_c (G (o + 10)) V; rw [h10] at this; exact this)
          go_upto_region 104 with (first | (go_at_call 17; (with_reducible refine (Z0.out _).mono ?_); rintro e wc ⟨rfl, bc⟩; replace M := Lib.hid (M.out.after bc); replace O := Lib.hid (O.out.trans (Only.of bc)); replace P := Lib.hid (P.out.trans (Only.of bc)); clear bc; have q := VS1.out _ P.out; have f0 := q 0 _ rfl; have f1 := q 1 _ rfl; have f2 := q 2 _ rfl; have f3 := q 3 _ rfl; have f4 := q 4 _ rfl; have f5 := q 5 _ rfl; have f6 := q 6 _ rfl; simp only [Nat.zero_add] at f0 f1 f2 f3 f4 f5 f6; clear q) | (go_at_call 17; (with_reducible refine (Z10.out _).mono ?_); rintro e wc ⟨rfl, bc⟩; replace M := Lib.hid (M.out.after bc); replace O := Lib.hid (O.out.trans (Only.of bc)); replace P := Lib.hid (P.out.trans (Only.of bc)); clear bc))
          clear Z0 Z10
          have k1 : wc.cell? ⟨T, 1, none⟩ = some (.string nm) := by simpa using M.out.tok 1 _ rfl
          have kf1 : wc.frozen? ⟨T, 1, none⟩ = false := by obtain ⟨_, -, q⟩ := M.out.rt 1 (by omega); exact q
          go_upto_region 105 with fail
          refine wp_gen (fun wd hWd => ?_)
          have M' : Hid (MS wd T C A N ⟨#[115, 99, 97, 108, 101, 51, 100]⟩ G o 31) := Lib.hid (by rw [hWd]; exact M.out.name)
          have O' : Hid (O3 T C A w wd) := Lib.hid (by rw [hWd]; exact O.out.set _ _ (.inl rfl))
          have P' : Hid (O3 T C A W0 wd) := Lib.hid (by rw [hWd]; exact P.out.set _ _ (.inl rfl))
          clear k1 kf1 hWd M O
          have M := M'
          have O := O'
          clear M' O'
          clear P
          have P := P'
          clear P'
          obtain ⟨wc, rfl⟩ : ∃ x, x = wd := ⟨_, rfl⟩
          clear f0 f1 f2 f3 f4 f5 f6
          obtain ⟨Gn, hGn⟩ : ∃ g : Nat → Tq, g = (fun j => if j = o + 4 then G (o + 20) else if j = o + 3 then G (o + 11) else if j = o + 2 then G (o + 10) else G j) := ⟨_, rfl⟩
          obtain ⟨Gm, hGm⟩ : ∃ g : Nat → Tq, g = (fun j => if j = o + 3 then G (o + 11) else if j = o + 2 then G (o + 10) else G j) := ⟨_, rfl⟩
          replace hGn := Lib.hid hGn
          replace hGm := Lib.hid hGm
          have lts := M.out.lt
          have Wle : Hid (o + 31 ≤ N) := Lib.hid hle
          obtain ⟨Wb, hWb⟩ : ∃ x, wc = x := ⟨_, rfl⟩
          rw [hWb] at M O P lts
          rw [hWb]
          clear hWb
          refine QTail.wp_region_inv (AP T C A N ⟨#[115, 99, 97, 108, 101, 51, 100]⟩ G Gm Gn o 31 5 12 8 13 15 (G (o + 20)) (fun i => ([.pointer (some ⟨T, 0, none⟩), .pointer (some ⟨T, 0, none⟩), .pointer (some ⟨T, 0, none⟩), .pointer (some ⟨C, 0, none⟩), .slice (some ⟨A, o * 7, none⟩) 31 (N - o), .slice (some ⟨A, o * 7, none⟩) 2 (N - o), .slice (some ⟨A, o * 7, none⟩) 31 (N - o), .slice (some ⟨A, o * 7 + 70, none⟩) 2 (N - o - 10), .slice (some ⟨A, o * 7, none⟩) 4 (N - o), .slice (some ⟨A, o * 7, none⟩) 31 (N - o), .pointer (some ⟨A, o * 7 + 140, none⟩), .agg (G (o + 20)).L.toArray, undef, .slice (some ⟨A, o * 7, none⟩) 5 (N - o), .pointer (some ⟨C, 0, none⟩)] : List Value).getD i undef) w W0 Wb) (by kernel_rfl) (by kernel_rfl) (AP.start O.out P.out M.out) ?_ ?_
          · refine ⟨?_, ?_, ?_, ?_, ?_, ?_, ?_, ?_, ?_, ?_, ?_, ?_, ?_, ?_, ?_, ?_, trivial⟩
            all_goals intro L vs W' hL hd hI
            · clear hd hL
              replace hI := Lib.hid hI
              simp only [QTail.putA, Nat.reduceAdd, Act.put, List.setIfInBounds_toArray, List.set_cons_succ, List.set_cons_zero]
              go_wp2
              exact hI.out.q 0 (by decide) (by decide) (by decide) (by decide)
            · have d0 : vs 0 = .pointer (some ⟨T, 0, none⟩) := hI.val 0 (by decide) (by decide) (hd { on := 0, ground := Ground.data } (by simp) rfl)
              clear hd hL
              replace hI := Lib.hid hI
              simp only [QTail.putA, Nat.reduceAdd, Act.put, List.setIfInBounds_toArray, List.set_cons_succ, List.set_cons_zero, d0]
              go_wp2
              exact hI.out.q 1 (by decide) (by decide) (by decide) (by decide)
            · have d1 : vs 1 = .pointer (some ⟨T, 0, none⟩) := hI.val 1 (by decide) (by decide) (hd { on := 1, ground := Ground.data } (by simp) rfl)
              clear hd hL
              replace hI := Lib.hid hI
              simp only [QTail.putA, Nat.reduceAdd, Act.put, List.setIfInBounds_toArray, List.set_cons_succ, List.set_cons_zero, d1]
              go_wp2
              exact hI.out.q 2 (by decide) (by decide) (by decide) (by decide)
            · have d2 : vs 2 = .pointer (some ⟨T, 0, none⟩) := hI.val 2 (by decide) (by decide) (hd { on := 2, ground := Ground.data } (by simp) rfl)
              have kx : W'.cell? ⟨T, 0, none⟩ = some (.pointer (some ⟨C, 0, none⟩)) := by simpa using hI.ms.tok 0 _ rfl
              clear hd hL
              replace hI := Lib.hid hI
              simp only [QTail.putA, Nat.reduceAdd, Act.put, List.setIfInBounds_toArray, List.set_cons_succ, List.set_cons_zero, d2]
              go_wp2
              exact hI.out.q 3 (by decide) (by decide) (by decide) (by decide)
            · clear hd hL
              replace hI := Lib.hid hI
              simp only [QTail.putA, Nat.reduceAdd, Act.put, List.setIfInBounds_toArray, List.set_cons_succ, List.set_cons_zero]
              go_wp2
              exact hI.out.q 4 (by decide) (by decide) (by decide) (by decide)
            · have d4 : vs 4 = .slice (some ⟨A, o * 7, none⟩) 31 (N - o) := hI.val 4 (by decide) (by decide) (hd { on := 4, ground := Ground.data } (by simp) rfl)
              have sl : ∀ W : World, (Instr.sliceAt 27 (.slice (some ⟨A, o * 7, none⟩) 31 (N - o)) (some (.int .i64 0)) (some (.int .i64 2)) none).run Tryf.prog W = .ok (.slice (some ⟨A, o * 7, none⟩) 2 (N - o)) W := fun W => sl_lh A (o * 7) 31 (N - o) 0 2 (by omega) (by have := Wle.out; omega) (by have := Wle.out; omega) W
              clear hd hL
              replace hI := Lib.hid hI
              simp only [QTail.putA, Nat.reduceAdd, Act.put, List.setIfInBounds_toArray, List.set_cons_succ, List.set_cons_zero, d4]
              go_wp2
              exact hI.out.q 5 (by decide) (by decide) (by decide) (by decide)
            · clear hd hL
              replace hI := Lib.hid hI
              simp only [QTail.putA, Nat.reduceAdd, Act.put, List.setIfInBounds_toArray, List.set_cons_succ, List.set_cons_zero]
              go_wp2
              exact hI.out.q 6 (by decide) (by decide) (by decide) (by decide)
            · have d6 : vs 6 = .slice (some ⟨A, o * 7, none⟩) 31 (N - o) := hI.val 6 (by decide) (by decide) (hd { on := 6, ground := Ground.data } (by simp) rfl)
              have sl : ∀ W : World, (Instr.sliceAt 27 (.slice (some ⟨A, o * 7, none⟩) 31 (N - o)) (some (.int .i64 10)) (some (.int .i64 12)) none).run Tryf.prog W = .ok (.slice (some ⟨A, o * 7 + 70, none⟩) 2 (N - o - 10)) W := fun W => sl_lh A (o * 7) 31 (N - o) 10 12 (by omega) (by have := Wle.out; omega) (by have := Wle.out; omega) W
              clear hd hL
              replace hI := Lib.hid hI
              simp only [QTail.putA, Nat.reduceAdd, Act.put, List.setIfInBounds_toArray, List.set_cons_succ, List.set_cons_zero, d6]
              go_wp2
              exact hI.out.q 7 (by decide) (by decide) (by decide) (by decide)
            · have d5 : vs 5 = .slice (some ⟨A, o * 7, none⟩) 2 (N - o) := hI.val 5 (by decide) (by decide) (hd { on := 5, ground := Ground.data } (by simp) rfl)
              have d7 : vs 7 = .slice (some ⟨A, o * 7 + 70, none⟩) 2 (N - o - 10) := hI.val 7 (by decide) (by decide) (hd { on := 7, ground := Ground.data } (by simp) rfl)
              have h10 : L 15 = false := by
                cases h : L 15 with
                | false => rfl
                | true => have := hI.ord.2 (hI.ord.1 h); rw [hL] at this; cases this
              have hf2 : L 13 = false := by
                cases h : L 13 with
                | false => rfl
                | true => have := hI.ord.2 h; rw [hL] at this; cases this
              have ms := hI.ms
              simp only [hL, hf2, h10, Bool.false_eq_true, if_false] at ms
              clear hd
              replace hI := Lib.hid hI
              replace ms := Lib.hid ms
              simp only [QTail.putA, Nat.reduceAdd, Act.put, List.setIfInBounds_toArray, List.set_cons_succ, List.set_cons_zero, d5, d7]
              have hnew : ∀ j u, ((G (o + 10)).L ++ (G (o + 11)).L)[j]? = some u → W'.cell? ((⟨A, o * 7 + 70, none⟩ : Addr).add j) = some u := fun j u hu => by
                rw [addN]
                by_cases hj : j < 7
                · rw [List.getElem?_append_left (by show j < 7; exact hj)] at hu
                  have := ms.out.arr (o + 10) (by have := Wle.out; omega) j u hu
                  rw [Nat.add_mul] at this
                  exact this
                · rw [List.getElem?_append_right (by show 7 ≤ j; omega)] at hu
                  have := ms.out.arr (o + 11) (by have := Wle.out; omega) (j - 7) u hu
                  rw [show (o + 11) * 7 + (j - 7) = o * 7 + 70 + j by omega] at this
                  exact this
              replace hnew := Lib.hid hnew
              go_wp2_with (at_builtin; refine wpList_append_in (.tmp 403) (.tmp 405) A (o * 7) 2 (N - o : Nat) 2 (N - o - 10 : Nat) ⟨A, o * 7 + 70, none⟩ ((G (o + 10)).L ++ (G (o + 11)).L) rfl rfl rfl rfl rfl hnew.out (fun v hv => by rcases List.mem_append.1 hv with q | q; exact Tq.one _ v q; exact Tq.one _ v q) (by have := Wle.out; omega) (fun j hj => by obtain ⟨v, hv, -⟩ := ms.out.ra (o * 7 + 2 * 7 + j) (by have := Wle.out; have hj' : j < 14 := hj; omega); rw [hv]; rfl) (fun j hj => by obtain ⟨v, -, hf⟩ := ms.out.ra (o * 7 + 2 * 7 + j) (by have := Wle.out; have hj' : j < 14 := hj; omega); exact hf) ?_; intro W2 hW2; replace hW2 := Lib.hid hW2)
              refine hI.out.step 8 _ (by decide) (fun _ => rfl) (by rw [hW2.out]; exact Only.setCells _ (.inr (.inr rfl)) _ _ (Only.refl _)) lts ?_ (fun q => by simp [h10] at q) (fun q => by simp)
              simp only [h10, hf2, beq_self_eq_true, Bool.true_or, if_true, Bool.or_false, show (13 == 8) = false from rfl, show (15 == 8) = false from rfl, Bool.false_eq_true, if_false]
              rw [hW2.out, hGm.out, setCells_app]
              have h1 := ms.out.putT (i := o + 2) (by have := Wle.out; omega) (G (o + 10))
              have h2 := h1.putT (i := o + 3) (by have := Wle.out; omega) (G (o + 11))
              rw [show (o + 2) * 7 = o * 7 + 2 * 7 by omega, show (o + 3) * 7 = o * 7 + 2 * 7 + 7 by omega] at h2
              exact h2
            · clear hd hL
              replace hI := Lib.hid hI
              simp only [QTail.putA, Nat.reduceAdd, Act.put, List.setIfInBounds_toArray, List.set_cons_succ, List.set_cons_zero]
              go_wp2
              exact hI.out.q 9 (by decide) (by decide) (by decide) (by decide)
            · have d9 : vs 9 = .slice (some ⟨A, o * 7, none⟩) 31 (N - o) := hI.val 9 (by decide) (by decide) (hd { on := 9, ground := Ground.data } (by simp) rfl)
              clear hd hL
              replace hI := Lib.hid hI
              simp only [QTail.putA, Nat.reduceAdd, Act.put, List.setIfInBounds_toArray, List.set_cons_succ, List.set_cons_zero, d9]
              go_wp2
              exact hI.out.q 10 (by decide) (by decide) (by decide) (by decide)
            · have d10 : vs 10 = .pointer (some ⟨A, o * 7 + 140, none⟩) := hI.val 10 (by decide) (by decide) (hd { on := 10, ground := Ground.data } (by simp) rfl)
              have sg : Hid (Seg W' A (o * 7 + 140) (G (o + 20)).L) := Lib.hid (by
                have h1 := hI.ms.arr (o + 20) (by have := Wle.out; omega)
                have e : (if L 13 = true then Gn else if L 8 = true then Gm else G) (o + 20) = G (o + 20) := by
                  rw [hGn.out, hGm.out]
                  split
                  · simp
                  · split
                    · simp
                    · rfl
                rw [e, Nat.add_mul] at h1
                exact h1)
              clear hd hL
              replace hI := Lib.hid hI
              simp only [QTail.putA, Nat.reduceAdd, Act.put, List.setIfInBounds_toArray, List.set_cons_succ, List.set_cons_zero, d10]
              go_wp2_with ((with_reducible refine wpList_at (o := ⟨some 409, .load 79 (.tmp 408), _, _, _, _⟩) ?_); refine wpList_load_seg (op := ⟨some 409, .load 79 (.tmp 408), _, _, _, _⟩) rfl 79 (.tmp 408) rfl A (o * 7 + 140) rfl ((G (o + 20)).L) _ Tryf.underlying79 rfl (i79 (G (o + 20))) sg.out ?_)
              exact hI.out.q 11 (by decide) (by decide) (by decide) (by decide)
            · have d11 : vs 11 = .agg (G (o + 20)).L.toArray := hI.val 11 (by decide) (by decide) (hd { on := 11, ground := Ground.data } (by simp) rfl)
              clear hd hL
              replace hI := Lib.hid hI
              simp only [QTail.putA, Nat.reduceAdd, Act.put, List.setIfInBounds_toArray, List.set_cons_succ, List.set_cons_zero, d11]
              go_wp2
              exact hI.out.n (by decide) (by decide) (by decide) 79
            · have d8 : vs 8 = .slice (some ⟨A, o * 7, none⟩) 4 (N - o) := hI.val 8 (by decide) (by decide) (hd { on := 8, ground := Ground.data } (by simp) rfl)
              have h10 : L 15 = false := by
                cases h : L 15 with
                | false => rfl
                | true => have := hI.ord.1 h; rw [hL] at this; cases this
              have hf1 := hd { on := 8, ground := Ground.data } (by simp) rfl
              have hf1 : L 8 = true := hf1
              obtain ⟨b, d12, b2, b3⟩ := hI.new (hd { on := 12, ground := Ground.data } (by simp) rfl)
              replace b3 := Lib.hid b3
              have ms := hI.ms
              simp only [hL, hf1, h10, Bool.false_eq_true, if_false, if_true] at ms
              clear hd
              replace hI := Lib.hid hI
              replace ms := Lib.hid ms
              simp only [QTail.putA, Nat.reduceAdd, Act.put, List.setIfInBounds_toArray, List.set_cons_succ, List.set_cons_zero, d8, d12]
              go_wp2_with (at_builtin; refine wpList_append_in (.tmp 406) (.tmp 410) A (o * 7) 4 (N - o : Nat) 1 1 ⟨b, 0, none⟩ (G (o + 20)).L rfl rfl rfl rfl rfl (fun j u hu => by rw [addN]; exact b3.out j u hu) (Tq.one _) (by have := Wle.out; omega) (fun j hj => by obtain ⟨v, hv, -⟩ := ms.out.ra (o * 7 + 4 * 7 + j) (by have := Wle.out; have hj' : j < 7 := hj; omega); rw [hv]; rfl) (fun j hj => by obtain ⟨v, -, hf⟩ := ms.out.ra (o * 7 + 4 * 7 + j) (by have := Wle.out; have hj' : j < 7 := hj; omega); exact hf) ?_; intro W2 hW2; replace hW2 := Lib.hid hW2)
              refine hI.out.step 13 _ (by decide) (fun _ => rfl) (by rw [hW2.out]; exact Only.setCells _ (.inr (.inr rfl)) _ _ (Only.refl _)) lts ?_ (fun q => by simp) (fun q => by simp [hf1])
              simp only [h10, hf1, beq_self_eq_true, Bool.true_or, if_true, Bool.or_false, show (15 == 13) = false from rfl, Bool.false_eq_true, if_false]
              rw [hW2.out, hGn.out]
              have h1 := ms.out.putT (i := o + 4) (by have := Wle.out; omega) (G (o + 20))
              rw [show (o + 4) * 7 = o * 7 + 4 * 7 by omega, hGm.out] at h1
              exact h1
            · have d3 : vs 3 = .pointer (some ⟨C, 0, none⟩) := hI.val 3 (by decide) (by decide) (hd { on := 3, ground := Ground.data } (by simp) rfl)
              clear hd hL
              replace hI := Lib.hid hI
              simp only [QTail.putA, Nat.reduceAdd, Act.put, List.setIfInBounds_toArray, List.set_cons_succ, List.set_cons_zero, d3]
              go_wp2
              exact hI.out.q 14 (by decide) (by decide) (by decide) (by decide)
            · have d14 : vs 14 = .pointer (some ⟨C, 0, none⟩) := hI.val 14 (by decide) (by decide) (hd { on := 14, ground := Ground.data } (by simp) rfl)
              have d13 : vs 13 = .slice (some ⟨A, o * 7, none⟩) 5 (N - o) := hI.val 13 (by decide) (by decide) (hd { on := 13, ground := Ground.data } (by simp) rfl)
              have lf : L 13 = true := hd { on := 13, ground := Ground.data } (by simp) rfl
              have lf1 : L 8 = true := hI.ord.2 lf
              have ms := hI.ms
              simp only [hL, lf, Bool.false_eq_true, if_false, if_true] at ms
              have kc := ms.ch
              have kcf : W'.frozen? ⟨C, 0, none⟩ = false := by obtain ⟨_, -, q⟩ := ms.rc 0 (by omega); exact q
              clear hd
              replace hI := Lib.hid hI
              replace ms := Lib.hid ms
              simp only [QTail.putA, Nat.reduceAdd, Act.put, List.setIfInBounds_toArray, List.set_cons_succ, List.set_cons_zero, d14, d13]
              go_wp2
              refine ⟨undef, hI.out.step 15 undef (by decide) (fun q => absurd rfl q) (Only.set (Only.refl _) _ _ (.inr (.inl rfl))) lts ?_ (fun _ => by simp [lf]) (fun _ => by simp [lf1])⟩
              simp only [lf, beq_self_eq_true, Bool.or_true, Bool.true_or, if_true]
              exact ms.out.kids (o' := o) (n' := 5) (by have := Wle.out; omega)
          intro vs wd hI
          have v0 : vs 0 = .pointer (some ⟨T, 0, none⟩) := hI.val 0 (by decide) (by decide) (by decide)
          have v1 : vs 1 = .pointer (some ⟨T, 0, none⟩) := hI.val 1 (by decide) (by decide) (by decide)
          have v2 : vs 2 = .pointer (some ⟨T, 0, none⟩) := hI.val 2 (by decide) (by decide) (by decide)
          have v3 : vs 3 = .pointer (some ⟨C, 0, none⟩) := hI.val 3 (by decide) (by decide) (by decide)
          have v4 : vs 4 = .slice (some ⟨A, o * 7, none⟩) 31 (N - o) := hI.val 4 (by decide) (by decide) (by decide)
          have v5 : vs 5 = .slice (some ⟨A, o * 7, none⟩) 2 (N - o) := hI.val 5 (by decide) (by decide) (by decide)
          have v6 : vs 6 = .slice (some ⟨A, o * 7, none⟩) 31 (N - o) := hI.val 6 (by decide) (by decide) (by decide)
          have v7 : vs 7 = .slice (some ⟨A, o * 7 + 70, none⟩) 2 (N - o - 10) := hI.val 7 (by decide) (by decide) (by decide)
          have v8 : vs 8 = .slice (some ⟨A, o * 7, none⟩) 4 (N - o) := hI.val 8 (by decide) (by decide) (by decide)
          have v9 : vs 9 = .slice (some ⟨A, o * 7, none⟩) 31 (N - o) := hI.val 9 (by decide) (by decide) (by decide)
          have v10 : vs 10 = .pointer (some ⟨A, o * 7 + 140, none⟩) := hI.val 10 (by decide) (by decide) (by decide)
          have v11 : vs 11 = .agg (G (o + 20)).L.toArray := hI.val 11 (by decide) (by decide) (by decide)
          have v13 : vs 13 = .slice (some ⟨A, o * 7, none⟩) 5 (N - o) := hI.val 13 (by decide) (by decide) (by decide)
          have v14 : vs 14 = .pointer (some ⟨C, 0, none⟩) := hI.val 14 (by decide) (by decide) (by decide)
          obtain ⟨bq, v12, -, -⟩ := hI.new (by decide)
          replace M : Hid (MS wd T C A N ⟨#[115, 99, 97, 108, 101, 51, 100]⟩ Gn o 5) := Lib.hid (by have := hI.ms; simpa using this)
          replace O := Lib.hid hI.O
          clear hI P lts Wle hGm
          simp only [QTail.putA, Nat.reduceAdd, Act.put, List.setIfInBounds_toArray, List.set_cons_succ, List.set_cons_zero, v0, v1, v2, v3, v4, v5, v6, v7, v8, v9, v10, v11, v12, v13, v14]
          clear v0 v1 v2 v3 v4 v5 v6 v7 v8 v9 v10 v11 v12 v13 v14
          obtain ⟨wc, rfl⟩ : ∃ x, x = wd := ⟨_, rfl⟩
          clear VS0 VS1
          have k0 : wc.cell? ⟨T, 0, none⟩ = some (.pointer (some ⟨C, 0, none⟩)) := by simpa using M.out.tok 0 _ rfl
          have kc := M.out.ch
          have kle := M.out.le
          have k6 : wc.cell? ⟨A, o * 7 + 6, none⟩ = some (.int .u8 (Gn o).ws) := M.out.arr o (by omega) 6 _ rfl
          have kf : wc.frozen? ⟨A, o * 7 + 6, none⟩ = false := by obtain ⟨_, -, q⟩ := M.out.ra (o * 7 + 6) (by omega); exact q
          generalize hws : (Gn o).ws = ws0 at k6
          replace hws := Lib.hid hws
          go_upto_region 152 with fail
          refine wp_gen (fun W9 hW9 => ?_)
          have M9 : Hid (MS W9 T C A N ⟨#[115, 99, 97, 108, 101, 51, 100]⟩ (setW Gn o (bits .and .u8 (Gn o).ws 254)) o 5) := Lib.hid (by
            rw [hW9, ← hws.out]
            have := M.out.setw (i := o) (v := bits .and .u8 (Gn o).ws 254) (by omega)
            exact this)
          have O9 : Hid (O3 T C A w W9) := Lib.hid (by rw [hW9]; exact O.out.set _ _ (.inr (.inr rfl)))
          clear hW9 k0 kc k6 kf hws
          have k0 : W9.cell? ⟨T, 0, none⟩ = some (.pointer (some ⟨C, 0, none⟩)) := by simpa using M9.out.tok 0 _ rfl
          generalize hG9 : setW Gn o (bits .and .u8 (Gn o).ws 254) = G9 at M9
          have ej : (o + 5 - 1) * 7 + 6 = o * 7 + 28 + 6 := by omega
          have k6 : W9.cell? ⟨A, o * 7 + 28 + 6, none⟩ = some (.int .u8 (G9 (o + 5 - 1)).ws) := by rw [← ej]; exact M9.out.arr (o + 5 - 1) (by omega) 6 _ rfl
          have kf : W9.frozen? ⟨A, o * 7 + 28 + 6, none⟩ = false := by rw [← ej]; obtain ⟨_, -, q⟩ := M9.out.ra ((o + 5 - 1) * 7 + 6) (by omega); exact q
          have hM := Lib.hid (M9.out.setw (i := o + 5 - 1) (v := bits .and .u8 (G9 (o + 5 - 1)).ws 253) (by omega))
          rw [ej] at hM
          generalize hws : (G9 (o + 5 - 1)).ws = ws1 at k6 hM
          replace hws := Lib.hid hws
          replace hG9 := Lib.hid hG9
          replace ej := Lib.hid ej
          go_wp2
          rw [rounds_succ]
          go_wp2
          go_ret
          refine ⟨rfl, ?_, O9.out.set _ _ (.inr (.inr rfl))⟩
          have ha : arm (mbit G o) 12 ⟨nm, G, o, 31⟩ = ⟨⟨#[115, 99, 97, 108, 101, 51, 100]⟩, Gn, o, 5⟩ := (by
              simp [arm, hmb.out, h0, h10, hGn.out]
              funext j
              by_cases e2 : j = o + 2
              · subst e2; simp
              · by_cases e3 : j = o + 3
                · subst e3; simp
                · simp [e2, e3])
          rw [ha]
          show MS _ T C A N ⟨#[115, 99, 97, 108, 101, 51, 100]⟩ (trm Gn o 5) o 5
          unfold trm
          rw [hG9.out, hws.out]
          exact hM.out
        | true =>
          have Z0 : Hid (∀ V, Calls Tryf.prog 17 #[.agg (G o).L.toArray] V (Gv (.bool true) V)) := Lib.hid (fun V => by have := isO_c (G o) V; rw [h0] at this; exact this)
          have Z10 : Hid (∀ V, Calls Tryf.prog 17 #[.agg (G (o + 10)).L.toArray] V (Gv (.bool true) V)) := Lib.hid (fun V => by have := isO_c (G (o + 10)) V; rw [h10] at this; exact this)
          go_upto_region 102 with (first | (go_at_call 17; (with_reducible refine (Z0.out _).mono ?_); rintro e wc ⟨rfl, bc⟩; replace M := Lib.hid (M.out.after bc); replace O := Lib.hid (O.out.trans (Only.of bc)); replace P := Lib.hid (P.out.trans (Only.of bc)); clear bc; have q := VS1.out _ P.out; have f0 := q 0 _ rfl; have f1 := q 1 _ rfl; have f2 := q 2 _ rfl; have f3 := q 3 _ rfl; have f4 := q 4 _ rfl; have f5 := q 5 _ rfl; have f6 := q 6 _ rfl; simp only [Nat.zero_add] at f0 f1 f2 f3 f4 f5 f6; clear q) | (go_at_call 17; (with_reducible refine (Z10.out _).mono ?_); rintro e wc ⟨rfl, bc⟩; replace M := Lib.hid (M.out.after bc); replace O := Lib.hid (O.out.trans (Only.of bc)); replace P := Lib.hid (P.out.trans (Only.of bc)); clear bc))
          clear Z0 Z10
          have k1 : wc.cell? ⟨T, 1, none⟩ = some (.string nm) := by simpa using M.out.tok 1 _ rfl
          have kf1 : wc.frozen? ⟨T, 1, none⟩ = false := by obtain ⟨_, -, q⟩ := M.out.rt 1 (by omega); exact q
          go_upto_region 103 with fail
          refine wp_gen (fun wd hWd => ?_)
          have M' : Hid (MS wd T C A N ⟨#[115, 99, 97, 108, 101, 90]⟩ G o 31) := Lib.hid (by rw [hWd]; exact M.out.name)
          have O' : Hid (O3 T C A w wd) := Lib.hid (by rw [hWd]; exact O.out.set _ _ (.inl rfl))
          have P' : Hid (O3 T C A W0 wd) := Lib.hid (by rw [hWd]; exact P.out.set _ _ (.inl rfl))
          clear k1 kf1 hWd M O
          have M := M'
          have O := O'
          clear M' O'
          clear P
          have P := P'
          clear P'
          obtain ⟨wc, rfl⟩ : ∃ x, x = wd := ⟨_, rfl⟩
          clear VS0 VS1 f0 f1 f2 f3 f4 f5 f6
          have sl : ∀ W : World, (Instr.sliceAt 27 (.slice (some ⟨A, o * 7, none⟩) 31 (N - o)) (some (.int .i64 20)) (some (.int .i64 21)) none).run Tryf.prog W = .ok (.slice (some ⟨A, o * 7 + 140, none⟩) 1 (N - o - 20)) W := fun W => sl_lh A (o * 7) 31 (N - o) 20 21 (by omega) (by omega) (by omega) W
          have k0 : wc.cell? ⟨T, 0, none⟩ = some (.pointer (some ⟨C, 0, none⟩)) := by simpa using M.out.tok 0 _ rfl
          have y := fun d os => cell_regrown k0 d os
          refine drawn_tail 7 (by kernel_rfl) (by kernel_rfl) (by kernel_rfl) (fun Q hQ => ?_)
          simp only [List.take_succ_cons, List.take_zero, List.drop_succ_cons, List.drop_zero]
          repeat (quiet_step (fail))
          refine wpQuiet_nil ?_
          intro wd hw
          have bc : Below wc.heap.size wc wd := by
            obtain ⟨⟨d, os⟩, rfl⟩ := hw
            exact below_regrown _ d os
          clear hw y k0 sl
          replace M := Lib.hid (M.out.after bc)
          replace O := Lib.hid (O.out.trans (Only.of bc))
          replace P := Lib.hid (P.out.trans (Only.of bc))
          clear bc
          obtain ⟨wc, rfl⟩ : ∃ x, x = wd := ⟨_, rfl⟩
          have kc := M.out.ch
          have kcf : wc.frozen? ⟨C, 0, none⟩ = false := by obtain ⟨_, -, q⟩ := M.out.rc 0 (by omega); exact q
          go_upto_region 149 with fail
          refine wp_gen (fun wd hWd => ?_)
          have M' : Hid (MS wd T C A N ⟨#[115, 99, 97, 108, 101, 90]⟩ G (o + 20) 1) := Lib.hid (by
            rw [hWd]
            have := M.out.kids (o' := (o + 20)) (n' := 1) (by have := M.out.le; omega)
            rw [show (o + 20) * 7 = o * 7 + 140 by omega, show N - (o + 20) = N - o - 20 by omega] at this
            exact this)
          have O' : Hid (O3 T C A w wd) := Lib.hid (by rw [hWd]; exact O.out.set _ _ (.inr (.inl rfl)))
          clear kc kcf hWd M O
          have M := M'
          have O := O'
          clear M' O'
          obtain ⟨wc, rfl⟩ : ∃ x, x = wd := ⟨_, rfl⟩
          have k0 : wc.cell? ⟨T, 0, none⟩ = some (.pointer (some ⟨C, 0, none⟩)) := by simpa using M.out.tok 0 _ rfl
          have kc := M.out.ch
          have kle := M.out.le
          have k6 : wc.cell? ⟨A, (o + 20) * 7 + 6, none⟩ = some (.int .u8 (G (o + 20)).ws) := M.out.arr (o + 20) (by omega) 6 _ rfl
          have kf : wc.frozen? ⟨A, (o + 20) * 7 + 6, none⟩ = false := by obtain ⟨_, -, q⟩ := M.out.ra ((o + 20) * 7 + 6) (by omega); exact q
          have oe : (o + 20) * 7 = o * 7 + 140 := by omega
          rw [oe] at kc k6 kf
          generalize hws : (G (o + 20)).ws = ws0 at k6
          replace hws := Lib.hid hws
          go_upto_region 152 with fail
          refine wp_gen (fun W9 hW9 => ?_)
          have M9 : Hid (MS W9 T C A N ⟨#[115, 99, 97, 108, 101, 90]⟩ (setW G (o + 20) (bits .and .u8 (G (o + 20)).ws 254)) (o + 20) 1) := Lib.hid (by
            rw [hW9, ← hws.out]
            have := M.out.setw (i := (o + 20)) (v := bits .and .u8 (G (o + 20)).ws 254) (by omega)
            rw [oe] at this; exact this)
          have O9 : Hid (O3 T C A w W9) := Lib.hid (by rw [hW9]; exact O.out.set _ _ (.inr (.inr rfl)))
          clear hW9 k0 kc k6 kf hws
          have k0 : W9.cell? ⟨T, 0, none⟩ = some (.pointer (some ⟨C, 0, none⟩)) := by simpa using M9.out.tok 0 _ rfl
          generalize hG9 : setW G (o + 20) (bits .and .u8 (G (o + 20)).ws 254) = G9 at M9
          have ej : ((o + 20) + 1 - 1) * 7 + 6 = o * 7 + 140 + 6 := by omega
          have k6 : W9.cell? ⟨A, o * 7 + 140 + 6, none⟩ = some (.int .u8 (G9 ((o + 20) + 1 - 1)).ws) := by rw [← ej]; exact M9.out.arr ((o + 20) + 1 - 1) (by omega) 6 _ rfl
          have kf : W9.frozen? ⟨A, o * 7 + 140 + 6, none⟩ = false := by rw [← ej]; obtain ⟨_, -, q⟩ := M9.out.ra (((o + 20) + 1 - 1) * 7 + 6) (by omega); exact q
          have hM := Lib.hid (M9.out.setw (i := (o + 20) + 1 - 1) (v := bits .and .u8 (G9 ((o + 20) + 1 - 1)).ws 253) (by omega))
          rw [ej] at hM
          generalize hws : (G9 ((o + 20) + 1 - 1)).ws = ws1 at k6 hM
          replace hws := Lib.hid hws
          replace hG9 := Lib.hid hG9
          replace ej := Lib.hid ej
          go_wp2
          rw [rounds_succ]
          go_wp2
          go_ret
          refine ⟨rfl, ?_, O9.out.set _ _ (.inr (.inr rfl))⟩
          have ha : arm (mbit G o) 12 ⟨nm, G, o, 31⟩ = ⟨⟨#[115, 99, 97, 108, 101, 90]⟩, G, o + 20, 1⟩ := (by simp [arm, hmb.out, h0, h10])
          rw [ha]
          show MS _ T C A N ⟨#[115, 99, 97, 108, 101, 90]⟩ (trm G (o + 20) 1) (o + 20) 1
          unfold trm
          rw [hG9.out, hws.out]
          exact hM.out
  · have hx5 : ((n : Int) == 31) = false := by simp; omega
    go_upto_region 149 with fail
    have k0 : wc.cell? ⟨T, 0, none⟩ = some (.pointer (some ⟨C, 0, none⟩)) := by simpa using M.out.tok 0 _ rfl
    have kc := M.out.ch
    have kle := M.out.le
    have k6 : wc.cell? ⟨A, o * 7 + 6, none⟩ = some (.int .u8 (G o).ws) := M.out.arr o (by omega) 6 _ rfl
    have kf : wc.frozen? ⟨A, o * 7 + 6, none⟩ = false := by obtain ⟨_, -, q⟩ := M.out.ra (o * 7 + 6) (by omega); exact q
    generalize hws : (G o).ws = ws0 at k6
    replace hws := Lib.hid hws
    have nt : ((n : Int) - 1).toNat = n - 1 := by omega
    have np : (0 : Int) < n := by omega
    have nn : (0 : Int) ≤ (n : Int) - 1 := by omega
    have nq : (n : Int) - 1 < n := by omega
    go_upto_region 152 with fail
    refine wp_gen (fun W9 hW9 => ?_)
    have M9 : Hid (MS W9 T C A N nm (setW G o (bits .and .u8 (G o).ws 254)) o n) := Lib.hid (by
      rw [hW9, ← hws.out]
      have := M.out.setw (i := o) (v := bits .and .u8 (G o).ws 254) (by omega)
      exact this)
    have O9 : Hid (O3 T C A w W9) := Lib.hid (by rw [hW9]; exact O.out.set _ _ (.inr (.inr rfl)))
    clear hW9 k0 kc k6 kf hws
    have k0 : W9.cell? ⟨T, 0, none⟩ = some (.pointer (some ⟨C, 0, none⟩)) := by simpa using M9.out.tok 0 _ rfl
    generalize hG9 : setW G o (bits .and .u8 (G o).ws 254) = G9 at M9
    have ej : (o + n - 1) * 7 + 6 = o * 7 + (n - 1) * 7 + 6 := by omega
    have k6 : W9.cell? ⟨A, o * 7 + (n - 1) * 7 + 6, none⟩ = some (.int .u8 (G9 (o + n - 1)).ws) := by rw [← ej]; exact M9.out.arr (o + n - 1) (by omega) 6 _ rfl
    have kf : W9.frozen? ⟨A, o * 7 + (n - 1) * 7 + 6, none⟩ = false := by rw [← ej]; obtain ⟨_, -, q⟩ := M9.out.ra ((o + n - 1) * 7 + 6) (by omega); exact q
    have hM := Lib.hid (M9.out.setw (i := o + n - 1) (v := bits .and .u8 (G9 (o + n - 1)).ws 253) (by omega))
    rw [ej] at hM
    generalize hws : (G9 (o + n - 1)).ws = ws1 at k6 hM
    replace hws := Lib.hid hws
    replace hG9 := Lib.hid hG9
    replace ej := Lib.hid ej
    go_wp2
    rw [rounds_succ]
    go_wp2
    go_ret
    refine ⟨rfl, ?_, O9.out.set _ _ (.inr (.inr rfl))⟩
    have ha : arm (mbit G o) 12 ⟨nm, G, o, n⟩ = ⟨nm, G, o, n⟩ := (by simp [arm, hn5])
    rw [ha]
    show MS _ T C A N nm (trm G o n) o n
    unfold trm
    rw [hG9.out, hws.out]
    exact hM.out
end Go.Proofs.YtoblbakaemglbaaFmt
