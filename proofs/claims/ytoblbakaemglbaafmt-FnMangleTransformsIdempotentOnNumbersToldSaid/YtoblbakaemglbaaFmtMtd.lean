/- FnMangleTransformsIdempotentOnNumbers: mangleTransforms walked, some of the names. -/
import Derived.Test.YtoblbakaemglbaaFmtMt6
import Derived.Deep.DeepCutAuto
import Derived.LoopN
set_option linter.unusedVariables false
set_option linter.unusedSimpArgs false
namespace Go.Proofs.YtoblbakaemglbaaFmt
open Go.RowKit
set_option maxRecDepth 100000 in
set_option maxHeartbeats 8000000 in
theorem mt_15 (low : ByteArray → ByteArray) (T C A N : Nat) (nm : ByteArray) (G : Nat → Tq) (o n m : Nat) (p : Option Addr) (w : World) (h : MS w T C A N nm G o n) (hN : N ≤ 8191) (alt : ∀ j, j < n → (G (o + j)).kd = if j % 2 = 0 then 30 else 10) (hn : n = 2 * m + 1) (hL : Low low w) (hnm : nm.size ≤ 1048576) (hlow : low nm = ⟨#[115, 99, 97, 108, 101, 51, 100]⟩) : Calls Tryf.prog 12 #[.pointer p, .slice (some ⟨T, 0, none⟩) 1 1] w (MtS T C A N (arm false 15 ⟨nm, G, o, n⟩) w) := by
  have hle := h.le
  have c5 : w.cell? ⟨T, 5, none⟩ = some (.int .u8 27) := by simpa using h.tok 5 _ rfl
  have c0 : w.cell? ⟨T, 0, none⟩ = some (.pointer (some ⟨C, 0, none⟩)) := by simpa using h.tok 0 _ rfl
  have c1 : w.cell? ⟨T, 1, none⟩ = some (.string nm) := by simpa using h.tok 1 _ rfl
  have cc := h.ch
  have C13 := Lib.hid (comma_c A (o * 7) m (N - o : Nat) w (by omega) (fun k hk => by
    have h1 := h.arr (o + (2 * k + 1)) (by omega) 5 _ rfl
    have h2 := alt (2 * k + 1) (by omega)
    rw [if_neg (by omega)] at h2
    rw [h2, Nat.add_mul] at h1
    exact h1))
  have C14 := Lib.hid (hL nm w hnm (Below.refl _ _))
  rw [hlow] at C14
  rw [← hn] at C13
  have n1 : 1 ≤ n := by omega
  have o30 : Hid (∀ i, i < n → i % 2 = 0 → w.cell? ⟨A, o * 7 + i * 7 + 5, none⟩ = some (.int .u8 30)) := Lib.hid (fun i hi he => by
    have h1 := h.arr (o + i) (by omega) 5 _ rfl
    have h2 := alt i hi
    rw [if_pos he] at h2
    rw [h2, Nat.add_mul] at h1
    exact h1)
  replace hn := Lib.hid hn
  replace h := Lib.hid h
  replace alt := Lib.hid alt
  clear hnm hlow hL
  go_enter Tryf.func12, Tryf.ntmps12
  go_wp2
  refine wp_loop_rounds 2 ?_
  rw [rounds_succ]
  go_upto_region 10 with (first | (go_at_call 13; (with_reducible refine C13.out.mono ?_); rintro e w2 ⟨rfl, rfl⟩) | (go_at_call 14; (with_reducible refine C14.out.mono ?_); rintro e w2 ⟨rfl, b2⟩; replace b2 := Lib.hid b2))
  clear C13 C14 c5 c1 c0 cc
  have M := Lib.hid (h.out.after b2.out)
  have O : Hid (O3 T C A w w2) := Lib.hid (Only.of b2.out)
  clear h b2 o30
  obtain ⟨wc, rfl⟩ : ∃ x, x = w2 := ⟨_, rfl⟩
  go_upto_region 119 with fail
  by_cases hn5 : n = 5
  · subst hn5
    have CA := Lib.hid (fun (V : World) (x : ByteArray) (hV : MS V T C A N x G o 5) => tpc_c A (o * 7) V (by
      have h1 := hV.arr (o + 0) (by omega) 5 _ rfl
      have h2 := alt.out 0 (by omega)
      rw [if_pos rfl] at h2
      rw [h2, Nat.add_mul] at h1
      simpa using h1))
    have CB := Lib.hid (fun (V : World) (x : ByteArray) (hV : MS V T C A N x G o 5) => tpc_c A (o * 7 + 14) V (by
      have h1 := hV.arr (o + 2) (by omega) 5 _ rfl
      have h2 := alt.out 2 (by omega)
      rw [if_pos rfl] at h2
      rw [h2, Nat.add_mul] at h1
      simpa using h1))
    have CC := Lib.hid (fun (V : World) (x : ByteArray) (hV : MS V T C A N x G o 5) => tpc_c A (o * 7 + 28) V (by
      have h1 := hV.arr (o + 4) (by omega) 5 _ rfl
      have h2 := alt.out 4 (by omega)
      rw [if_pos rfl] at h2
      rw [h2, Nat.add_mul] at h1
      simpa using h1))
    have S0 := Lib.hid (fun (V : World) (x : ByteArray) (hV : MS V T C A N x G o 5) => (by
      have h1 := hV.arr (o + 0) (by omega)
      rw [Nat.add_mul] at h1
      simpa using h1 : Seg V A (o * 7) (G o).L))
    have S2 := Lib.hid (fun (V : World) (x : ByteArray) (hV : MS V T C A N x G o 5) => (by
      have h1 := hV.arr (o + 2) (by omega)
      rw [Nat.add_mul] at h1
      simpa using h1 : Seg V A (o * 7 + 14) (G (o + 2)).L))
    go_upto_region 120 with fail
    refine QTail.wp_region_each (fun i v _ => v = ([.slice (some ⟨A, o * 7, none⟩) 5 (N - o), .pointer (some ⟨A, o * 7, none⟩), .slice (some ⟨A, o * 7, none⟩) 5 (N - o), .pointer (some ⟨A, o * 7 + 14, none⟩), .slice (some ⟨A, o * 7, none⟩) 5 (N - o), .pointer (some ⟨A, o * 7 + 28, none⟩), .pointer (some ⟨A, o * 7, none⟩), .pointer (some ⟨A, o * 7 + 14, none⟩), .pointer (some ⟨A, o * 7 + 28, none⟩)] : List Value).getD i undef) (fun W' => Below wc.heap.size wc W') (by kernel_rfl) (by kernel_rfl) (Below.refl _ _).drew ?_ ?_
    · refine ⟨?_, ?_, ?_, ?_, ?_, ?_, ?_, ?_, ?_, trivial⟩
      all_goals intro vs W' hC hd
      · clear hd
        replace hC := Lib.hid hC
        simp only [QTail.putA, Nat.reduceAdd, Act.put, List.setIfInBounds_toArray, List.set_cons_succ, List.set_cons_zero]
        go_wp2
        exact hC.out
      · have d0 : vs 0 = .slice (some ⟨A, o * 7, none⟩) 5 (N - o) := hd { on := 0, ground := Ground.data } (by simp) rfl
        clear hd
        replace hC := Lib.hid hC
        simp only [QTail.putA, Nat.reduceAdd, Act.put, List.setIfInBounds_toArray, List.set_cons_succ, List.set_cons_zero]
        go_wp2
        exact hC.out
      · clear hd
        replace hC := Lib.hid hC
        simp only [QTail.putA, Nat.reduceAdd, Act.put, List.setIfInBounds_toArray, List.set_cons_succ, List.set_cons_zero]
        go_wp2
        exact hC.out
      · have d2 : vs 2 = .slice (some ⟨A, o * 7, none⟩) 5 (N - o) := hd { on := 2, ground := Ground.data } (by simp) rfl
        clear hd
        replace hC := Lib.hid hC
        simp only [QTail.putA, Nat.reduceAdd, Act.put, List.setIfInBounds_toArray, List.set_cons_succ, List.set_cons_zero]
        go_wp2
        exact hC.out
      · clear hd
        replace hC := Lib.hid hC
        simp only [QTail.putA, Nat.reduceAdd, Act.put, List.setIfInBounds_toArray, List.set_cons_succ, List.set_cons_zero]
        go_wp2
        exact hC.out
      · have d4 : vs 4 = .slice (some ⟨A, o * 7, none⟩) 5 (N - o) := hd { on := 4, ground := Ground.data } (by simp) rfl
        clear hd
        replace hC := Lib.hid hC
        simp only [QTail.putA, Nat.reduceAdd, Act.put, List.setIfInBounds_toArray, List.set_cons_succ, List.set_cons_zero]
        go_wp2
        exact hC.out
      · have d1 : vs 1 = .pointer (some ⟨A, o * 7, none⟩) := hd { on := 1, ground := Ground.data } (by simp) rfl
        clear hd
        replace hC := Lib.hid hC
        simp only [QTail.putA, Nat.reduceAdd, Act.put, List.setIfInBounds_toArray, List.set_cons_succ, List.set_cons_zero]
        go_wp2
        exact hC.out
      · have d3 : vs 3 = .pointer (some ⟨A, o * 7 + 14, none⟩) := hd { on := 3, ground := Ground.data } (by simp) rfl
        clear hd
        replace hC := Lib.hid hC
        simp only [QTail.putA, Nat.reduceAdd, Act.put, List.setIfInBounds_toArray, List.set_cons_succ, List.set_cons_zero]
        go_wp2
        exact hC.out
      · have d5 : vs 5 = .pointer (some ⟨A, o * 7 + 28, none⟩) := hd { on := 5, ground := Ground.data } (by simp) rfl
        clear hd
        replace hC := Lib.hid hC
        simp only [QTail.putA, Nat.reduceAdd, Act.put, List.setIfInBounds_toArray, List.set_cons_succ, List.set_cons_zero]
        go_wp2
        exact hC.out
    intro vs wd bc hv
    have v0 : vs 0 = .slice (some ⟨A, o * 7, none⟩) 5 (N - o) := hv 0 (by decide)
    have v1 : vs 1 = .pointer (some ⟨A, o * 7, none⟩) := hv 1 (by decide)
    have v2 : vs 2 = .slice (some ⟨A, o * 7, none⟩) 5 (N - o) := hv 2 (by decide)
    have v3 : vs 3 = .pointer (some ⟨A, o * 7 + 14, none⟩) := hv 3 (by decide)
    have v4 : vs 4 = .slice (some ⟨A, o * 7, none⟩) 5 (N - o) := hv 4 (by decide)
    have v5 : vs 5 = .pointer (some ⟨A, o * 7 + 28, none⟩) := hv 5 (by decide)
    have v6 : vs 6 = .pointer (some ⟨A, o * 7, none⟩) := hv 6 (by decide)
    have v7 : vs 7 = .pointer (some ⟨A, o * 7 + 14, none⟩) := hv 7 (by decide)
    have v8 : vs 8 = .pointer (some ⟨A, o * 7 + 28, none⟩) := hv 8 (by decide)
    clear hv
    simp only [QTail.putA, Nat.reduceAdd, Act.put, List.setIfInBounds_toArray, List.set_cons_succ, List.set_cons_zero, v0, v1, v2, v3, v4, v5, v6, v7, v8]
    clear v0 v1 v2 v3 v4 v5 v6 v7 v8
    replace M := Lib.hid (M.out.after bc)
    replace O := Lib.hid (O.out.trans (Only.of bc))
    clear bc
    obtain ⟨wc, rfl⟩ : ∃ x, x = wd := ⟨_, rfl⟩
    cases h0 : isO (G o) with
    | false =>
      have ZO0 : Hid (∀ V, Calls Tryf.prog 17 #[.agg (G o).L.toArray] V (Gv (.bool false) V)) := Lib.hid (fun V => by have := isO_c (G o) V; rw [h0] at this; exact this)
      go_upto_region 149 with (first | (go_at_call 19; (with_reducible refine (CA.out _ _ M.out).mono ?_); rintro e wc ⟨rfl, bc⟩; replace M := Lib.hid (M.out.after bc); replace O := Lib.hid (O.out.trans (Only.of bc)); clear bc) | (go_at_call 19; (with_reducible refine (CB.out _ _ M.out).mono ?_); rintro e wc ⟨rfl, bc⟩; replace M := Lib.hid (M.out.after bc); replace O := Lib.hid (O.out.trans (Only.of bc)); clear bc) | (go_at_call 19; (with_reducible refine (CC.out _ _ M.out).mono ?_); rintro e wc ⟨rfl, bc⟩; replace M := Lib.hid (M.out.after bc); replace O := Lib.hid (O.out.trans (Only.of bc)); clear bc) | ((with_reducible refine wpList_at (o := ⟨some 474, .load 79 (.tmp 473), _, _, _, _⟩) ?_); refine wpList_load_seg (op := ⟨some 474, .load 79 (.tmp 473), _, _, _, _⟩) rfl 79 (.tmp 473) rfl A (o * 7) rfl ((G o).L) _ Tryf.underlying79 rfl (i79 (G o)) (S0.out _ _ M.out) ?_) | ((with_reducible refine wpList_at (o := ⟨some 479, .load 79 (.tmp 478), _, _, _, _⟩) ?_); refine wpList_load_seg (op := ⟨some 479, .load 79 (.tmp 478), _, _, _, _⟩) rfl 79 (.tmp 478) rfl A (o * 7 + 14) rfl ((G (o + 2)).L) _ Tryf.underlying79 rfl (i79 (G (o + 2))) (S2.out _ _ M.out) ?_) | (go_at_call 17; (with_reducible refine (ZO0.out _).mono ?_); rintro e wc ⟨rfl, bc⟩; replace M := Lib.hid (M.out.after bc); replace O := Lib.hid (O.out.trans (Only.of bc)); clear bc))
      clear CA CB CC S0 S2 ZO0
      have k0 : wc.cell? ⟨T, 0, none⟩ = some (.pointer (some ⟨C, 0, none⟩)) := by simpa using M.out.tok 0 _ rfl
      have kc := M.out.ch
      have kle := M.out.le
      have k6 : wc.cell? ⟨A, o * 7 + 6, none⟩ = some (.int .u8 (G o).ws) := M.out.arr o (by omega) 6 _ rfl
      have kf : wc.frozen? ⟨A, o * 7 + 6, none⟩ = false := by obtain ⟨_, -, q⟩ := M.out.ra (o * 7 + 6) (by omega); exact q
      generalize hws : (G o).ws = ws0 at k6
      replace hws := Lib.hid hws
      go_upto_region 152 with fail
      refine wp_gen (fun W9 hW9 => ?_)
      have M9 : Hid (MS W9 T C A N nm (setW G o (bits .and .u8 (G o).ws 254)) o 5) := Lib.hid (by
        rw [hW9, ← hws.out]
        have := M.out.setw (i := o) (v := bits .and .u8 (G o).ws 254) (by omega)
        exact this)
      have O9 : Hid (O3 T C A w W9) := Lib.hid (by rw [hW9]; exact O.out.set _ _ (.inr (.inr rfl)))
      clear hW9 k0 kc k6 kf hws
      have k0 : W9.cell? ⟨T, 0, none⟩ = some (.pointer (some ⟨C, 0, none⟩)) := by simpa using M9.out.tok 0 _ rfl
      generalize hG9 : setW G o (bits .and .u8 (G o).ws 254) = G9 at M9
      have ej : (o + 5 - 1) * 7 + 6 = o * 7 + 28 + 6 := by omega
      have k6 : W9.cell? ⟨A, o * 7 + 28 + 6, none⟩ = some (.int .u8 (G9 (o + 5 - 1)).ws) := by rw [← ej]; exact M9.out.arr (o + 5 - 1) (by omega) 6 _ rfl
      have kf : W9.frozen? ⟨A, o * 7 + 28 + 6, none⟩ = false := by rw [← ej]; obtain ⟨_, -, q⟩ := M9.out.ra ((o + 5 - 1) * 7 + 6) (by omega); exact q
      have hM := Lib.hid (M9.out.setw (i := o + 5 - 1) (v := bits .and .u8 (G9 (o + 5 - 1)).ws 253) (by omega))
      rw [ej] at hM
      generalize hws : (G9 (o + 5 - 1)).ws = ws1 at k6 hM
      replace hws := Lib.hid hws
      replace hG9 := Lib.hid hG9
      replace ej := Lib.hid ej
      go_wp2
      rw [rounds_succ]
      go_wp2
      go_ret
      refine ⟨rfl, ?_, O9.out.set _ _ (.inr (.inr rfl))⟩
      have ha : arm false 15 ⟨nm, G, o, 5⟩ = ⟨nm, G, o, 5⟩ := (by simp [arm, h0])
      rw [ha]
      show MS _ T C A N nm (trm G o 5) o 5
      unfold trm
      rw [hG9.out, hws.out]
      exact hM.out
    | true =>
    cases h2 : isO (G (o + 2)) with
    | false =>
      have ZO0 : Hid (∀ V, Calls Tryf.prog 17 #[.agg (G o).L.toArray] V (Gv (.bool true) V)) := Lib.hid (fun V => by have := isO_c (G o) V; rw [h0] at this; exact this)
      have ZO2 : Hid (∀ V, Calls Tryf.prog 17 #[.agg (G (o + 2)).L.toArray] V (Gv (.bool false) V)) := Lib.hid (fun V => by have := isO_c (G (o + 2)) V; rw [h2] at this; exact this)
      go_upto_region 149 with (first | (go_at_call 19; (with_reducible refine (CA.out _ _ M.out).mono ?_); rintro e wc ⟨rfl, bc⟩; replace M := Lib.hid (M.out.after bc); replace O := Lib.hid (O.out.trans (Only.of bc)); clear bc) | (go_at_call 19; (with_reducible refine (CB.out _ _ M.out).mono ?_); rintro e wc ⟨rfl, bc⟩; replace M := Lib.hid (M.out.after bc); replace O := Lib.hid (O.out.trans (Only.of bc)); clear bc) | (go_at_call 19; (with_reducible refine (CC.out _ _ M.out).mono ?_); rintro e wc ⟨rfl, bc⟩; replace M := Lib.hid (M.out.after bc); replace O := Lib.hid (O.out.trans (Only.of bc)); clear bc) | ((with_reducible refine wpList_at (o := ⟨some 474, .load 79 (.tmp 473), _, _, _, _⟩) ?_); refine wpList_load_seg (op := ⟨some 474, .load 79 (.tmp 473), _, _, _, _⟩) rfl 79 (.tmp 473) rfl A (o * 7) rfl ((G o).L) _ Tryf.underlying79 rfl (i79 (G o)) (S0.out _ _ M.out) ?_) | ((with_reducible refine wpList_at (o := ⟨some 479, .load 79 (.tmp 478), _, _, _, _⟩) ?_); refine wpList_load_seg (op := ⟨some 479, .load 79 (.tmp 478), _, _, _, _⟩) rfl 79 (.tmp 478) rfl A (o * 7 + 14) rfl ((G (o + 2)).L) _ Tryf.underlying79 rfl (i79 (G (o + 2))) (S2.out _ _ M.out) ?_) | (go_at_call 17; (with_reducible refine (ZO0.out _).mono ?_); rintro e wc ⟨rfl, bc⟩; replace M := Lib.hid (M.out.after bc); replace O := Lib.hid (O.out.trans (Only.of bc)); clear bc; have q := S2.out _ _ M.out; have f0 := q 0 _ rfl; have f1 := q 1 _ rfl; have f2 := q 2 _ rfl; have f3 := q 3 _ rfl; have f4 := q 4 _ rfl; have f5 := q 5 _ rfl; have f6 := q 6 _ rfl; simp only [Nat.add_zero] at f0; clear q) | (go_at_call 17; (with_reducible refine (ZO2.out _).mono ?_); rintro e wc ⟨rfl, bc⟩; replace M := Lib.hid (M.out.after bc); replace O := Lib.hid (O.out.trans (Only.of bc)); clear bc))
      clear CA CB CC S0 S2 ZO0 ZO2
      have k0 : wc.cell? ⟨T, 0, none⟩ = some (.pointer (some ⟨C, 0, none⟩)) := by simpa using M.out.tok 0 _ rfl
      have kc := M.out.ch
      have kle := M.out.le
      have k6 : wc.cell? ⟨A, o * 7 + 6, none⟩ = some (.int .u8 (G o).ws) := M.out.arr o (by omega) 6 _ rfl
      have kf : wc.frozen? ⟨A, o * 7 + 6, none⟩ = false := by obtain ⟨_, -, q⟩ := M.out.ra (o * 7 + 6) (by omega); exact q
      generalize hws : (G o).ws = ws0 at k6
      replace hws := Lib.hid hws
      go_upto_region 152 with fail
      refine wp_gen (fun W9 hW9 => ?_)
      have M9 : Hid (MS W9 T C A N nm (setW G o (bits .and .u8 (G o).ws 254)) o 5) := Lib.hid (by
        rw [hW9, ← hws.out]
        have := M.out.setw (i := o) (v := bits .and .u8 (G o).ws 254) (by omega)
        exact this)
      have O9 : Hid (O3 T C A w W9) := Lib.hid (by rw [hW9]; exact O.out.set _ _ (.inr (.inr rfl)))
      clear hW9 k0 kc k6 kf hws
      have k0 : W9.cell? ⟨T, 0, none⟩ = some (.pointer (some ⟨C, 0, none⟩)) := by simpa using M9.out.tok 0 _ rfl
      generalize hG9 : setW G o (bits .and .u8 (G o).ws 254) = G9 at M9
      have ej : (o + 5 - 1) * 7 + 6 = o * 7 + 28 + 6 := by omega
      have k6 : W9.cell? ⟨A, o * 7 + 28 + 6, none⟩ = some (.int .u8 (G9 (o + 5 - 1)).ws) := by rw [← ej]; exact M9.out.arr (o + 5 - 1) (by omega) 6 _ rfl
      have kf : W9.frozen? ⟨A, o * 7 + 28 + 6, none⟩ = false := by rw [← ej]; obtain ⟨_, -, q⟩ := M9.out.ra ((o + 5 - 1) * 7 + 6) (by omega); exact q
      have hM := Lib.hid (M9.out.setw (i := o + 5 - 1) (v := bits .and .u8 (G9 (o + 5 - 1)).ws 253) (by omega))
      rw [ej] at hM
      generalize hws : (G9 (o + 5 - 1)).ws = ws1 at k6 hM
      replace hws := Lib.hid hws
      replace hG9 := Lib.hid hG9
      replace ej := Lib.hid ej
      go_wp2
      rw [rounds_succ]
      go_wp2
      go_ret
      refine ⟨rfl, ?_, O9.out.set _ _ (.inr (.inr rfl))⟩
      have ha : arm false 15 ⟨nm, G, o, 5⟩ = ⟨nm, G, o, 5⟩ := (by simp [arm, h0, h2])
      rw [ha]
      show MS _ T C A N nm (trm G o 5) o 5
      unfold trm
      rw [hG9.out, hws.out]
      exact hM.out
    | true =>
      have ZO0 : Hid (∀ V, Calls Tryf.prog 17 #[.agg (G o).L.toArray] V (Gv (.bool true) V)) := Lib.hid (fun V => by have := isO_c (G o) V; rw [h0] at this; exact this)
      have ZO2 : Hid (∀ V, Calls Tryf.prog 17 #[.agg (G (o + 2)).L.toArray] V (Gv (.bool true) V)) := Lib.hid (fun V => by have := isO_c (G (o + 2)) V; rw [h2] at this; exact this)
      go_upto_region 125 with (first | (go_at_call 19; (with_reducible refine (CA.out _ _ M.out).mono ?_); rintro e wc ⟨rfl, bc⟩; replace M := Lib.hid (M.out.after bc); replace O := Lib.hid (O.out.trans (Only.of bc)); clear bc) | (go_at_call 19; (with_reducible refine (CB.out _ _ M.out).mono ?_); rintro e wc ⟨rfl, bc⟩; replace M := Lib.hid (M.out.after bc); replace O := Lib.hid (O.out.trans (Only.of bc)); clear bc) | (go_at_call 19; (with_reducible refine (CC.out _ _ M.out).mono ?_); rintro e wc ⟨rfl, bc⟩; replace M := Lib.hid (M.out.after bc); replace O := Lib.hid (O.out.trans (Only.of bc)); clear bc) | ((with_reducible refine wpList_at (o := ⟨some 474, .load 79 (.tmp 473), _, _, _, _⟩) ?_); refine wpList_load_seg (op := ⟨some 474, .load 79 (.tmp 473), _, _, _, _⟩) rfl 79 (.tmp 473) rfl A (o * 7) rfl ((G o).L) _ Tryf.underlying79 rfl (i79 (G o)) (S0.out _ _ M.out) ?_) | ((with_reducible refine wpList_at (o := ⟨some 479, .load 79 (.tmp 478), _, _, _, _⟩) ?_); refine wpList_load_seg (op := ⟨some 479, .load 79 (.tmp 478), _, _, _, _⟩) rfl 79 (.tmp 478) rfl A (o * 7 + 14) rfl ((G (o + 2)).L) _ Tryf.underlying79 rfl (i79 (G (o + 2))) (S2.out _ _ M.out) ?_) | (go_at_call 17; (with_reducible refine (ZO0.out _).mono ?_); rintro e wc ⟨rfl, bc⟩; replace M := Lib.hid (M.out.after bc); replace O := Lib.hid (O.out.trans (Only.of bc)); clear bc; have q := S2.out _ _ M.out; have f0 := q 0 _ rfl; have f1 := q 1 _ rfl; have f2 := q 2 _ rfl; have f3 := q 3 _ rfl; have f4 := q 4 _ rfl; have f5 := q 5 _ rfl; have f6 := q 6 _ rfl; simp only [Nat.add_zero] at f0; clear q) | (go_at_call 17; (with_reducible refine (ZO2.out _).mono ?_); rintro e wc ⟨rfl, bc⟩; replace M := Lib.hid (M.out.after bc); replace O := Lib.hid (O.out.trans (Only.of bc)); clear bc))
      clear CA CB CC S0 S2 ZO0 ZO2
      have k1 : wc.cell? ⟨T, 1, none⟩ = some (.string nm) := by simpa using M.out.tok 1 _ rfl
      have kf1 : wc.frozen? ⟨T, 1, none⟩ = false := by obtain ⟨_, -, q⟩ := M.out.rt 1 (by omega); exact q
      go_upto_region 126 with fail
      refine wp_gen (fun wd hWd => ?_)
      have M' : Hid (MS wd T C A N ⟨#[115, 99, 97, 108, 101, 90]⟩ G o 5) := Lib.hid (by rw [hWd]; exact M.out.name)
      have O' : Hid (O3 T C A w wd) := Lib.hid (by rw [hWd]; exact O.out.set _ _ (.inl rfl))
      clear k1 kf1 hWd M O
      have M := M'
      have O := O'
      clear M' O'
      obtain ⟨wc, rfl⟩ : ∃ x, x = wd := ⟨_, rfl⟩
      have sl : ∀ W : World, (Instr.sliceAt 27 (.slice (some ⟨A, o * 7, none⟩) 5 (N - o)) (some (.int .i64 4)) none none).run Tryf.prog W = .ok (.slice (some ⟨A, o * 7 + 28, none⟩) 1 (N - o - 4)) W := fun W => sl_l A (o * 7) 5 (N - o) 4 (by omega) (by omega) W
      have k0 : wc.cell? ⟨T, 0, none⟩ = some (.pointer (some ⟨C, 0, none⟩)) := by simpa using M.out.tok 0 _ rfl
      have y := fun d os => cell_regrown k0 d os
      refine drawn_tail 7 (by kernel_rfl) (by kernel_rfl) (by kernel_rfl) (fun Q hQ => ?_)
      simp only [List.take_succ_cons, List.take_zero, List.drop_succ_cons, List.drop_zero]
      repeat (quiet_step (fail))
      refine wpQuiet_nil ?_
      intro wd hw
      have bc : Below wc.heap.size wc wd := by
        obtain ⟨⟨d, os⟩, rfl⟩ := hw
        exact below_regrown _ d os
      clear hw y k0 sl
      replace M := Lib.hid (M.out.after bc)
      replace O := Lib.hid (O.out.trans (Only.of bc))
      clear bc
      obtain ⟨wc, rfl⟩ : ∃ x, x = wd := ⟨_, rfl⟩
      have kc := M.out.ch
      have kcf : wc.frozen? ⟨C, 0, none⟩ = false := by obtain ⟨_, -, q⟩ := M.out.rc 0 (by omega); exact q
      go_upto_region 149 with fail
      refine wp_gen (fun wd hWd => ?_)
      have M' : Hid (MS wd T C A N ⟨#[115, 99, 97, 108, 101, 90]⟩ G (o + 4) 1) := Lib.hid (by
        rw [hWd]
        have := M.out.kids (o' := (o + 4)) (n' := 1) (by have := M.out.le; omega)
        rw [show (o + 4) * 7 = o * 7 + 28 by omega, show N - (o + 4) = N - o - 4 by omega] at this
        exact this)
      have O' : Hid (O3 T C A w wd) := Lib.hid (by rw [hWd]; exact O.out.set _ _ (.inr (.inl rfl)))
      clear kc kcf hWd M O
      have M := M'
      have O := O'
      clear M' O'
      obtain ⟨wc, rfl⟩ : ∃ x, x = wd := ⟨_, rfl⟩
      have k0 : wc.cell? ⟨T, 0, none⟩ = some (.pointer (some ⟨C, 0, none⟩)) := by simpa using M.out.tok 0 _ rfl
      have kc := M.out.ch
      have kle := M.out.le
      have k6 : wc.cell? ⟨A, (o + 4) * 7 + 6, none⟩ = some (.int .u8 (G (o + 4)).ws) := M.out.arr (o + 4) (by omega) 6 _ rfl
      have kf : wc.frozen? ⟨A, (o + 4) * 7 + 6, none⟩ = false := by obtain ⟨_, -, q⟩ := M.out.ra ((o + 4) * 7 + 6) (by omega); exact q
      have oe : (o + 4) * 7 = o * 7 + 28 := by omega
      rw [oe] at kc k6 kf
      generalize hws : (G (o + 4)).ws = ws0 at k6
      replace hws := Lib.hid hws
      go_upto_region 152 with fail
      refine wp_gen (fun W9 hW9 => ?_)
      have M9 : Hid (MS W9 T C A N ⟨#[115, 99, 97, 108, 101, 90]⟩ (setW G (o + 4) (bits .and .u8 (G (o + 4)).ws 254)) (o + 4) 1) := Lib.hid (by
        rw [hW9, ← hws.out]
        have := M.out.setw (i := (o + 4)) (v := bits .and .u8 (G (o + 4)).ws 254) (by omega)
        rw [oe] at this; exact this)
      have O9 : Hid (O3 T C A w W9) := Lib.hid (by rw [hW9]; exact O.out.set _ _ (.inr (.inr rfl)))
      clear hW9 k0 kc k6 kf hws
      have k0 : W9.cell? ⟨T, 0, none⟩ = some (.pointer (some ⟨C, 0, none⟩)) := by simpa using M9.out.tok 0 _ rfl
      generalize hG9 : setW G (o + 4) (bits .and .u8 (G (o + 4)).ws 254) = G9 at M9
      have ej : ((o + 4) + 1 - 1) * 7 + 6 = o * 7 + 28 + 6 := by omega
      have k6 : W9.cell? ⟨A, o * 7 + 28 + 6, none⟩ = some (.int .u8 (G9 ((o + 4) + 1 - 1)).ws) := by rw [← ej]; exact M9.out.arr ((o + 4) + 1 - 1) (by omega) 6 _ rfl
      have kf : W9.frozen? ⟨A, o * 7 + 28 + 6, none⟩ = false := by rw [← ej]; obtain ⟨_, -, q⟩ := M9.out.ra (((o + 4) + 1 - 1) * 7 + 6) (by omega); exact q
      have hM := Lib.hid (M9.out.setw (i := (o + 4) + 1 - 1) (v := bits .and .u8 (G9 ((o + 4) + 1 - 1)).ws 253) (by omega))
      rw [ej] at hM
      generalize hws : (G9 ((o + 4) + 1 - 1)).ws = ws1 at k6 hM
      replace hws := Lib.hid hws
      replace hG9 := Lib.hid hG9
      replace ej := Lib.hid ej
      go_wp2
      rw [rounds_succ]
      go_wp2
      go_ret
      refine ⟨rfl, ?_, O9.out.set _ _ (.inr (.inr rfl))⟩
      have ha : arm false 15 ⟨nm, G, o, 5⟩ = ⟨⟨#[115, 99, 97, 108, 101, 90]⟩, G, o + 4, 1⟩ := (by simp [arm, h0, h2])
      rw [ha]
      show MS _ T C A N ⟨#[115, 99, 97, 108, 101, 90]⟩ (trm G (o + 4) 1) (o + 4) 1
      unfold trm
      rw [hG9.out, hws.out]
      exact hM.out
  · have hx5 : ((n : Int) == 5) = false := by simp; omega
    go_upto_region 149 with fail
    have k0 : wc.cell? ⟨T, 0, none⟩ = some (.pointer (some ⟨C, 0, none⟩)) := by simpa using M.out.tok 0 _ rfl
    have kc := M.out.ch
    have kle := M.out.le
    have k6 : wc.cell? ⟨A, o * 7 + 6, none⟩ = some (.int .u8 (G o).ws) := M.out.arr o (by omega) 6 _ rfl
    have kf : wc.frozen? ⟨A, o * 7 + 6, none⟩ = false := by obtain ⟨_, -, q⟩ := M.out.ra (o * 7 + 6) (by omega); exact q
    generalize hws : (G o).ws = ws0 at k6
    replace hws := Lib.hid hws
    have nt : ((n : Int) - 1).toNat = n - 1 := by omega
    have np : (0 : Int) < n := by omega
    have nn : (0 : Int) ≤ (n : Int) - 1 := by omega
    have nq : (n : Int) - 1 < n := by omega
    go_upto_region 152 with fail
    refine wp_gen (fun W9 hW9 => ?_)
    have M9 : Hid (MS W9 T C A N nm (setW G o (bits .and .u8 (G o).ws 254)) o n) := Lib.hid (by
      rw [hW9, ← hws.out]
      have := M.out.setw (i := o) (v := bits .and .u8 (G o).ws 254) (by omega)
      exact this)
    have O9 : Hid (O3 T C A w W9) := Lib.hid (by rw [hW9]; exact O.out.set _ _ (.inr (.inr rfl)))
    clear hW9 k0 kc k6 kf hws
    have k0 : W9.cell? ⟨T, 0, none⟩ = some (.pointer (some ⟨C, 0, none⟩)) := by simpa using M9.out.tok 0 _ rfl
    generalize hG9 : setW G o (bits .and .u8 (G o).ws 254) = G9 at M9
    have ej : (o + n - 1) * 7 + 6 = o * 7 + (n - 1) * 7 + 6 := by omega
    have k6 : W9.cell? ⟨A, o * 7 + (n - 1) * 7 + 6, none⟩ = some (.int .u8 (G9 (o + n - 1)).ws) := by rw [← ej]; exact M9.out.arr (o + n - 1) (by omega) 6 _ rfl
    have kf : W9.frozen? ⟨A, o * 7 + (n - 1) * 7 + 6, none⟩ = false := by rw [← ej]; obtain ⟨_, -, q⟩ := M9.out.ra ((o + n - 1) * 7 + 6) (by omega); exact q
    have hM := Lib.hid (M9.out.setw (i := o + n - 1) (v := bits .and .u8 (G9 (o + n - 1)).ws 253) (by omega))
    rw [ej] at hM
    generalize hws : (G9 (o + n - 1)).ws = ws1 at k6 hM
    replace hws := Lib.hid hws
    replace hG9 := Lib.hid hG9
    replace ej := Lib.hid ej
    go_wp2
    rw [rounds_succ]
    go_wp2
    go_ret
    refine ⟨rfl, ?_, O9.out.set _ _ (.inr (.inr rfl))⟩
    have ha : arm false 15 ⟨nm, G, o, n⟩ = ⟨nm, G, o, n⟩ := (by simp [arm, hn5])
    rw [ha]
    show MS _ T C A N nm (trm G o n) o n
    unfold trm
    rw [hG9.out, hws.out]
    exact hM.out
end Go.Proofs.YtoblbakaemglbaaFmt
