/- FnMangleTransformsIdempotentOnNumbers: mangleTransforms walked, matrix. -/
import Derived.Test.YtoblbakaemglbaaFmtMtf
import Derived.Deep.DeepCutAuto
import Derived.LoopN
set_option linter.unusedVariables false
set_option linter.unusedSimpArgs false
namespace Go.Proofs.YtoblbakaemglbaaFmt
open Go.RowKit
set_option maxRecDepth 100000 in
set_option maxHeartbeats 8000000 in
theorem mt_0 (low : ByteArray → ByteArray) (T C A N : Nat) (nm : ByteArray) (G : Nat → Tq) (o n m : Nat) (p : Option Addr) (w : World) (h : MS w T C A N nm G o n) (hN : N ≤ 8191) (alt : ∀ j, j < n → (G (o + j)).kd = if j % 2 = 0 then 30 else 10) (hn : n = 2 * m + 1) (hL : Low low w) (hnm : nm.size ≤ 1048576) (hlow : low nm = ⟨#[109, 97, 116, 114, 105, 120]⟩) : Calls Tryf.prog 12 #[.pointer p, .slice (some ⟨T, 0, none⟩) 1 1] w (MtS T C A N (arm false 0 ⟨nm, G, o, n⟩) w) := by
  have hle := h.le
  have c5 : w.cell? ⟨T, 5, none⟩ = some (.int .u8 27) := by simpa using h.tok 5 _ rfl
  have c0 : w.cell? ⟨T, 0, none⟩ = some (.pointer (some ⟨C, 0, none⟩)) := by simpa using h.tok 0 _ rfl
  have c1 : w.cell? ⟨T, 1, none⟩ = some (.string nm) := by simpa using h.tok 1 _ rfl
  have cc := h.ch
  have C13 := Lib.hid (comma_c A (o * 7) m (N - o : Nat) w (by omega) (fun k hk => by
    have h1 := h.arr (o + (2 * k + 1)) (by omega) 5 _ rfl
    have h2 := alt (2 * k + 1) (by omega)
    rw [if_neg (by omega)] at h2
    rw [h2, Nat.add_mul] at h1
    exact h1))
  have C14 := Lib.hid (hL nm w hnm (Below.refl _ _))
  rw [hlow] at C14
  rw [← hn] at C13
  have n1 : 1 ≤ n := by omega
  have o30 : Hid (∀ i, i < n → i % 2 = 0 → w.cell? ⟨A, o * 7 + i * 7 + 5, none⟩ = some (.int .u8 30)) := Lib.hid (fun i hi he => by
    have h1 := h.arr (o + i) (by omega) 5 _ rfl
    have h2 := alt i hi
    rw [if_pos he] at h2
    rw [h2, Nat.add_mul] at h1
    exact h1)
  replace hn := Lib.hid hn
  replace h := Lib.hid h
  replace alt := Lib.hid alt
  clear hnm hlow hL
  go_enter Tryf.func12, Tryf.ntmps12
  go_wp2
  refine wp_loop_rounds 2 ?_
  rw [rounds_succ]
  go_upto_region 10 with (first | (go_at_call 13; (with_reducible refine C13.out.mono ?_); rintro e w2 ⟨rfl, rfl⟩) | (go_at_call 14; (with_reducible refine C14.out.mono ?_); rintro e w2 ⟨rfl, b2⟩; replace b2 := Lib.hid b2))
  clear C13 C14 c5 c1 c0 cc
  have M := Lib.hid (h.out.after b2.out)
  have O : Hid (O3 T C A w w2) := Lib.hid (Only.of b2.out)
  clear h b2 o30
  obtain ⟨wc, rfl⟩ : ∃ x, x = w2 := ⟨_, rfl⟩
  go_upto_region 11 with fail
  by_cases hn5 : n = 11
  · subst hn5
    go_upto_region 12 with fail
    have S0 := Lib.hid (fun (V : World) (x : ByteArray) (hV : MS V T C A N x G o 11) => (by
      have h1 := hV.arr (o + 0) (by omega)
      rw [Nat.add_mul] at h1
      simpa using h1 : Seg V A (o * 7) (G o).L))
    have S2 := Lib.hid (fun (V : World) (x : ByteArray) (hV : MS V T C A N x G o 11) => (by
      have h1 := hV.arr (o + 2) (by omega)
      rw [Nat.add_mul] at h1
      simpa using h1 : Seg V A (o * 7 + 14) (G (o + 2)).L))
    have S4 := Lib.hid (fun (V : World) (x : ByteArray) (hV : MS V T C A N x G o 11) => (by
      have h1 := hV.arr (o + 4) (by omega)
      rw [Nat.add_mul] at h1
      simpa using h1 : Seg V A (o * 7 + 28) (G (o + 4)).L))
    have S6 := Lib.hid (fun (V : World) (x : ByteArray) (hV : MS V T C A N x G o 11) => (by
      have h1 := hV.arr (o + 6) (by omega)
      rw [Nat.add_mul] at h1
      simpa using h1 : Seg V A (o * 7 + 42) (G (o + 6)).L))
    have S8 := Lib.hid (fun (V : World) (x : ByteArray) (hV : MS V T C A N x G o 11) => (by
      have h1 := hV.arr (o + 8) (by omega)
      rw [Nat.add_mul] at h1
      simpa using h1 : Seg V A (o * 7 + 56) (G (o + 8)).L))
    have S10 := Lib.hid (fun (V : World) (x : ByteArray) (hV : MS V T C A N x G o 11) => (by
      have h1 := hV.arr (o + 10) (by omega)
      rw [Nat.add_mul] at h1
      simpa using h1 : Seg V A (o * 7 + 70) (G (o + 10)).L))
    refine QTail.wp_region_inv (IV wc 6 (fun i => ([.slice (some ⟨A, o * 7, none⟩) 11 (N - o), .pointer (some ⟨A, o * 7, none⟩), .agg (G o).L.toArray, .slice (some ⟨A, o * 7, none⟩) 11 (N - o), .pointer (some ⟨A, o * 7 + 14, none⟩), .agg (G (o + 2)).L.toArray, .slice (some ⟨A, o * 7, none⟩) 11 (N - o), .pointer (some ⟨A, o * 7 + 28, none⟩), .agg (G (o + 4)).L.toArray, .slice (some ⟨A, o * 7, none⟩) 11 (N - o), .pointer (some ⟨A, o * 7 + 42, none⟩), .agg (G (o + 6)).L.toArray, .slice (some ⟨A, o * 7, none⟩) 11 (N - o), .pointer (some ⟨A, o * 7 + 56, none⟩), .agg (G (o + 8)).L.toArray, .slice (some ⟨A, o * 7, none⟩) 11 (N - o), .pointer (some ⟨A, o * 7 + 70, none⟩), .agg (G (o + 10)).L.toArray] : List Value).getD i undef) (fun k => G (o + ([0, 2, 4, 6, 8, 10] : List Nat).getD k 0))) (by kernel_rfl) (by kernel_rfl) (fun vs => ⟨(Below.refl _ _).drew, (fun i _ h => by cases h), (fun k _ h => by cases h), (fun k k' _ _ _ h => by cases h), (fun k _ h => by cases h)⟩) ?_ ?_
    · refine ⟨?_, ?_, ?_, ?_, ?_, ?_, ?_, ?_, ?_, ?_, ?_, ?_, ?_, ?_, ?_, ?_, ?_, ?_, ?_, ?_, ?_, ?_, ?_, ?_, ?_, ?_, ?_, ?_, ?_, ?_, trivial⟩
      all_goals intro L vs W' hL hd hI
      · clear hd hL
        replace hI := Lib.hid hI
        simp only [QTail.putA, Nat.reduceAdd, Act.put, List.setIfInBounds_toArray, List.set_cons_succ, List.set_cons_zero]
        go_wp2
        exact hI.out.v (i := 0) (by decide) (Below.refl _ _)
      · have d0 : vs 0 = .slice (some ⟨A, o * 7, none⟩) 11 (N - o) := hI.val 0 (by decide) (hd { on := 0, ground := Ground.data } (by simp) rfl)
        clear hd hL
        replace hI := Lib.hid hI
        simp only [QTail.putA, Nat.reduceAdd, Act.put, List.setIfInBounds_toArray, List.set_cons_succ, List.set_cons_zero]
        go_wp2
        exact hI.out.v (i := 1) (by decide) (Below.refl _ _)
      · have d0 : vs 1 = .pointer (some ⟨A, o * 7, none⟩) := hI.val 1 (by decide) (hd { on := 1, ground := Ground.data } (by simp) rfl)
        clear hd hL
        replace hI := Lib.hid hI
        have MM := Lib.hid (M.out.after hI.out.bel)
        simp only [QTail.putA, Nat.reduceAdd, Act.put, List.setIfInBounds_toArray, List.set_cons_succ, List.set_cons_zero, d0]
        go_wp2_with ((with_reducible refine wpList_at (o := ⟨some 71, .load 79 (.tmp 70), _, _, _, _⟩) ?_); refine wpList_load_seg (op := ⟨some 71, .load 79 (.tmp 70), _, _, _, _⟩) rfl 79 (.tmp 70) rfl A (o * 7) rfl ((G o).L) _ Tryf.underlying79 rfl (i79 (G o)) (S0.out _ _ MM.out) ?_)
        exact hI.out.v (i := 2) (by decide) (Below.refl _ _)
      · clear hd hL
        replace hI := Lib.hid hI
        simp only [QTail.putA, Nat.reduceAdd, Act.put, List.setIfInBounds_toArray, List.set_cons_succ, List.set_cons_zero]
        go_wp2
        exact hI.out.v (i := 3) (by decide) (Below.refl _ _)
      · have d0 : vs 3 = .slice (some ⟨A, o * 7, none⟩) 11 (N - o) := hI.val 3 (by decide) (hd { on := 3, ground := Ground.data } (by simp) rfl)
        clear hd hL
        replace hI := Lib.hid hI
        simp only [QTail.putA, Nat.reduceAdd, Act.put, List.setIfInBounds_toArray, List.set_cons_succ, List.set_cons_zero]
        go_wp2
        exact hI.out.v (i := 4) (by decide) (Below.refl _ _)
      · have d0 : vs 4 = .pointer (some ⟨A, o * 7 + 14, none⟩) := hI.val 4 (by decide) (hd { on := 4, ground := Ground.data } (by simp) rfl)
        clear hd hL
        replace hI := Lib.hid hI
        have MM := Lib.hid (M.out.after hI.out.bel)
        simp only [QTail.putA, Nat.reduceAdd, Act.put, List.setIfInBounds_toArray, List.set_cons_succ, List.set_cons_zero, d0]
        go_wp2_with ((with_reducible refine wpList_at (o := ⟨some 74, .load 79 (.tmp 73), _, _, _, _⟩) ?_); refine wpList_load_seg (op := ⟨some 74, .load 79 (.tmp 73), _, _, _, _⟩) rfl 79 (.tmp 73) rfl A (o * 7 + 14) rfl ((G (o + 2)).L) _ Tryf.underlying79 rfl (i79 (G (o + 2))) (S2.out _ _ MM.out) ?_)
        exact hI.out.v (i := 5) (by decide) (Below.refl _ _)
      · clear hd hL
        replace hI := Lib.hid hI
        simp only [QTail.putA, Nat.reduceAdd, Act.put, List.setIfInBounds_toArray, List.set_cons_succ, List.set_cons_zero]
        go_wp2
        exact hI.out.v (i := 6) (by decide) (Below.refl _ _)
      · have d0 : vs 6 = .slice (some ⟨A, o * 7, none⟩) 11 (N - o) := hI.val 6 (by decide) (hd { on := 6, ground := Ground.data } (by simp) rfl)
        clear hd hL
        replace hI := Lib.hid hI
        simp only [QTail.putA, Nat.reduceAdd, Act.put, List.setIfInBounds_toArray, List.set_cons_succ, List.set_cons_zero]
        go_wp2
        exact hI.out.v (i := 7) (by decide) (Below.refl _ _)
      · have d0 : vs 7 = .pointer (some ⟨A, o * 7 + 28, none⟩) := hI.val 7 (by decide) (hd { on := 7, ground := Ground.data } (by simp) rfl)
        clear hd hL
        replace hI := Lib.hid hI
        have MM := Lib.hid (M.out.after hI.out.bel)
        simp only [QTail.putA, Nat.reduceAdd, Act.put, List.setIfInBounds_toArray, List.set_cons_succ, List.set_cons_zero, d0]
        go_wp2_with ((with_reducible refine wpList_at (o := ⟨some 77, .load 79 (.tmp 76), _, _, _, _⟩) ?_); refine wpList_load_seg (op := ⟨some 77, .load 79 (.tmp 76), _, _, _, _⟩) rfl 79 (.tmp 76) rfl A (o * 7 + 28) rfl ((G (o + 4)).L) _ Tryf.underlying79 rfl (i79 (G (o + 4))) (S4.out _ _ MM.out) ?_)
        exact hI.out.v (i := 8) (by decide) (Below.refl _ _)
      · clear hd hL
        replace hI := Lib.hid hI
        simp only [QTail.putA, Nat.reduceAdd, Act.put, List.setIfInBounds_toArray, List.set_cons_succ, List.set_cons_zero]
        go_wp2
        exact hI.out.v (i := 9) (by decide) (Below.refl _ _)
      · have d0 : vs 9 = .slice (some ⟨A, o * 7, none⟩) 11 (N - o) := hI.val 9 (by decide) (hd { on := 9, ground := Ground.data } (by simp) rfl)
        clear hd hL
        replace hI := Lib.hid hI
        simp only [QTail.putA, Nat.reduceAdd, Act.put, List.setIfInBounds_toArray, List.set_cons_succ, List.set_cons_zero]
        go_wp2
        exact hI.out.v (i := 10) (by decide) (Below.refl _ _)
      · have d0 : vs 10 = .pointer (some ⟨A, o * 7 + 42, none⟩) := hI.val 10 (by decide) (hd { on := 10, ground := Ground.data } (by simp) rfl)
        clear hd hL
        replace hI := Lib.hid hI
        have MM := Lib.hid (M.out.after hI.out.bel)
        simp only [QTail.putA, Nat.reduceAdd, Act.put, List.setIfInBounds_toArray, List.set_cons_succ, List.set_cons_zero, d0]
        go_wp2_with ((with_reducible refine wpList_at (o := ⟨some 80, .load 79 (.tmp 79), _, _, _, _⟩) ?_); refine wpList_load_seg (op := ⟨some 80, .load 79 (.tmp 79), _, _, _, _⟩) rfl 79 (.tmp 79) rfl A (o * 7 + 42) rfl ((G (o + 6)).L) _ Tryf.underlying79 rfl (i79 (G (o + 6))) (S6.out _ _ MM.out) ?_)
        exact hI.out.v (i := 11) (by decide) (Below.refl _ _)
      · clear hd hL
        replace hI := Lib.hid hI
        simp only [QTail.putA, Nat.reduceAdd, Act.put, List.setIfInBounds_toArray, List.set_cons_succ, List.set_cons_zero]
        go_wp2
        exact hI.out.v (i := 12) (by decide) (Below.refl _ _)
      · have d0 : vs 12 = .slice (some ⟨A, o * 7, none⟩) 11 (N - o) := hI.val 12 (by decide) (hd { on := 12, ground := Ground.data } (by simp) rfl)
        clear hd hL
        replace hI := Lib.hid hI
        simp only [QTail.putA, Nat.reduceAdd, Act.put, List.setIfInBounds_toArray, List.set_cons_succ, List.set_cons_zero]
        go_wp2
        exact hI.out.v (i := 13) (by decide) (Below.refl _ _)
      · have d0 : vs 13 = .pointer (some ⟨A, o * 7 + 56, none⟩) := hI.val 13 (by decide) (hd { on := 13, ground := Ground.data } (by simp) rfl)
        clear hd hL
        replace hI := Lib.hid hI
        have MM := Lib.hid (M.out.after hI.out.bel)
        simp only [QTail.putA, Nat.reduceAdd, Act.put, List.setIfInBounds_toArray, List.set_cons_succ, List.set_cons_zero, d0]
        go_wp2_with ((with_reducible refine wpList_at (o := ⟨some 83, .load 79 (.tmp 82), _, _, _, _⟩) ?_); refine wpList_load_seg (op := ⟨some 83, .load 79 (.tmp 82), _, _, _, _⟩) rfl 79 (.tmp 82) rfl A (o * 7 + 56) rfl ((G (o + 8)).L) _ Tryf.underlying79 rfl (i79 (G (o + 8))) (S8.out _ _ MM.out) ?_)
        exact hI.out.v (i := 14) (by decide) (Below.refl _ _)
      · clear hd hL
        replace hI := Lib.hid hI
        simp only [QTail.putA, Nat.reduceAdd, Act.put, List.setIfInBounds_toArray, List.set_cons_succ, List.set_cons_zero]
        go_wp2
        exact hI.out.v (i := 15) (by decide) (Below.refl _ _)
      · have d0 : vs 15 = .slice (some ⟨A, o * 7, none⟩) 11 (N - o) := hI.val 15 (by decide) (hd { on := 15, ground := Ground.data } (by simp) rfl)
        clear hd hL
        replace hI := Lib.hid hI
        simp only [QTail.putA, Nat.reduceAdd, Act.put, List.setIfInBounds_toArray, List.set_cons_succ, List.set_cons_zero]
        go_wp2
        exact hI.out.v (i := 16) (by decide) (Below.refl _ _)
      · have d0 : vs 16 = .pointer (some ⟨A, o * 7 + 70, none⟩) := hI.val 16 (by decide) (hd { on := 16, ground := Ground.data } (by simp) rfl)
        clear hd hL
        replace hI := Lib.hid hI
        have MM := Lib.hid (M.out.after hI.out.bel)
        simp only [QTail.putA, Nat.reduceAdd, Act.put, List.setIfInBounds_toArray, List.set_cons_succ, List.set_cons_zero, d0]
        go_wp2_with ((with_reducible refine wpList_at (o := ⟨some 86, .load 79 (.tmp 85), _, _, _, _⟩) ?_); refine wpList_load_seg (op := ⟨some 86, .load 79 (.tmp 85), _, _, _, _⟩) rfl 79 (.tmp 85) rfl A (o * 7 + 70) rfl ((G (o + 10)).L) _ Tryf.underlying79 rfl (i79 (G (o + 10))) (S10.out _ _ MM.out) ?_)
        exact hI.out.v (i := 17) (by decide) (Below.refl _ _)
      · have h4 : L 24 = false := by
          cases h : L 24 with
          | false => rfl
          | true => have := hI.dn 0 (by decide) h; rw [hL] at this; cases this
        clear hd hL
        replace hI := Lib.hid hI
        simp only [QTail.putA, Nat.reduceAdd, Act.put, List.setIfInBounds_toArray, List.set_cons_succ, List.set_cons_zero]
        go_wp2
        exact hI.out.n (k := 0) (by decide) rfl h4
      · have h4 : L 25 = false := by
          cases h : L 25 with
          | false => rfl
          | true => have := hI.dn 1 (by decide) h; rw [hL] at this; cases this
        clear hd hL
        replace hI := Lib.hid hI
        simp only [QTail.putA, Nat.reduceAdd, Act.put, List.setIfInBounds_toArray, List.set_cons_succ, List.set_cons_zero]
        go_wp2
        exact hI.out.n (k := 1) (by decide) rfl h4
      · have h4 : L 26 = false := by
          cases h : L 26 with
          | false => rfl
          | true => have := hI.dn 2 (by decide) h; rw [hL] at this; cases this
        clear hd hL
        replace hI := Lib.hid hI
        simp only [QTail.putA, Nat.reduceAdd, Act.put, List.setIfInBounds_toArray, List.set_cons_succ, List.set_cons_zero]
        go_wp2
        exact hI.out.n (k := 2) (by decide) rfl h4
      · have h4 : L 27 = false := by
          cases h : L 27 with
          | false => rfl
          | true => have := hI.dn 3 (by decide) h; rw [hL] at this; cases this
        clear hd hL
        replace hI := Lib.hid hI
        simp only [QTail.putA, Nat.reduceAdd, Act.put, List.setIfInBounds_toArray, List.set_cons_succ, List.set_cons_zero]
        go_wp2
        exact hI.out.n (k := 3) (by decide) rfl h4
      · have h4 : L 28 = false := by
          cases h : L 28 with
          | false => rfl
          | true => have := hI.dn 4 (by decide) h; rw [hL] at this; cases this
        clear hd hL
        replace hI := Lib.hid hI
        simp only [QTail.putA, Nat.reduceAdd, Act.put, List.setIfInBounds_toArray, List.set_cons_succ, List.set_cons_zero]
        go_wp2
        exact hI.out.n (k := 4) (by decide) rfl h4
      · have h4 : L 29 = false := by
          cases h : L 29 with
          | false => rfl
          | true => have := hI.dn 5 (by decide) h; rw [hL] at this; cases this
        clear hd hL
        replace hI := Lib.hid hI
        simp only [QTail.putA, Nat.reduceAdd, Act.put, List.setIfInBounds_toArray, List.set_cons_succ, List.set_cons_zero]
        go_wp2
        exact hI.out.n (k := 5) (by decide) rfl h4
      · have l1 := hd { on := 18, ground := Ground.data } (by simp) rfl
        obtain ⟨b, d1, -, -, rm, -⟩ := hI.new 0 (by decide) l1
        have d2 : vs 2 = .agg (G o).L.toArray := hI.val 2 (by decide) (hd { on := 2, ground := Ground.data } (by simp) rfl)
        replace d1 : vs 18 = .pointer (some ⟨b, 0, none⟩) := d1
        clear hd hL
        replace hI := Lib.hid hI
        replace rm := Lib.hid rm
        replace l1 := Lib.hid l1
        have D1 := Lib.hid d1
        simp only [QTail.putA, Nat.reduceAdd, Act.put, List.setIfInBounds_toArray, List.set_cons_succ, List.set_cons_zero, d1, d2]
        go_wp2_with ((with_reducible refine wpList_at (o := ⟨none, .store 79 (.tmp 9) (.tmp 71), _, _, _, _⟩) ?_); refine wpList_store_room (op := ⟨none, .store 79 (.tmp 9) (.tmp 71), _, _, _, _⟩) rfl 79 (.tmp 9) (.tmp 71) rfl b 0 7 ((G o).L) rm.out (by show 0 + 7 ≤ 7; omega) rfl rfl (i79 (G o)) (Tq.one (G o)) ?_; intro W2 hW2; replace hW2 := Lib.hid hW2)
        rw [hW2.out]
        exact ⟨undef, hI.out.p (k := 0) (by decide) l1.out D1.out⟩
      · have l1 := hd { on := 19, ground := Ground.data } (by simp) rfl
        obtain ⟨b, d1, -, -, rm, -⟩ := hI.new 1 (by decide) l1
        have d2 : vs 5 = .agg (G (o + 2)).L.toArray := hI.val 5 (by decide) (hd { on := 5, ground := Ground.data } (by simp) rfl)
        replace d1 : vs 19 = .pointer (some ⟨b, 0, none⟩) := d1
        clear hd hL
        replace hI := Lib.hid hI
        replace rm := Lib.hid rm
        replace l1 := Lib.hid l1
        have D1 := Lib.hid d1
        simp only [QTail.putA, Nat.reduceAdd, Act.put, List.setIfInBounds_toArray, List.set_cons_succ, List.set_cons_zero, d1, d2]
        go_wp2_with ((with_reducible refine wpList_at (o := ⟨none, .store 79 (.tmp 10) (.tmp 74), _, _, _, _⟩) ?_); refine wpList_store_room (op := ⟨none, .store 79 (.tmp 10) (.tmp 74), _, _, _, _⟩) rfl 79 (.tmp 10) (.tmp 74) rfl b 0 7 ((G (o + 2)).L) rm.out (by show 0 + 7 ≤ 7; omega) rfl rfl (i79 (G (o + 2))) (Tq.one (G (o + 2))) ?_; intro W2 hW2; replace hW2 := Lib.hid hW2)
        rw [hW2.out]
        exact ⟨undef, hI.out.p (k := 1) (by decide) l1.out D1.out⟩
      · have l1 := hd { on := 20, ground := Ground.data } (by simp) rfl
        obtain ⟨b, d1, -, -, rm, -⟩ := hI.new 2 (by decide) l1
        have d2 : vs 8 = .agg (G (o + 4)).L.toArray := hI.val 8 (by decide) (hd { on := 8, ground := Ground.data } (by simp) rfl)
        replace d1 : vs 20 = .pointer (some ⟨b, 0, none⟩) := d1
        clear hd hL
        replace hI := Lib.hid hI
        replace rm := Lib.hid rm
        replace l1 := Lib.hid l1
        have D1 := Lib.hid d1
        simp only [QTail.putA, Nat.reduceAdd, Act.put, List.setIfInBounds_toArray, List.set_cons_succ, List.set_cons_zero, d1, d2]
        go_wp2_with ((with_reducible refine wpList_at (o := ⟨none, .store 79 (.tmp 11) (.tmp 77), _, _, _, _⟩) ?_); refine wpList_store_room (op := ⟨none, .store 79 (.tmp 11) (.tmp 77), _, _, _, _⟩) rfl 79 (.tmp 11) (.tmp 77) rfl b 0 7 ((G (o + 4)).L) rm.out (by show 0 + 7 ≤ 7; omega) rfl rfl (i79 (G (o + 4))) (Tq.one (G (o + 4))) ?_; intro W2 hW2; replace hW2 := Lib.hid hW2)
        rw [hW2.out]
        exact ⟨undef, hI.out.p (k := 2) (by decide) l1.out D1.out⟩
      · have l1 := hd { on := 21, ground := Ground.data } (by simp) rfl
        obtain ⟨b, d1, -, -, rm, -⟩ := hI.new 3 (by decide) l1
        have d2 : vs 11 = .agg (G (o + 6)).L.toArray := hI.val 11 (by decide) (hd { on := 11, ground := Ground.data } (by simp) rfl)
        replace d1 : vs 21 = .pointer (some ⟨b, 0, none⟩) := d1
        clear hd hL
        replace hI := Lib.hid hI
        replace rm := Lib.hid rm
        replace l1 := Lib.hid l1
        have D1 := Lib.hid d1
        simp only [QTail.putA, Nat.reduceAdd, Act.put, List.setIfInBounds_toArray, List.set_cons_succ, List.set_cons_zero, d1, d2]
        go_wp2_with ((with_reducible refine wpList_at (o := ⟨none, .store 79 (.tmp 12) (.tmp 80), _, _, _, _⟩) ?_); refine wpList_store_room (op := ⟨none, .store 79 (.tmp 12) (.tmp 80), _, _, _, _⟩) rfl 79 (.tmp 12) (.tmp 80) rfl b 0 7 ((G (o + 6)).L) rm.out (by show 0 + 7 ≤ 7; omega) rfl rfl (i79 (G (o + 6))) (Tq.one (G (o + 6))) ?_; intro W2 hW2; replace hW2 := Lib.hid hW2)
        rw [hW2.out]
        exact ⟨undef, hI.out.p (k := 3) (by decide) l1.out D1.out⟩
      · have l1 := hd { on := 22, ground := Ground.data } (by simp) rfl
        obtain ⟨b, d1, -, -, rm, -⟩ := hI.new 4 (by decide) l1
        have d2 : vs 14 = .agg (G (o + 8)).L.toArray := hI.val 14 (by decide) (hd { on := 14, ground := Ground.data } (by simp) rfl)
        replace d1 : vs 22 = .pointer (some ⟨b, 0, none⟩) := d1
        clear hd hL
        replace hI := Lib.hid hI
        replace rm := Lib.hid rm
        replace l1 := Lib.hid l1
        have D1 := Lib.hid d1
        simp only [QTail.putA, Nat.reduceAdd, Act.put, List.setIfInBounds_toArray, List.set_cons_succ, List.set_cons_zero, d1, d2]
        go_wp2_with ((with_reducible refine wpList_at (o := ⟨none, .store 79 (.tmp 13) (.tmp 83), _, _, _, _⟩) ?_); refine wpList_store_room (op := ⟨none, .store 79 (.tmp 13) (.tmp 83), _, _, _, _⟩) rfl 79 (.tmp 13) (.tmp 83) rfl b 0 7 ((G (o + 8)).L) rm.out (by show 0 + 7 ≤ 7; omega) rfl rfl (i79 (G (o + 8))) (Tq.one (G (o + 8))) ?_; intro W2 hW2; replace hW2 := Lib.hid hW2)
        rw [hW2.out]
        exact ⟨undef, hI.out.p (k := 4) (by decide) l1.out D1.out⟩
      · have l1 := hd { on := 23, ground := Ground.data } (by simp) rfl
        obtain ⟨b, d1, -, -, rm, -⟩ := hI.new 5 (by decide) l1
        have d2 : vs 17 = .agg (G (o + 10)).L.toArray := hI.val 17 (by decide) (hd { on := 17, ground := Ground.data } (by simp) rfl)
        replace d1 : vs 23 = .pointer (some ⟨b, 0, none⟩) := d1
        clear hd hL
        replace hI := Lib.hid hI
        replace rm := Lib.hid rm
        replace l1 := Lib.hid l1
        have D1 := Lib.hid d1
        simp only [QTail.putA, Nat.reduceAdd, Act.put, List.setIfInBounds_toArray, List.set_cons_succ, List.set_cons_zero, d1, d2]
        go_wp2_with ((with_reducible refine wpList_at (o := ⟨none, .store 79 (.tmp 14) (.tmp 86), _, _, _, _⟩) ?_); refine wpList_store_room (op := ⟨none, .store 79 (.tmp 14) (.tmp 86), _, _, _, _⟩) rfl 79 (.tmp 14) (.tmp 86) rfl b 0 7 ((G (o + 10)).L) rm.out (by show 0 + 7 ≤ 7; omega) rfl rfl (i79 (G (o + 10))) (Tq.one (G (o + 10))) ?_; intro W2 hW2; replace hW2 := Lib.hid hW2)
        rw [hW2.out]
        exact ⟨undef, hI.out.p (k := 5) (by decide) l1.out D1.out⟩
    intro vs W0 hI
    have v0 : vs 0 = .slice (some ⟨A, o * 7, none⟩) 11 (N - o) := hI.val 0 (by decide) (by decide)
    have v1 : vs 1 = .pointer (some ⟨A, o * 7, none⟩) := hI.val 1 (by decide) (by decide)
    have v2 : vs 2 = .agg (G o).L.toArray := hI.val 2 (by decide) (by decide)
    have v3 : vs 3 = .slice (some ⟨A, o * 7, none⟩) 11 (N - o) := hI.val 3 (by decide) (by decide)
    have v4 : vs 4 = .pointer (some ⟨A, o * 7 + 14, none⟩) := hI.val 4 (by decide) (by decide)
    have v5 : vs 5 = .agg (G (o + 2)).L.toArray := hI.val 5 (by decide) (by decide)
    have v6 : vs 6 = .slice (some ⟨A, o * 7, none⟩) 11 (N - o) := hI.val 6 (by decide) (by decide)
    have v7 : vs 7 = .pointer (some ⟨A, o * 7 + 28, none⟩) := hI.val 7 (by decide) (by decide)
    have v8 : vs 8 = .agg (G (o + 4)).L.toArray := hI.val 8 (by decide) (by decide)
    have v9 : vs 9 = .slice (some ⟨A, o * 7, none⟩) 11 (N - o) := hI.val 9 (by decide) (by decide)
    have v10 : vs 10 = .pointer (some ⟨A, o * 7 + 42, none⟩) := hI.val 10 (by decide) (by decide)
    have v11 : vs 11 = .agg (G (o + 6)).L.toArray := hI.val 11 (by decide) (by decide)
    have v12 : vs 12 = .slice (some ⟨A, o * 7, none⟩) 11 (N - o) := hI.val 12 (by decide) (by decide)
    have v13 : vs 13 = .pointer (some ⟨A, o * 7 + 56, none⟩) := hI.val 13 (by decide) (by decide)
    have v14 : vs 14 = .agg (G (o + 8)).L.toArray := hI.val 14 (by decide) (by decide)
    have v15 : vs 15 = .slice (some ⟨A, o * 7, none⟩) 11 (N - o) := hI.val 15 (by decide) (by decide)
    have v16 : vs 16 = .pointer (some ⟨A, o * 7 + 70, none⟩) := hI.val 16 (by decide) (by decide)
    have v17 : vs 17 = .agg (G (o + 10)).L.toArray := hI.val 17 (by decide) (by decide)
    obtain ⟨b0, n0, p0, -, -, s0⟩ := hI.new 0 (by decide) (by decide)
    replace n0 : vs 18 = .pointer (some ⟨b0, 0, none⟩) := n0
    replace s0 := Lib.hid (s0 (by decide))
    obtain ⟨b1, n1, p1, -, -, s1⟩ := hI.new 1 (by decide) (by decide)
    replace n1 : vs 19 = .pointer (some ⟨b1, 0, none⟩) := n1
    replace s1 := Lib.hid (s1 (by decide))
    obtain ⟨b2, n2, p2, -, -, s2⟩ := hI.new 2 (by decide) (by decide)
    replace n2 : vs 20 = .pointer (some ⟨b2, 0, none⟩) := n2
    replace s2 := Lib.hid (s2 (by decide))
    obtain ⟨b3, n3, p3, -, -, s3⟩ := hI.new 3 (by decide) (by decide)
    replace n3 : vs 21 = .pointer (some ⟨b3, 0, none⟩) := n3
    replace s3 := Lib.hid (s3 (by decide))
    obtain ⟨b4, n4, p4, -, -, s4⟩ := hI.new 4 (by decide) (by decide)
    replace n4 : vs 22 = .pointer (some ⟨b4, 0, none⟩) := n4
    replace s4 := Lib.hid (s4 (by decide))
    obtain ⟨b5, n5, p5, -, -, s5⟩ := hI.new 5 (by decide) (by decide)
    replace n5 : vs 23 = .pointer (some ⟨b5, 0, none⟩) := n5
    replace s5 := Lib.hid (s5 (by decide))
    have bc := hI.bel
    have lts := M.out.lt
    clear hI
    simp only [QTail.putA, Nat.reduceAdd, Act.put, List.setIfInBounds_toArray, List.set_cons_succ, List.set_cons_zero, v0, v1, v2, v3, v4, v5, v6, v7, v8, v9, v10, v11, v12, v13, v14, v15, v16, v17, n0, n1, n2, n3, n4, n5]
    clear v0 v1 v2 v3 v4 v5 v6 v7 v8 v9 v10 v11 v12 v13 v14 v15 v16 v17 n0 n1 n2 n3 n4 n5 S0 S2 S4 S6 S8 S10
    replace M := Lib.hid (M.out.after bc)
    replace O := Lib.hid (O.out.trans (Only.of bc))
    clear bc
    have VS0 := Lib.hid (fun (V : World) (hV : O3 T C A W0 V) => (s0.out.only hV (by rintro (q | q | q) <;> omega) : Seg V b0 0 (G o).L))
    have VS1 := Lib.hid (fun (V : World) (hV : O3 T C A W0 V) => (s1.out.only hV (by rintro (q | q | q) <;> omega) : Seg V b1 0 (G (o + 2)).L))
    have VS2 := Lib.hid (fun (V : World) (hV : O3 T C A W0 V) => (s2.out.only hV (by rintro (q | q | q) <;> omega) : Seg V b2 0 (G (o + 4)).L))
    have VS3 := Lib.hid (fun (V : World) (hV : O3 T C A W0 V) => (s3.out.only hV (by rintro (q | q | q) <;> omega) : Seg V b3 0 (G (o + 6)).L))
    have VS4 := Lib.hid (fun (V : World) (hV : O3 T C A W0 V) => (s4.out.only hV (by rintro (q | q | q) <;> omega) : Seg V b4 0 (G (o + 8)).L))
    have VS5 := Lib.hid (fun (V : World) (hV : O3 T C A W0 V) => (s5.out.only hV (by rintro (q | q | q) <;> omega) : Seg V b5 0 (G (o + 10)).L))
    clear s0 p0 s1 p1 s2 p2 s3 p3 s4 p4 s5 p5 lts
    have P : Hid (O3 T C A W0 W0) := Lib.hid (Only.refl _)
    obtain ⟨wc, hwc⟩ : ∃ x, W0 = x := ⟨_, rfl⟩
    rw [hwc] at M O
    rw [hwc]
    replace P : Hid (O3 T C A W0 wc) := Lib.hid (by rw [← hwc]; exact P.out)
    clear hwc
    have q := VS1.out _ P.out
    have f0 := q 0 _ rfl
    have f1 := q 1 _ rfl
    have f2 := q 2 _ rfl
    have f3 := q 3 _ rfl
    have f4 := q 4 _ rfl
    have f5 := q 5 _ rfl
    have f6 := q 6 _ rfl
    simp only [Nat.zero_add] at f0 f1 f2 f3 f4 f5 f6
    clear q
    cases h2 : isZ (G (o + 2)) with
    | false =>
      have Z2 : Hid (∀ V, Calls Tryf.prog 15 #[.agg (G (o + 2)).L.toArray] V (Gv (.bool false) V)) := Lib.hid (fun V => by have := isZ_c (G (o + 2)) V; rw [h2] at this; exact this)
      go_upto_region 149 with (first | (go_at_call 15; (with_reducible refine (Z2.out _).mono ?_); rintro e wc ⟨rfl, bc⟩; replace M := Lib.hid (M.out.after bc); replace O := Lib.hid (O.out.trans (Only.of bc)); replace P := Lib.hid (P.out.trans (Only.of bc)); clear bc))
      clear Z2
      clear VS0 VS1 VS2 VS3 VS4 VS5 f0 f1 f2 f3 f4 f5 f6
      have k0 : wc.cell? ⟨T, 0, none⟩ = some (.pointer (some ⟨C, 0, none⟩)) := by simpa using M.out.tok 0 _ rfl
      have kc := M.out.ch
      have kle := M.out.le
      have k6 : wc.cell? ⟨A, o * 7 + 6, none⟩ = some (.int .u8 (G o).ws) := M.out.arr o (by omega) 6 _ rfl
      have kf : wc.frozen? ⟨A, o * 7 + 6, none⟩ = false := by obtain ⟨_, -, q⟩ := M.out.ra (o * 7 + 6) (by omega); exact q
      generalize hws : (G o).ws = ws0 at k6
      replace hws := Lib.hid hws
      go_upto_region 152 with fail
      refine wp_gen (fun W9 hW9 => ?_)
      have M9 : Hid (MS W9 T C A N nm (setW G o (bits .and .u8 (G o).ws 254)) o 11) := Lib.hid (by
        rw [hW9, ← hws.out]
        have := M.out.setw (i := o) (v := bits .and .u8 (G o).ws 254) (by omega)
        exact this)
      have O9 : Hid (O3 T C A w W9) := Lib.hid (by rw [hW9]; exact O.out.set _ _ (.inr (.inr rfl)))
      clear hW9 k0 kc k6 kf hws
      have k0 : W9.cell? ⟨T, 0, none⟩ = some (.pointer (some ⟨C, 0, none⟩)) := by simpa using M9.out.tok 0 _ rfl
      generalize hG9 : setW G o (bits .and .u8 (G o).ws 254) = G9 at M9
      have ej : (o + 11 - 1) * 7 + 6 = o * 7 + 70 + 6 := by omega
      have k6 : W9.cell? ⟨A, o * 7 + 70 + 6, none⟩ = some (.int .u8 (G9 (o + 11 - 1)).ws) := by rw [← ej]; exact M9.out.arr (o + 11 - 1) (by omega) 6 _ rfl
      have kf : W9.frozen? ⟨A, o * 7 + 70 + 6, none⟩ = false := by rw [← ej]; obtain ⟨_, -, q⟩ := M9.out.ra ((o + 11 - 1) * 7 + 6) (by omega); exact q
      have hM := Lib.hid (M9.out.setw (i := o + 11 - 1) (v := bits .and .u8 (G9 (o + 11 - 1)).ws 253) (by omega))
      rw [ej] at hM
      generalize hws : (G9 (o + 11 - 1)).ws = ws1 at k6 hM
      replace hws := Lib.hid hws
      replace hG9 := Lib.hid hG9
      replace ej := Lib.hid ej
      go_wp2
      rw [rounds_succ]
      go_wp2
      go_ret
      refine ⟨rfl, ?_, O9.out.set _ _ (.inr (.inr rfl))⟩
      have ha : arm false 0 ⟨nm, G, o, 11⟩ = ⟨nm, G, o, 11⟩ := (by simp [arm, h2])
      rw [ha]
      show MS _ T C A N nm (trm G o 11) o 11
      unfold trm
      rw [hG9.out, hws.out]
      exact hM.out
    | true =>
    cases h4 : isZ (G (o + 4)) with
    | false =>
      have Z2 : Hid (∀ V, Calls Tryf.prog 15 #[.agg (G (o + 2)).L.toArray] V (Gv (.bool true) V)) := Lib.hid (fun V => by have := isZ_c (G (o + 2)) V; rw [h2] at this; exact this)
      have Z4 : Hid (∀ V, Calls Tryf.prog 15 #[.agg (G (o + 4)).L.toArray] V (Gv (.bool false) V)) := Lib.hid (fun V => by have := isZ_c (G (o + 4)) V; rw [h4] at this; exact this)
      go_upto_region 149 with (first | (go_at_call 15; (with_reducible refine (Z2.out _).mono ?_); rintro e wc ⟨rfl, bc⟩; replace M := Lib.hid (M.out.after bc); replace O := Lib.hid (O.out.trans (Only.of bc)); replace P := Lib.hid (P.out.trans (Only.of bc)); clear bc; have q := VS2.out _ P.out; have f0 := q 0 _ rfl; have f1 := q 1 _ rfl; have f2 := q 2 _ rfl; have f3 := q 3 _ rfl; have f4 := q 4 _ rfl; have f5 := q 5 _ rfl; have f6 := q 6 _ rfl; simp only [Nat.zero_add] at f0 f1 f2 f3 f4 f5 f6; clear q) | (go_at_call 15; (with_reducible refine (Z4.out _).mono ?_); rintro e wc ⟨rfl, bc⟩; replace M := Lib.hid (M.out.after bc); replace O := Lib.hid (O.out.trans (Only.of bc)); replace P := Lib.hid (P.out.trans (Only.of bc)); clear bc))
      clear Z2 Z4
      clear VS0 VS1 VS2 VS3 VS4 VS5 f0 f1 f2 f3 f4 f5 f6
      have k0 : wc.cell? ⟨T, 0, none⟩ = some (.pointer (some ⟨C, 0, none⟩)) := by simpa using M.out.tok 0 _ rfl
      have kc := M.out.ch
      have kle := M.out.le
      have k6 : wc.cell? ⟨A, o * 7 + 6, none⟩ = some (.int .u8 (G o).ws) := M.out.arr o (by omega) 6 _ rfl
      have kf : wc.frozen? ⟨A, o * 7 + 6, none⟩ = false := by obtain ⟨_, -, q⟩ := M.out.ra (o * 7 + 6) (by omega); exact q
      generalize hws : (G o).ws = ws0 at k6
      replace hws := Lib.hid hws
      go_upto_region 152 with fail
      refine wp_gen (fun W9 hW9 => ?_)
      have M9 : Hid (MS W9 T C A N nm (setW G o (bits .and .u8 (G o).ws 254)) o 11) := Lib.hid (by
        rw [hW9, ← hws.out]
        have := M.out.setw (i := o) (v := bits .and .u8 (G o).ws 254) (by omega)
        exact this)
      have O9 : Hid (O3 T C A w W9) := Lib.hid (by rw [hW9]; exact O.out.set _ _ (.inr (.inr rfl)))
      clear hW9 k0 kc k6 kf hws
      have k0 : W9.cell? ⟨T, 0, none⟩ = some (.pointer (some ⟨C, 0, none⟩)) := by simpa using M9.out.tok 0 _ rfl
      generalize hG9 : setW G o (bits .and .u8 (G o).ws 254) = G9 at M9
      have ej : (o + 11 - 1) * 7 + 6 = o * 7 + 70 + 6 := by omega
      have k6 : W9.cell? ⟨A, o * 7 + 70 + 6, none⟩ = some (.int .u8 (G9 (o + 11 - 1)).ws) := by rw [← ej]; exact M9.out.arr (o + 11 - 1) (by omega) 6 _ rfl
      have kf : W9.frozen? ⟨A, o * 7 + 70 + 6, none⟩ = false := by rw [← ej]; obtain ⟨_, -, q⟩ := M9.out.ra ((o + 11 - 1) * 7 + 6) (by omega); exact q
      have hM := Lib.hid (M9.out.setw (i := o + 11 - 1) (v := bits .and .u8 (G9 (o + 11 - 1)).ws 253) (by omega))
      rw [ej] at hM
      generalize hws : (G9 (o + 11 - 1)).ws = ws1 at k6 hM
      replace hws := Lib.hid hws
      replace hG9 := Lib.hid hG9
      replace ej := Lib.hid ej
      go_wp2
      rw [rounds_succ]
      go_wp2
      go_ret
      refine ⟨rfl, ?_, O9.out.set _ _ (.inr (.inr rfl))⟩
      have ha : arm false 0 ⟨nm, G, o, 11⟩ = ⟨nm, G, o, 11⟩ := (by simp [arm, h2, h4])
      rw [ha]
      show MS _ T C A N nm (trm G o 11) o 11
      unfold trm
      rw [hG9.out, hws.out]
      exact hM.out
    | true =>
    cases h8 : isZ (G (o + 8)) with
    | false =>
      have Z2 : Hid (∀ V, Calls Tryf.prog 15 #[.agg (G (o + 2)).L.toArray] V (Gv (.bool true) V)) := Lib.hid (fun V => by have := isZ_c (G (o + 2)) V; rw [h2] at this; exact this)
      have Z4 : Hid (∀ V, Calls Tryf.prog 15 #[.agg (G (o + 4)).L.toArray] V (Gv (.bool true) V)) := Lib.hid (fun V => by have := isZ_c (G (o + 4)) V; rw [h4] at this; exact this)
      have Z8 : Hid (∀ V, Calls Tryf.prog 15 #[.agg (G (o + 8)).L.toArray] V (Gv (.bool false) V)) := Lib.hid (fun V => by have := isZ_c (G (o + 8)) V; rw [h8] at this; exact this)
      go_upto_region 149 with (first | (go_at_call 15; (with_reducible refine (Z2.out _).mono ?_); rintro e wc ⟨rfl, bc⟩; replace M := Lib.hid (M.out.after bc); replace O := Lib.hid (O.out.trans (Only.of bc)); replace P := Lib.hid (P.out.trans (Only.of bc)); clear bc; have q := VS2.out _ P.out; have f0 := q 0 _ rfl; have f1 := q 1 _ rfl; have f2 := q 2 _ rfl; have f3 := q 3 _ rfl; have f4 := q 4 _ rfl; have f5 := q 5 _ rfl; have f6 := q 6 _ rfl; simp only [Nat.zero_add] at f0 f1 f2 f3 f4 f5 f6; clear q) | (go_at_call 15; (with_reducible refine (Z4.out _).mono ?_); rintro e wc ⟨rfl, bc⟩; replace M := Lib.hid (M.out.after bc); replace O := Lib.hid (O.out.trans (Only.of bc)); replace P := Lib.hid (P.out.trans (Only.of bc)); clear bc; have q := VS4.out _ P.out; have f0 := q 0 _ rfl; have f1 := q 1 _ rfl; have f2 := q 2 _ rfl; have f3 := q 3 _ rfl; have f4 := q 4 _ rfl; have f5 := q 5 _ rfl; have f6 := q 6 _ rfl; simp only [Nat.zero_add] at f0 f1 f2 f3 f4 f5 f6; clear q) | (go_at_call 15; (with_reducible refine (Z8.out _).mono ?_); rintro e wc ⟨rfl, bc⟩; replace M := Lib.hid (M.out.after bc); replace O := Lib.hid (O.out.trans (Only.of bc)); replace P := Lib.hid (P.out.trans (Only.of bc)); clear bc))
      clear Z2 Z4 Z8
      clear VS0 VS1 VS2 VS3 VS4 VS5 f0 f1 f2 f3 f4 f5 f6
      have k0 : wc.cell? ⟨T, 0, none⟩ = some (.pointer (some ⟨C, 0, none⟩)) := by simpa using M.out.tok 0 _ rfl
      have kc := M.out.ch
      have kle := M.out.le
      have k6 : wc.cell? ⟨A, o * 7 + 6, none⟩ = some (.int .u8 (G o).ws) := M.out.arr o (by omega) 6 _ rfl
      have kf : wc.frozen? ⟨A, o * 7 + 6, none⟩ = false := by obtain ⟨_, -, q⟩ := M.out.ra (o * 7 + 6) (by omega); exact q
      generalize hws : (G o).ws = ws0 at k6
      replace hws := Lib.hid hws
      go_upto_region 152 with fail
      refine wp_gen (fun W9 hW9 => ?_)
      have M9 : Hid (MS W9 T C A N nm (setW G o (bits .and .u8 (G o).ws 254)) o 11) := Lib.hid (by
        rw [hW9, ← hws.out]
        have := M.out.setw (i := o) (v := bits .and .u8 (G o).ws 254) (by omega)
        exact this)
      have O9 : Hid (O3 T C A w W9) := Lib.hid (by rw [hW9]; exact O.out.set _ _ (.inr (.inr rfl)))
      clear hW9 k0 kc k6 kf hws
      have k0 : W9.cell? ⟨T, 0, none⟩ = some (.pointer (some ⟨C, 0, none⟩)) := by simpa using M9.out.tok 0 _ rfl
      generalize hG9 : setW G o (bits .and .u8 (G o).ws 254) = G9 at M9
      have ej : (o + 11 - 1) * 7 + 6 = o * 7 + 70 + 6 := by omega
      have k6 : W9.cell? ⟨A, o * 7 + 70 + 6, none⟩ = some (.int .u8 (G9 (o + 11 - 1)).ws) := by rw [← ej]; exact M9.out.arr (o + 11 - 1) (by omega) 6 _ rfl
      have kf : W9.frozen? ⟨A, o * 7 + 70 + 6, none⟩ = false := by rw [← ej]; obtain ⟨_, -, q⟩ := M9.out.ra ((o + 11 - 1) * 7 + 6) (by omega); exact q
      have hM := Lib.hid (M9.out.setw (i := o + 11 - 1) (v := bits .and .u8 (G9 (o + 11 - 1)).ws 253) (by omega))
      rw [ej] at hM
      generalize hws : (G9 (o + 11 - 1)).ws = ws1 at k6 hM
      replace hws := Lib.hid hws
      replace hG9 := Lib.hid hG9
      replace ej := Lib.hid ej
      go_wp2
      rw [rounds_succ]
      go_wp2
      go_ret
      refine ⟨rfl, ?_, O9.out.set _ _ (.inr (.inr rfl))⟩
      have ha : arm false 0 ⟨nm, G, o, 11⟩ = ⟨nm, G, o, 11⟩ := (by simp [arm, h2, h4, h8])
      rw [ha]
      show MS _ T C A N nm (trm G o 11) o 11
      unfold trm
      rw [hG9.out, hws.out]
      exact hM.out
    | true =>
    cases h10 : isZ (G (o + 10)) with
    | false =>
      have Z2 : Hid (∀ V, Calls Tryf.prog 15 #[.agg (G (o + 2)).L.toArray] V (Gv (.bool true) V)) := Lib.hid (fun V => by have := isZ_c (G (o + 2)) V; rw [h2] at this; exact this)
      have Z4 : Hid (∀ V, Calls Tryf.prog 15 #[.agg (G (o + 4)).L.toArray] V (Gv (.bool true) V)) := Lib.hid (fun V => by have := isZ_c (G (o + 4)) V; rw [h4] at this; exact this)
      have Z8 : Hid (∀ V, Calls Tryf.prog 15 #[.agg (G (o + 8)).L.toArray] V (Gv (.bool true) V)) := Lib.hid (fun V => by have := isZ_c (G (o + 8)) V; rw [h8] at this; exact this)
      have Z10 : Hid (∀ V, Calls Tryf.prog 15 #[.agg (G (o + 10)).L.toArray] V (Gv (.bool false) V)) := Lib.hid (fun V => by have := isZ_c (G (o + 10)) V; rw [h10] at this; exact this)
      go_upto_region 149 with (first | (go_at_call 15; (with_reducible refine (Z2.out _).mono ?_); rintro e wc ⟨rfl, bc⟩; replace M := Lib.hid (M.out.after bc); replace O := Lib.hid (O.out.trans (Only.of bc)); replace P := Lib.hid (P.out.trans (Only.of bc)); clear bc; have q := VS2.out _ P.out; have f0 := q 0 _ rfl; have f1 := q 1 _ rfl; have f2 := q 2 _ rfl; have f3 := q 3 _ rfl; have f4 := q 4 _ rfl; have f5 := q 5 _ rfl; have f6 := q 6 _ rfl; simp only [Nat.zero_add] at f0 f1 f2 f3 f4 f5 f6; clear q) | (go_at_call 15; (with_reducible refine (Z4.out _).mono ?_); rintro e wc ⟨rfl, bc⟩; replace M := Lib.hid (M.out.after bc); replace O := Lib.hid (O.out.trans (Only.of bc)); replace P := Lib.hid (P.out.trans (Only.of bc)); clear bc; have q := VS4.out _ P.out; have f0 := q 0 _ rfl; have f1 := q 1 _ rfl; have f2 := q 2 _ rfl; have f3 := q 3 _ rfl; have f4 := q 4 _ rfl; have f5 := q 5 _ rfl; have f6 := q 6 _ rfl; simp only [Nat.zero_add] at f0 f1 f2 f3 f4 f5 f6; clear q) | (go_at_call 15; (with_reducible refine (Z8.out _).mono ?_); rintro e wc ⟨rfl, bc⟩; replace M := Lib.hid (M.out.after bc); replace O := Lib.hid (O.out.trans (Only.of bc)); replace P := Lib.hid (P.out.trans (Only.of bc)); clear bc; have q := VS5.out _ P.out; have f0 := q 0 _ rfl; have f1 := q 1 _ rfl; have f2 := q 2 _ rfl; have f3 := q 3 _ rfl; have f4 := q 4 _ rfl; have f5 := q 5 _ rfl; have f6 := q 6 _ rfl; simp only [Nat.zero_add] at f0 f1 f2 f3 f4 f5 f6; clear q) | (go_at_call 15; (with_reducible refine (Z10.out _).mono ?_); rintro e wc ⟨rfl, bc⟩; replace M := Lib.hid (M.out.after bc); replace O := Lib.hid (O.out.trans (Only.of bc)); replace P := Lib.hid (P.out.trans (Only.of bc)); clear bc))
      clear Z2 Z4 Z8 Z10
      clear VS0 VS1 VS2 VS3 VS4 VS5 f0 f1 f2 f3 f4 f5 f6
      have k0 : wc.cell? ⟨T, 0, none⟩ = some (.pointer (some ⟨C, 0, none⟩)) := by simpa using M.out.tok 0 _ rfl
      have kc := M.out.ch
      have kle := M.out.le
      have k6 : wc.cell? ⟨A, o * 7 + 6, none⟩ = some (.int .u8 (G o).ws) := M.out.arr o (by omega) 6 _ rfl
      have kf : wc.frozen? ⟨A, o * 7 + 6, none⟩ = false := by obtain ⟨_, -, q⟩ := M.out.ra (o * 7 + 6) (by omega); exact q
      generalize hws : (G o).ws = ws0 at k6
      replace hws := Lib.hid hws
      go_upto_region 152 with fail
      refine wp_gen (fun W9 hW9 => ?_)
      have M9 : Hid (MS W9 T C A N nm (setW G o (bits .and .u8 (G o).ws 254)) o 11) := Lib.hid (by
        rw [hW9, ← hws.out]
        have := M.out.setw (i := o) (v := bits .and .u8 (G o).ws 254) (by omega)
        exact this)
      have O9 : Hid (O3 T C A w W9) := Lib.hid (by rw [hW9]; exact O.out.set _ _ (.inr (.inr rfl)))
      clear hW9 k0 kc k6 kf hws
      have k0 : W9.cell? ⟨T, 0, none⟩ = some (.pointer (some ⟨C, 0, none⟩)) := by simpa using M9.out.tok 0 _ rfl
      generalize hG9 : setW G o (bits .and .u8 (G o).ws 254) = G9 at M9
      have ej : (o + 11 - 1) * 7 + 6 = o * 7 + 70 + 6 := by omega
      have k6 : W9.cell? ⟨A, o * 7 + 70 + 6, none⟩ = some (.int .u8 (G9 (o + 11 - 1)).ws) := by rw [← ej]; exact M9.out.arr (o + 11 - 1) (by omega) 6 _ rfl
      have kf : W9.frozen? ⟨A, o * 7 + 70 + 6, none⟩ = false := by rw [← ej]; obtain ⟨_, -, q⟩ := M9.out.ra ((o + 11 - 1) * 7 + 6) (by omega); exact q
      have hM := Lib.hid (M9.out.setw (i := o + 11 - 1) (v := bits .and .u8 (G9 (o + 11 - 1)).ws 253) (by omega))
      rw [ej] at hM
      generalize hws : (G9 (o + 11 - 1)).ws = ws1 at k6 hM
      replace hws := Lib.hid hws
      replace hG9 := Lib.hid hG9
      replace ej := Lib.hid ej
      go_wp2
      rw [rounds_succ]
      go_wp2
      go_ret
      refine ⟨rfl, ?_, O9.out.set _ _ (.inr (.inr rfl))⟩
      have ha : arm false 0 ⟨nm, G, o, 11⟩ = ⟨nm, G, o, 11⟩ := (by simp [arm, h2, h4, h8, h10])
      rw [ha]
      show MS _ T C A N nm (trm G o 11) o 11
      unfold trm
      rw [hG9.out, hws.out]
      exact hM.out
    | true =>
    have Z2 : Hid (∀ V, Calls Tryf.prog 15 #[.agg (G (o + 2)).L.toArray] V (Gv (.bool true) V)) := Lib.hid (fun V => by have := isZ_c (G (o + 2)) V; rw [h2] at this; exact this)
    have Z4 : Hid (∀ V, Calls Tryf.prog 15 #[.agg (G (o + 4)).L.toArray] V (Gv (.bool true) V)) := Lib.hid (fun V => by have := isZ_c (G (o + 4)) V; rw [h4] at this; exact this)
    have Z8 : Hid (∀ V, Calls Tryf.prog 15 #[.agg (G (o + 8)).L.toArray] V (Gv (.bool true) V)) := Lib.hid (fun V => by have := isZ_c (G (o + 8)) V; rw [h8] at this; exact this)
    have Z10 : Hid (∀ V, Calls Tryf.prog 15 #[.agg (G (o + 10)).L.toArray] V (Gv (.bool true) V)) := Lib.hid (fun V => by have := isZ_c (G (o + 10)) V; rw [h10] at this; exact this)
    go_upto_region 14 with (first | (go_at_call 15; (with_reducible refine (Z2.out _).mono ?_); rintro e wc ⟨rfl, bc⟩; replace M := Lib.hid (M.out.after bc); replace O := Lib.hid (O.out.trans (Only.of bc)); replace P := Lib.hid (P.out.trans (Only.of bc)); clear bc; have q := VS2.out _ P.out; have f0 := q 0 _ rfl; have f1 := q 1 _ rfl; have f2 := q 2 _ rfl; have f3 := q 3 _ rfl; have f4 := q 4 _ rfl; have f5 := q 5 _ rfl; have f6 := q 6 _ rfl; simp only [Nat.zero_add] at f0 f1 f2 f3 f4 f5 f6; clear q) | (go_at_call 15; (with_reducible refine (Z4.out _).mono ?_); rintro e wc ⟨rfl, bc⟩; replace M := Lib.hid (M.out.after bc); replace O := Lib.hid (O.out.trans (Only.of bc)); replace P := Lib.hid (P.out.trans (Only.of bc)); clear bc; have q := VS4.out _ P.out; have f0 := q 0 _ rfl; have f1 := q 1 _ rfl; have f2 := q 2 _ rfl; have f3 := q 3 _ rfl; have f4 := q 4 _ rfl; have f5 := q 5 _ rfl; have f6 := q 6 _ rfl; simp only [Nat.zero_add] at f0 f1 f2 f3 f4 f5 f6; clear q) | (go_at_call 15; (with_reducible refine (Z8.out _).mono ?_); rintro e wc ⟨rfl, bc⟩; replace M := Lib.hid (M.out.after bc); replace O := Lib.hid (O.out.trans (Only.of bc)); replace P := Lib.hid (P.out.trans (Only.of bc)); clear bc; have q := VS5.out _ P.out; have f0 := q 0 _ rfl; have f1 := q 1 _ rfl; have f2 := q 2 _ rfl; have f3 := q 3 _ rfl; have f4 := q 4 _ rfl; have f5 := q 5 _ rfl; have f6 := q 6 _ rfl; simp only [Nat.zero_add] at f0 f1 f2 f3 f4 f5 f6; clear q) | (go_at_call 15; (with_reducible refine (Z10.out _).mono ?_); rintro e wc ⟨rfl, bc⟩; replace M := Lib.hid (M.out.after bc); replace O := Lib.hid (O.out.trans (Only.of bc)); replace P := Lib.hid (P.out.trans (Only.of bc)); clear bc; have q := VS0.out _ P.out; have f0 := q 0 _ rfl; have f1 := q 1 _ rfl; have f2 := q 2 _ rfl; have f3 := q 3 _ rfl; have f4 := q 4 _ rfl; have f5 := q 5 _ rfl; have f6 := q 6 _ rfl; simp only [Nat.zero_add] at f0 f1 f2 f3 f4 f5 f6; clear q; have q := VS3.out _ P.out; have g0 := q 0 _ rfl; have g1 := q 1 _ rfl; have g2 := q 2 _ rfl; have g3 := q 3 _ rfl; have g4 := q 4 _ rfl; have g5 := q 5 _ rfl; have g6 := q 6 _ rfl; simp only [Nat.zero_add] at g0 g1 g2 g3 g4 g5 g6; clear q))
    clear Z2 Z4 Z8 Z10
    cases hs : same (G o) (G (o + 6)) with
    | true =>
      have ZS : Hid (∀ V, Calls Tryf.prog 16 #[.agg (G o).L.toArray, .agg (G (o + 6)).L.toArray] V (Gv (.bool true) V)) := Lib.hid (fun V => by have := same_c (G o) (G (o + 6)) V; rw [hs] at this; exact this)
      go_upto_region 15 with (go_at_call 16; (with_reducible refine (ZS.out _).mono ?_); rintro e wc ⟨rfl, bc⟩; replace M := Lib.hid (M.out.after bc); replace O := Lib.hid (O.out.trans (Only.of bc)); replace P := Lib.hid (P.out.trans (Only.of bc)); clear bc)
      clear ZS
      have k1 : wc.cell? ⟨T, 1, none⟩ = some (.string nm) := by simpa using M.out.tok 1 _ rfl
      have kf1 : wc.frozen? ⟨T, 1, none⟩ = false := by obtain ⟨_, -, q⟩ := M.out.rt 1 (by omega); exact q
      go_upto_region 16 with fail
      refine wp_gen (fun wd hWd => ?_)
      have M' : Hid (MS wd T C A N ⟨#[115, 99, 97, 108, 101]⟩ G o 11) := Lib.hid (by rw [hWd]; exact M.out.name)
      have O' : Hid (O3 T C A w wd) := Lib.hid (by rw [hWd]; exact O.out.set _ _ (.inl rfl))
      have P' : Hid (O3 T C A W0 wd) := Lib.hid (by rw [hWd]; exact P.out.set _ _ (.inl rfl))
      clear k1 kf1 hWd M O
      have M := M'
      have O := O'
      clear M' O'
      clear P
      have P := P'
      clear P'
      obtain ⟨wc, rfl⟩ : ∃ x, x = wd := ⟨_, rfl⟩
      clear VS0 VS1 VS2 VS3 VS4 VS5 f0 f1 f2 f3 f4 f5 f6 g0 g1 g2 g3 g4 g5 g6
      have sl : ∀ W : World, (Instr.sliceAt 27 (.slice (some ⟨A, o * 7, none⟩) 11 (N - o)) none (some (.int .i64 1)) none).run Tryf.prog W = .ok (.slice (some ⟨A, o * 7, none⟩) 1 (N - o)) W := fun W => sl_h A (o * 7) 11 (N - o) 1 (by omega) W
      have k0 : wc.cell? ⟨T, 0, none⟩ = some (.pointer (some ⟨C, 0, none⟩)) := by simpa using M.out.tok 0 _ rfl
      have y := fun d os => cell_regrown k0 d os
      refine drawn_tail 7 (by kernel_rfl) (by kernel_rfl) (by kernel_rfl) (fun Q hQ => ?_)
      simp only [List.take_succ_cons, List.take_zero, List.drop_succ_cons, List.drop_zero]
      repeat (quiet_step (fail))
      refine wpQuiet_nil ?_
      intro wd hw
      have bc : Below wc.heap.size wc wd := by
        obtain ⟨⟨d, os⟩, rfl⟩ := hw
        exact below_regrown _ d os
      clear hw y k0 sl
      replace M := Lib.hid (M.out.after bc)
      replace O := Lib.hid (O.out.trans (Only.of bc))
      replace P := Lib.hid (P.out.trans (Only.of bc))
      clear bc
      obtain ⟨wc, rfl⟩ : ∃ x, x = wd := ⟨_, rfl⟩
      have kc := M.out.ch
      have kcf : wc.frozen? ⟨C, 0, none⟩ = false := by obtain ⟨_, -, q⟩ := M.out.rc 0 (by omega); exact q
      go_upto_region 149 with fail
      refine wp_gen (fun wd hWd => ?_)
      have M' : Hid (MS wd T C A N ⟨#[115, 99, 97, 108, 101]⟩ G o 1) := Lib.hid (by
        rw [hWd]
        have := M.out.kids (o' := o) (n' := 1) (by have := M.out.le; omega)
        exact this)
      have O' : Hid (O3 T C A w wd) := Lib.hid (by rw [hWd]; exact O.out.set _ _ (.inr (.inl rfl)))
      clear kc kcf hWd M O
      have M := M'
      have O := O'
      clear M' O'
      obtain ⟨wc, rfl⟩ : ∃ x, x = wd := ⟨_, rfl⟩
      have k0 : wc.cell? ⟨T, 0, none⟩ = some (.pointer (some ⟨C, 0, none⟩)) := by simpa using M.out.tok 0 _ rfl
      have kc := M.out.ch
      have kle := M.out.le
      have k6 : wc.cell? ⟨A, o * 7 + 6, none⟩ = some (.int .u8 (G o).ws) := M.out.arr o (by omega) 6 _ rfl
      have kf : wc.frozen? ⟨A, o * 7 + 6, none⟩ = false := by obtain ⟨_, -, q⟩ := M.out.ra (o * 7 + 6) (by omega); exact q
      generalize hws : (G o).ws = ws0 at k6
      replace hws := Lib.hid hws
      go_upto_region 152 with fail
      refine wp_gen (fun W9 hW9 => ?_)
      have M9 : Hid (MS W9 T C A N ⟨#[115, 99, 97, 108, 101]⟩ (setW G o (bits .and .u8 (G o).ws 254)) o 1) := Lib.hid (by
        rw [hW9, ← hws.out]
        have := M.out.setw (i := o) (v := bits .and .u8 (G o).ws 254) (by omega)
        exact this)
      have O9 : Hid (O3 T C A w W9) := Lib.hid (by rw [hW9]; exact O.out.set _ _ (.inr (.inr rfl)))
      clear hW9 k0 kc k6 kf hws
      have k0 : W9.cell? ⟨T, 0, none⟩ = some (.pointer (some ⟨C, 0, none⟩)) := by simpa using M9.out.tok 0 _ rfl
      generalize hG9 : setW G o (bits .and .u8 (G o).ws 254) = G9 at M9
      have ej : (o + 1 - 1) * 7 + 6 = o * 7 + 6 := by omega
      have k6 : W9.cell? ⟨A, o * 7 + 6, none⟩ = some (.int .u8 (G9 (o + 1 - 1)).ws) := by rw [← ej]; exact M9.out.arr (o + 1 - 1) (by omega) 6 _ rfl
      have kf : W9.frozen? ⟨A, o * 7 + 6, none⟩ = false := by rw [← ej]; obtain ⟨_, -, q⟩ := M9.out.ra ((o + 1 - 1) * 7 + 6) (by omega); exact q
      have hM := Lib.hid (M9.out.setw (i := o + 1 - 1) (v := bits .and .u8 (G9 (o + 1 - 1)).ws 253) (by omega))
      rw [ej] at hM
      generalize hws : (G9 (o + 1 - 1)).ws = ws1 at k6 hM
      replace hws := Lib.hid hws
      replace hG9 := Lib.hid hG9
      replace ej := Lib.hid ej
      go_wp2
      rw [rounds_succ]
      go_wp2
      go_ret
      refine ⟨rfl, ?_, O9.out.set _ _ (.inr (.inr rfl))⟩
      have ha : arm false 0 ⟨nm, G, o, 11⟩ = ⟨⟨#[115, 99, 97, 108, 101]⟩, G, o, 1⟩ := (by simp [arm, h2, h4, h8, h10, hs])
      rw [ha]
      show MS _ T C A N ⟨#[115, 99, 97, 108, 101]⟩ (trm G o 1) o 1
      unfold trm
      rw [hG9.out, hws.out]
      exact hM.out
    | false =>
    cases h6 : isO (G (o + 6)) with
    | true =>
      have ZS : Hid (∀ V, Calls Tryf.prog 16 #[.agg (G o).L.toArray, .agg (G (o + 6)).L.toArray] V (Gv (.bool false) V)) := Lib.hid (fun V => by have := same_c (G o) (G (o + 6)) V; rw [hs] at this; exact this)
      have Z6 : Hid (∀ V, Calls Tryf.prog 17 #[.agg (G (o + 6)).L.toArray] V (Gv (.bool true) V)) := Lib.hid (fun V => by have := isO_c (G (o + 6)) V; rw [h6] at this; exact this)
      go_upto_region 18 with (first | (go_at_call 16; (with_reducible refine (ZS.out _).mono ?_); rintro e wc ⟨rfl, bc⟩; replace M := Lib.hid (M.out.after bc); replace O := Lib.hid (O.out.trans (Only.of bc)); replace P := Lib.hid (P.out.trans (Only.of bc)); clear bc; have q := VS3.out _ P.out; have f0 := q 0 _ rfl; have f1 := q 1 _ rfl; have f2 := q 2 _ rfl; have f3 := q 3 _ rfl; have f4 := q 4 _ rfl; have f5 := q 5 _ rfl; have f6 := q 6 _ rfl; simp only [Nat.zero_add] at f0 f1 f2 f3 f4 f5 f6; clear q) | (go_at_call 17; (with_reducible refine (Z6.out _).mono ?_); rintro e wc ⟨rfl, bc⟩; replace M := Lib.hid (M.out.after bc); replace O := Lib.hid (O.out.trans (Only.of bc)); replace P := Lib.hid (P.out.trans (Only.of bc)); clear bc))
      clear ZS Z6
      have k1 : wc.cell? ⟨T, 1, none⟩ = some (.string nm) := by simpa using M.out.tok 1 _ rfl
      have kf1 : wc.frozen? ⟨T, 1, none⟩ = false := by obtain ⟨_, -, q⟩ := M.out.rt 1 (by omega); exact q
      go_upto_region 19 with fail
      refine wp_gen (fun wd hWd => ?_)
      have M' : Hid (MS wd T C A N ⟨#[115, 99, 97, 108, 101, 88]⟩ G o 11) := Lib.hid (by rw [hWd]; exact M.out.name)
      have O' : Hid (O3 T C A w wd) := Lib.hid (by rw [hWd]; exact O.out.set _ _ (.inl rfl))
      have P' : Hid (O3 T C A W0 wd) := Lib.hid (by rw [hWd]; exact P.out.set _ _ (.inl rfl))
      clear k1 kf1 hWd M O
      have M := M'
      have O := O'
      clear M' O'
      clear P
      have P := P'
      clear P'
      obtain ⟨wc, rfl⟩ : ∃ x, x = wd := ⟨_, rfl⟩
      clear VS0 VS1 VS2 VS3 VS4 VS5 f0 f1 f2 f3 f4 f5 f6 g0 g1 g2 g3 g4 g5 g6
      have sl : ∀ W : World, (Instr.sliceAt 27 (.slice (some ⟨A, o * 7, none⟩) 11 (N - o)) none (some (.int .i64 1)) none).run Tryf.prog W = .ok (.slice (some ⟨A, o * 7, none⟩) 1 (N - o)) W := fun W => sl_h A (o * 7) 11 (N - o) 1 (by omega) W
      have k0 : wc.cell? ⟨T, 0, none⟩ = some (.pointer (some ⟨C, 0, none⟩)) := by simpa using M.out.tok 0 _ rfl
      have y := fun d os => cell_regrown k0 d os
      refine drawn_tail 7 (by kernel_rfl) (by kernel_rfl) (by kernel_rfl) (fun Q hQ => ?_)
      simp only [List.take_succ_cons, List.take_zero, List.drop_succ_cons, List.drop_zero]
      repeat (quiet_step (fail))
      refine wpQuiet_nil ?_
      intro wd hw
      have bc : Below wc.heap.size wc wd := by
        obtain ⟨⟨d, os⟩, rfl⟩ := hw
        exact below_regrown _ d os
      clear hw y k0 sl
      replace M := Lib.hid (M.out.after bc)
      replace O := Lib.hid (O.out.trans (Only.of bc))
      replace P := Lib.hid (P.out.trans (Only.of bc))
      clear bc
      obtain ⟨wc, rfl⟩ : ∃ x, x = wd := ⟨_, rfl⟩
      have kc := M.out.ch
      have kcf : wc.frozen? ⟨C, 0, none⟩ = false := by obtain ⟨_, -, q⟩ := M.out.rc 0 (by omega); exact q
      go_upto_region 149 with fail
      refine wp_gen (fun wd hWd => ?_)
      have M' : Hid (MS wd T C A N ⟨#[115, 99, 97, 108, 101, 88]⟩ G o 1) := Lib.hid (by
        rw [hWd]
        have := M.out.kids (o' := o) (n' := 1) (by have := M.out.le; omega)
        exact this)
      have O' : Hid (O3 T C A w wd) := Lib.hid (by rw [hWd]; exact O.out.set _ _ (.inr (.inl rfl)))
      clear kc kcf hWd M O
      have M := M'
      have O := O'
      clear M' O'
      obtain ⟨wc, rfl⟩ : ∃ x, x = wd := ⟨_, rfl⟩
      have k0 : wc.cell? ⟨T, 0, none⟩ = some (.pointer (some ⟨C, 0, none⟩)) := by simpa using M.out.tok 0 _ rfl
      have kc := M.out.ch
      have kle := M.out.le
      have k6 : wc.cell? ⟨A, o * 7 + 6, none⟩ = some (.int .u8 (G o).ws) := M.out.arr o (by omega) 6 _ rfl
      have kf : wc.frozen? ⟨A, o * 7 + 6, none⟩ = false := by obtain ⟨_, -, q⟩ := M.out.ra (o * 7 + 6) (by omega); exact q
      generalize hws : (G o).ws = ws0 at k6
      replace hws := Lib.hid hws
      go_upto_region 152 with fail
      refine wp_gen (fun W9 hW9 => ?_)
      have M9 : Hid (MS W9 T C A N ⟨#[115, 99, 97, 108, 101, 88]⟩ (setW G o (bits .and .u8 (G o).ws 254)) o 1) := Lib.hid (by
        rw [hW9, ← hws.out]
        have := M.out.setw (i := o) (v := bits .and .u8 (G o).ws 254) (by omega)
        exact this)
      have O9 : Hid (O3 T C A w W9) := Lib.hid (by rw [hW9]; exact O.out.set _ _ (.inr (.inr rfl)))
      clear hW9 k0 kc k6 kf hws
      have k0 : W9.cell? ⟨T, 0, none⟩ = some (.pointer (some ⟨C, 0, none⟩)) := by simpa using M9.out.tok 0 _ rfl
      generalize hG9 : setW G o (bits .and .u8 (G o).ws 254) = G9 at M9
      have ej : (o + 1 - 1) * 7 + 6 = o * 7 + 6 := by omega
      have k6 : W9.cell? ⟨A, o * 7 + 6, none⟩ = some (.int .u8 (G9 (o + 1 - 1)).ws) := by rw [← ej]; exact M9.out.arr (o + 1 - 1) (by omega) 6 _ rfl
      have kf : W9.frozen? ⟨A, o * 7 + 6, none⟩ = false := by rw [← ej]; obtain ⟨_, -, q⟩ := M9.out.ra ((o + 1 - 1) * 7 + 6) (by omega); exact q
      have hM := Lib.hid (M9.out.setw (i := o + 1 - 1) (v := bits .and .u8 (G9 (o + 1 - 1)).ws 253) (by omega))
      rw [ej] at hM
      generalize hws : (G9 (o + 1 - 1)).ws = ws1 at k6 hM
      replace hws := Lib.hid hws
      replace hG9 := Lib.hid hG9
      replace ej := Lib.hid ej
      go_wp2
      rw [rounds_succ]
      go_wp2
      go_ret
      refine ⟨rfl, ?_, O9.out.set _ _ (.inr (.inr rfl))⟩
      have ha : arm false 0 ⟨nm, G, o, 11⟩ = ⟨⟨#[115, 99, 97, 108, 101, 88]⟩, G, o, 1⟩ := (by simp [arm, h2, h4, h8, h10, hs, h6])
      rw [ha]
      show MS _ T C A N ⟨#[115, 99, 97, 108, 101, 88]⟩ (trm G o 1) o 1
      unfold trm
      rw [hG9.out, hws.out]
      exact hM.out
    | false =>
    cases h0 : isO (G o) with
    | true =>
      have ZS : Hid (∀ V, Calls Tryf.prog 16 #[.agg (G o).L.toArray, .agg (G (o + 6)).L.toArray] V (Gv (.bool false) V)) := Lib.hid (fun V => by have := same_c (G o) (G (o + 6)) V; rw [hs] at this; exact this)
      have Z6 : Hid (∀ V, Calls Tryf.prog 17 #[.agg (G (o + 6)).L.toArray] V (Gv (.bool false) V)) := Lib.hid (fun V => by have := isO_c (G (o + 6)) V; rw [h6] at this; exact this)
      have Z0 : Hid (∀ V, Calls Tryf.prog 17 #[.agg (G o).L.toArray] V (Gv (.bool true) V)) := Lib.hid (fun V => by have := isO_c (G o) V; rw [h0] at this; exact this)
      go_upto_region 21 with (first | (go_at_call 16; (with_reducible refine (ZS.out _).mono ?_); rintro e wc ⟨rfl, bc⟩; replace M := Lib.hid (M.out.after bc); replace O := Lib.hid (O.out.trans (Only.of bc)); replace P := Lib.hid (P.out.trans (Only.of bc)); clear bc; have q := VS3.out _ P.out; have f0 := q 0 _ rfl; have f1 := q 1 _ rfl; have f2 := q 2 _ rfl; have f3 := q 3 _ rfl; have f4 := q 4 _ rfl; have f5 := q 5 _ rfl; have f6 := q 6 _ rfl; simp only [Nat.zero_add] at f0 f1 f2 f3 f4 f5 f6; clear q) | (go_at_call 17; (with_reducible refine (Z6.out _).mono ?_); rintro e wc ⟨rfl, bc⟩; replace M := Lib.hid (M.out.after bc); replace O := Lib.hid (O.out.trans (Only.of bc)); replace P := Lib.hid (P.out.trans (Only.of bc)); clear bc; have q := VS0.out _ P.out; have g0 := q 0 _ rfl; have g1 := q 1 _ rfl; have g2 := q 2 _ rfl; have g3 := q 3 _ rfl; have g4 := q 4 _ rfl; have g5 := q 5 _ rfl; have g6 := q 6 _ rfl; simp only [Nat.zero_add] at g0 g1 g2 g3 g4 g5 g6; clear q) | (go_at_call 17; (with_reducible refine (Z0.out _).mono ?_); rintro e wc ⟨rfl, bc⟩; replace M := Lib.hid (M.out.after bc); replace O := Lib.hid (O.out.trans (Only.of bc)); replace P := Lib.hid (P.out.trans (Only.of bc)); clear bc))
      clear ZS Z6 Z0
      have k1 : wc.cell? ⟨T, 1, none⟩ = some (.string nm) := by simpa using M.out.tok 1 _ rfl
      have kf1 : wc.frozen? ⟨T, 1, none⟩ = false := by obtain ⟨_, -, q⟩ := M.out.rt 1 (by omega); exact q
      go_upto_region 22 with fail
      refine wp_gen (fun wd hWd => ?_)
      have M' : Hid (MS wd T C A N ⟨#[115, 99, 97, 108, 101, 89]⟩ G o 11) := Lib.hid (by rw [hWd]; exact M.out.name)
      have O' : Hid (O3 T C A w wd) := Lib.hid (by rw [hWd]; exact O.out.set _ _ (.inl rfl))
      have P' : Hid (O3 T C A W0 wd) := Lib.hid (by rw [hWd]; exact P.out.set _ _ (.inl rfl))
      clear k1 kf1 hWd M O
      have M := M'
      have O := O'
      clear M' O'
      clear P
      have P := P'
      clear P'
      obtain ⟨wc, rfl⟩ : ∃ x, x = wd := ⟨_, rfl⟩
      clear VS0 VS1 VS2 VS3 VS4 VS5 f0 f1 f2 f3 f4 f5 f6 g0 g1 g2 g3 g4 g5 g6
      have sl : ∀ W : World, (Instr.sliceAt 27 (.slice (some ⟨A, o * 7, none⟩) 11 (N - o)) (some (.int .i64 6)) (some (.int .i64 7)) none).run Tryf.prog W = .ok (.slice (some ⟨A, o * 7 + 42, none⟩) 1 (N - o - 6)) W := fun W => sl_lh A (o * 7) 11 (N - o) 6 7 (by omega) (by omega) (by omega) W
      have k0 : wc.cell? ⟨T, 0, none⟩ = some (.pointer (some ⟨C, 0, none⟩)) := by simpa using M.out.tok 0 _ rfl
      have y := fun d os => cell_regrown k0 d os
      refine drawn_tail 7 (by kernel_rfl) (by kernel_rfl) (by kernel_rfl) (fun Q hQ => ?_)
      simp only [List.take_succ_cons, List.take_zero, List.drop_succ_cons, List.drop_zero]
      repeat (quiet_step (fail))
      refine wpQuiet_nil ?_
      intro wd hw
      have bc : Below wc.heap.size wc wd := by
        obtain ⟨⟨d, os⟩, rfl⟩ := hw
        exact below_regrown _ d os
      clear hw y k0 sl
      replace M := Lib.hid (M.out.after bc)
      replace O := Lib.hid (O.out.trans (Only.of bc))
      replace P := Lib.hid (P.out.trans (Only.of bc))
      clear bc
      obtain ⟨wc, rfl⟩ : ∃ x, x = wd := ⟨_, rfl⟩
      have kc := M.out.ch
      have kcf : wc.frozen? ⟨C, 0, none⟩ = false := by obtain ⟨_, -, q⟩ := M.out.rc 0 (by omega); exact q
      go_upto_region 149 with fail
      refine wp_gen (fun wd hWd => ?_)
      have M' : Hid (MS wd T C A N ⟨#[115, 99, 97, 108, 101, 89]⟩ G (o + 6) 1) := Lib.hid (by
        rw [hWd]
        have := M.out.kids (o' := (o + 6)) (n' := 1) (by have := M.out.le; omega)
        rw [show (o + 6) * 7 = o * 7 + 42 by omega, show N - (o + 6) = N - o - 6 by omega] at this
        exact this)
      have O' : Hid (O3 T C A w wd) := Lib.hid (by rw [hWd]; exact O.out.set _ _ (.inr (.inl rfl)))
      clear kc kcf hWd M O
      have M := M'
      have O := O'
      clear M' O'
      obtain ⟨wc, rfl⟩ : ∃ x, x = wd := ⟨_, rfl⟩
      have k0 : wc.cell? ⟨T, 0, none⟩ = some (.pointer (some ⟨C, 0, none⟩)) := by simpa using M.out.tok 0 _ rfl
      have kc := M.out.ch
      have kle := M.out.le
      have k6 : wc.cell? ⟨A, (o + 6) * 7 + 6, none⟩ = some (.int .u8 (G (o + 6)).ws) := M.out.arr (o + 6) (by omega) 6 _ rfl
      have kf : wc.frozen? ⟨A, (o + 6) * 7 + 6, none⟩ = false := by obtain ⟨_, -, q⟩ := M.out.ra ((o + 6) * 7 + 6) (by omega); exact q
      have oe : (o + 6) * 7 = o * 7 + 42 := by omega
      rw [oe] at kc k6 kf
      generalize hws : (G (o + 6)).ws = ws0 at k6
      replace hws := Lib.hid hws
      go_upto_region 152 with fail
      refine wp_gen (fun W9 hW9 => ?_)
      have M9 : Hid (MS W9 T C A N ⟨#[115, 99, 97, 108, 101, 89]⟩ (setW G (o + 6) (bits .and .u8 (G (o + 6)).ws 254)) (o + 6) 1) := Lib.hid (by
        rw [hW9, ← hws.out]
        have := M.out.setw (i := (o + 6)) (v := bits .and .u8 (G (o + 6)).ws 254) (by omega)
        rw [oe] at this; exact this)
      have O9 : Hid (O3 T C A w W9) := Lib.hid (by rw [hW9]; exact O.out.set _ _ (.inr (.inr rfl)))
      clear hW9 k0 kc k6 kf hws
      have k0 : W9.cell? ⟨T, 0, none⟩ = some (.pointer (some ⟨C, 0, none⟩)) := by simpa using M9.out.tok 0 _ rfl
      generalize hG9 : setW G (o + 6) (bits .and .u8 (G (o + 6)).ws 254) = G9 at M9
      have ej : ((o + 6) + 1 - 1) * 7 + 6 = o * 7 + 42 + 6 := by omega
      have k6 : W9.cell? ⟨A, o * 7 + 42 + 6, none⟩ = some (.int .u8 (G9 ((o + 6) + 1 - 1)).ws) := by rw [← ej]; exact M9.out.arr ((o + 6) + 1 - 1) (by omega) 6 _ rfl
      have kf : W9.frozen? ⟨A, o * 7 + 42 + 6, none⟩ = false := by rw [← ej]; obtain ⟨_, -, q⟩ := M9.out.ra (((o + 6) + 1 - 1) * 7 + 6) (by omega); exact q
      have hM := Lib.hid (M9.out.setw (i := (o + 6) + 1 - 1) (v := bits .and .u8 (G9 ((o + 6) + 1 - 1)).ws 253) (by omega))
      rw [ej] at hM
      generalize hws : (G9 ((o + 6) + 1 - 1)).ws = ws1 at k6 hM
      replace hws := Lib.hid hws
      replace hG9 := Lib.hid hG9
      replace ej := Lib.hid ej
      go_wp2
      rw [rounds_succ]
      go_wp2
      go_ret
      refine ⟨rfl, ?_, O9.out.set _ _ (.inr (.inr rfl))⟩
      have ha : arm false 0 ⟨nm, G, o, 11⟩ = ⟨⟨#[115, 99, 97, 108, 101, 89]⟩, G, o + 6, 1⟩ := (by simp [arm, h2, h4, h8, h10, hs, h6, h0])
      rw [ha]
      show MS _ T C A N ⟨#[115, 99, 97, 108, 101, 89]⟩ (trm G (o + 6) 1) (o + 6) 1
      unfold trm
      rw [hG9.out, hws.out]
      exact hM.out
    | false =>
      have ZS : Hid (∀ V, Calls Tryf.prog 16 #[.agg (G o).L.toArray, .agg (G (o + 6)).L.toArray] V (Gv (.bool false) V)) := Lib.hid (fun V => by have := same_c (G o) (G (o + 6)) V; rw [hs] at this; exact this)
      have Z6 : Hid (∀ V, Calls Tryf.prog 17 #[.agg (G (o + 6)).L.toArray] V (Gv (.bool false) V)) := Lib.hid (fun V => by have := isO_c (G (o + 6)) V; rw [h6] at this; exact this)
      have Z0 : Hid (∀ V, Calls Tryf.prog 17 #[.agg (G o).L.toArray] V (Gv (.bool false) V)) := Lib.hid (fun V => by have := isO_c (G o) V; rw [h0] at this; exact this)
      go_upto_region 23 with (first | (go_at_call 16; (with_reducible refine (ZS.out _).mono ?_); rintro e wc ⟨rfl, bc⟩; replace M := Lib.hid (M.out.after bc); replace O := Lib.hid (O.out.trans (Only.of bc)); replace P := Lib.hid (P.out.trans (Only.of bc)); clear bc; have q := VS3.out _ P.out; have f0 := q 0 _ rfl; have f1 := q 1 _ rfl; have f2 := q 2 _ rfl; have f3 := q 3 _ rfl; have f4 := q 4 _ rfl; have f5 := q 5 _ rfl; have f6 := q 6 _ rfl; simp only [Nat.zero_add] at f0 f1 f2 f3 f4 f5 f6; clear q) | (go_at_call 17; (with_reducible refine (Z6.out _).mono ?_); rintro e wc ⟨rfl, bc⟩; replace M := Lib.hid (M.out.after bc); replace O := Lib.hid (O.out.trans (Only.of bc)); replace P := Lib.hid (P.out.trans (Only.of bc)); clear bc; have q := VS0.out _ P.out; have g0 := q 0 _ rfl; have g1 := q 1 _ rfl; have g2 := q 2 _ rfl; have g3 := q 3 _ rfl; have g4 := q 4 _ rfl; have g5 := q 5 _ rfl; have g6 := q 6 _ rfl; simp only [Nat.zero_add] at g0 g1 g2 g3 g4 g5 g6; clear q) | (go_at_call 17; (with_reducible refine (Z0.out _).mono ?_); rintro e wc ⟨rfl, bc⟩; replace M := Lib.hid (M.out.after bc); replace O := Lib.hid (O.out.trans (Only.of bc)); replace P := Lib.hid (P.out.trans (Only.of bc)); clear bc))
      clear ZS Z6 Z0
      have k1 : wc.cell? ⟨T, 1, none⟩ = some (.string nm) := by simpa using M.out.tok 1 _ rfl
      have kf1 : wc.frozen? ⟨T, 1, none⟩ = false := by obtain ⟨_, -, q⟩ := M.out.rt 1 (by omega); exact q
      go_upto_region 24 with fail
      refine wp_gen (fun wd hWd => ?_)
      have M' : Hid (MS wd T C A N ⟨#[115, 99, 97, 108, 101]⟩ G o 11) := Lib.hid (by rw [hWd]; exact M.out.name)
      have O' : Hid (O3 T C A w wd) := Lib.hid (by rw [hWd]; exact O.out.set _ _ (.inl rfl))
      have P' : Hid (O3 T C A W0 wd) := Lib.hid (by rw [hWd]; exact P.out.set _ _ (.inl rfl))
      clear k1 kf1 hWd M O
      have M := M'
      have O := O'
      clear M' O'
      clear P
      have P := P'
      clear P'
      obtain ⟨wc, rfl⟩ : ∃ x, x = wd := ⟨_, rfl⟩
      clear f0 f1 f2 f3 f4 f5 f6 g0 g1 g2 g3 g4 g5 g6
      obtain ⟨Gn, hGn⟩ : ∃ g : Nat → Tq, g = (fun j => if j = o + 2 then G (o + 6) else G j) := ⟨_, rfl⟩
      obtain ⟨Gm, hGm⟩ : ∃ g : Nat → Tq, g = G := ⟨_, rfl⟩
      replace hGn := Lib.hid hGn
      replace hGm := Lib.hid hGm
      have lts := M.out.lt
      have Wle : Hid (o + 11 ≤ N) := Lib.hid hle
      obtain ⟨Wb, hWb⟩ : ∃ x, wc = x := ⟨_, rfl⟩
      rw [hWb] at M O P lts
      rw [hWb]
      clear hWb
      refine QTail.wp_region_inv (AP T C A N ⟨#[115, 99, 97, 108, 101]⟩ G Gm Gn o 11 3 7 8 8 10 (G (o + 6)) (fun i => ([.pointer (some ⟨T, 0, none⟩), .pointer (some ⟨T, 0, none⟩), .pointer (some ⟨T, 0, none⟩), .pointer (some ⟨C, 0, none⟩), .slice (some ⟨A, o * 7, none⟩) 11 (N - o), .slice (some ⟨A, o * 7, none⟩) 2 (N - o), .agg (G (o + 6)).L.toArray, undef, .slice (some ⟨A, o * 7, none⟩) 3 (N - o), .pointer (some ⟨C, 0, none⟩)] : List Value).getD i undef) w W0 Wb) (by kernel_rfl) (by kernel_rfl) (AP.start O.out P.out M.out) ?_ ?_
      · refine ⟨?_, ?_, ?_, ?_, ?_, ?_, ?_, ?_, ?_, ?_, ?_, trivial⟩
        all_goals intro L vs W' hL hd hI
        · clear hd hL
          replace hI := Lib.hid hI
          simp only [QTail.putA, Nat.reduceAdd, Act.put, List.setIfInBounds_toArray, List.set_cons_succ, List.set_cons_zero]
          go_wp2
          exact hI.out.q 0 (by decide) (by decide) (by decide) (by decide)
        · have d0 : vs 0 = .pointer (some ⟨T, 0, none⟩) := hI.val 0 (by decide) (by decide) (hd { on := 0, ground := Ground.data } (by simp) rfl)
          clear hd hL
          replace hI := Lib.hid hI
          simp only [QTail.putA, Nat.reduceAdd, Act.put, List.setIfInBounds_toArray, List.set_cons_succ, List.set_cons_zero, d0]
          go_wp2
          exact hI.out.q 1 (by decide) (by decide) (by decide) (by decide)
        · have d1 : vs 1 = .pointer (some ⟨T, 0, none⟩) := hI.val 1 (by decide) (by decide) (hd { on := 1, ground := Ground.data } (by simp) rfl)
          clear hd hL
          replace hI := Lib.hid hI
          simp only [QTail.putA, Nat.reduceAdd, Act.put, List.setIfInBounds_toArray, List.set_cons_succ, List.set_cons_zero, d1]
          go_wp2
          exact hI.out.q 2 (by decide) (by decide) (by decide) (by decide)
        · have d2 : vs 2 = .pointer (some ⟨T, 0, none⟩) := hI.val 2 (by decide) (by decide) (hd { on := 2, ground := Ground.data } (by simp) rfl)
          have kx : W'.cell? ⟨T, 0, none⟩ = some (.pointer (some ⟨C, 0, none⟩)) := by simpa using hI.ms.tok 0 _ rfl
          clear hd hL
          replace hI := Lib.hid hI
          simp only [QTail.putA, Nat.reduceAdd, Act.put, List.setIfInBounds_toArray, List.set_cons_succ, List.set_cons_zero, d2]
          go_wp2
          exact hI.out.q 3 (by decide) (by decide) (by decide) (by decide)
        · clear hd hL
          replace hI := Lib.hid hI
          simp only [QTail.putA, Nat.reduceAdd, Act.put, List.setIfInBounds_toArray, List.set_cons_succ, List.set_cons_zero]
          go_wp2
          exact hI.out.q 4 (by decide) (by decide) (by decide) (by decide)
        · have d4 : vs 4 = .slice (some ⟨A, o * 7, none⟩) 11 (N - o) := hI.val 4 (by decide) (by decide) (hd { on := 4, ground := Ground.data } (by simp) rfl)
          have sl : ∀ W : World, (Instr.sliceAt 27 (.slice (some ⟨A, o * 7, none⟩) 11 (N - o)) none (some (.int .i64 2)) none).run Tryf.prog W = .ok (.slice (some ⟨A, o * 7, none⟩) 2 (N - o)) W := fun W => sl_h A (o * 7) 11 (N - o) 2 (by have := Wle.out; omega) W
          clear hd hL
          replace hI := Lib.hid hI
          simp only [QTail.putA, Nat.reduceAdd, Act.put, List.setIfInBounds_toArray, List.set_cons_succ, List.set_cons_zero, d4]
          go_wp2
          exact hI.out.q 5 (by decide) (by decide) (by decide) (by decide)
        · have sg := Lib.hid (VS3.out _ hI.P)
          clear hd hL
          replace hI := Lib.hid hI
          simp only [QTail.putA, Nat.reduceAdd, Act.put, List.setIfInBounds_toArray, List.set_cons_succ, List.set_cons_zero]
          go_wp2_with ((with_reducible refine wpList_at (o := ⟨some 147, .load 79 (.tmp 12), _, _, _, _⟩) ?_); refine wpList_load_seg (op := ⟨some 147, .load 79 (.tmp 12), _, _, _, _⟩) rfl 79 (.tmp 12) rfl b3 0 rfl ((G (o + 6)).L) _ Tryf.underlying79 rfl (i79 (G (o + 6))) sg.out ?_)
          exact hI.out.q 6 (by decide) (by decide) (by decide) (by decide)
        · have d6 : vs 6 = .agg (G (o + 6)).L.toArray := hI.val 6 (by decide) (by decide) (hd { on := 6, ground := Ground.data } (by simp) rfl)
          clear hd hL
          replace hI := Lib.hid hI
          simp only [QTail.putA, Nat.reduceAdd, Act.put, List.setIfInBounds_toArray, List.set_cons_succ, List.set_cons_zero, d6]
          go_wp2
          exact hI.out.n (by decide) (by decide) (by decide) 79
        · have d5 : vs 5 = .slice (some ⟨A, o * 7, none⟩) 2 (N - o) := hI.val 5 (by decide) (by decide) (hd { on := 5, ground := Ground.data } (by simp) rfl)
          have h10 : L 10 = false := by
            cases h : L 10 with
            | false => rfl
            | true => have := hI.ord.1 h; rw [hL] at this; cases this
          obtain ⟨b, d7, b2, b3⟩ := hI.new (hd { on := 7, ground := Ground.data } (by simp) rfl)
          replace b3 := Lib.hid b3
          have ms := hI.ms
          simp only [hL, h10, Bool.false_eq_true, if_false] at ms
          clear hd
          replace hI := Lib.hid hI
          replace ms := Lib.hid ms
          simp only [QTail.putA, Nat.reduceAdd, Act.put, List.setIfInBounds_toArray, List.set_cons_succ, List.set_cons_zero, d5, d7]
          go_wp2_with (at_builtin; refine wpList_append_in (.tmp 146) (.tmp 148) A (o * 7) 2 (N - o : Nat) 1 1 ⟨b, 0, none⟩ (G (o + 6)).L rfl rfl rfl rfl rfl (fun j u hu => by rw [addN]; exact b3.out j u hu) (Tq.one _) (by have := Wle.out; omega) (fun j hj => by obtain ⟨v, hv, -⟩ := ms.out.ra (o * 7 + 2 * 7 + j) (by have := Wle.out; have hj' : j < 7 := hj; omega); rw [hv]; rfl) (fun j hj => by obtain ⟨v, -, hf⟩ := ms.out.ra (o * 7 + 2 * 7 + j) (by have := Wle.out; have hj' : j < 7 := hj; omega); exact hf) ?_; intro W2 hW2; replace hW2 := Lib.hid hW2)
          refine hI.out.step 8 _ (by decide) (fun _ => rfl) (by rw [hW2.out]; exact Only.setCells _ (.inr (.inr rfl)) _ _ (Only.refl _)) lts ?_ (fun q => by simp) (fun _ => by simp)
          simp only [h10, beq_self_eq_true, Bool.true_or, if_true, Bool.or_false, show (10 == 8) = false from rfl, Bool.false_eq_true, if_false]
          rw [hW2.out, hGn.out]
          have := ms.out.putT (i := o + 2) (by have := Wle.out; omega) (G (o + 6))
          rw [Nat.add_mul] at this
          exact this
        · have d3 : vs 3 = .pointer (some ⟨C, 0, none⟩) := hI.val 3 (by decide) (by decide) (hd { on := 3, ground := Ground.data } (by simp) rfl)
          clear hd hL
          replace hI := Lib.hid hI
          simp only [QTail.putA, Nat.reduceAdd, Act.put, List.setIfInBounds_toArray, List.set_cons_succ, List.set_cons_zero, d3]
          go_wp2
          exact hI.out.q 9 (by decide) (by decide) (by decide) (by decide)
        · have d9 : vs 9 = .pointer (some ⟨C, 0, none⟩) := hI.val 9 (by decide) (by decide) (hd { on := 9, ground := Ground.data } (by simp) rfl)
          have d8 : vs 8 = .slice (some ⟨A, o * 7, none⟩) 3 (N - o) := hI.val 8 (by decide) (by decide) (hd { on := 8, ground := Ground.data } (by simp) rfl)
          have lf : L 8 = true := hd { on := 8, ground := Ground.data } (by simp) rfl
          have lf1 : L 8 = true := hI.ord.2 lf
          have ms := hI.ms
          simp only [hL, lf, Bool.false_eq_true, if_false, if_true] at ms
          have kc := ms.ch
          have kcf : W'.frozen? ⟨C, 0, none⟩ = false := by obtain ⟨_, -, q⟩ := ms.rc 0 (by omega); exact q
          clear hd
          replace hI := Lib.hid hI
          replace ms := Lib.hid ms
          simp only [QTail.putA, Nat.reduceAdd, Act.put, List.setIfInBounds_toArray, List.set_cons_succ, List.set_cons_zero, d9, d8]
          go_wp2
          refine ⟨undef, hI.out.step 10 undef (by decide) (fun q => absurd rfl q) (Only.set (Only.refl _) _ _ (.inr (.inl rfl))) lts ?_ (fun _ => by simp [lf]) (fun _ => by simp [lf1])⟩
          simp only [lf, beq_self_eq_true, Bool.or_true, Bool.true_or, if_true]
          exact ms.out.kids (o' := o) (n' := 3) (by have := Wle.out; omega)
      intro vs wd hI
      have v0 : vs 0 = .pointer (some ⟨T, 0, none⟩) := hI.val 0 (by decide) (by decide) (by decide)
      have v1 : vs 1 = .pointer (some ⟨T, 0, none⟩) := hI.val 1 (by decide) (by decide) (by decide)
      have v2 : vs 2 = .pointer (some ⟨T, 0, none⟩) := hI.val 2 (by decide) (by decide) (by decide)
      have v3 : vs 3 = .pointer (some ⟨C, 0, none⟩) := hI.val 3 (by decide) (by decide) (by decide)
      have v4 : vs 4 = .slice (some ⟨A, o * 7, none⟩) 11 (N - o) := hI.val 4 (by decide) (by decide) (by decide)
      have v5 : vs 5 = .slice (some ⟨A, o * 7, none⟩) 2 (N - o) := hI.val 5 (by decide) (by decide) (by decide)
      have v6 : vs 6 = .agg (G (o + 6)).L.toArray := hI.val 6 (by decide) (by decide) (by decide)
      have v8 : vs 8 = .slice (some ⟨A, o * 7, none⟩) 3 (N - o) := hI.val 8 (by decide) (by decide) (by decide)
      have v9 : vs 9 = .pointer (some ⟨C, 0, none⟩) := hI.val 9 (by decide) (by decide) (by decide)
      obtain ⟨bq, v7, -, -⟩ := hI.new (by decide)
      replace M : Hid (MS wd T C A N ⟨#[115, 99, 97, 108, 101]⟩ Gn o 3) := Lib.hid (by have := hI.ms; simpa using this)
      replace O := Lib.hid hI.O
      clear hI P lts Wle hGm
      simp only [QTail.putA, Nat.reduceAdd, Act.put, List.setIfInBounds_toArray, List.set_cons_succ, List.set_cons_zero, v0, v1, v2, v3, v4, v5, v6, v7, v8, v9]
      clear v0 v1 v2 v3 v4 v5 v6 v7 v8 v9
      obtain ⟨wc, rfl⟩ : ∃ x, x = wd := ⟨_, rfl⟩
      clear VS0 VS1 VS2 VS3 VS4 VS5
      have k0 : wc.cell? ⟨T, 0, none⟩ = some (.pointer (some ⟨C, 0, none⟩)) := by simpa using M.out.tok 0 _ rfl
      have kc := M.out.ch
      have kle := M.out.le
      have k6 : wc.cell? ⟨A, o * 7 + 6, none⟩ = some (.int .u8 (Gn o).ws) := M.out.arr o (by omega) 6 _ rfl
      have kf : wc.frozen? ⟨A, o * 7 + 6, none⟩ = false := by obtain ⟨_, -, q⟩ := M.out.ra (o * 7 + 6) (by omega); exact q
      generalize hws : (Gn o).ws = ws0 at k6
      replace hws := Lib.hid hws
      go_upto_region 152 with fail
      refine wp_gen (fun W9 hW9 => ?_)
      have M9 : Hid (MS W9 T C A N ⟨#[115, 99, 97, 108, 101]⟩ (setW Gn o (bits .and .u8 (Gn o).ws 254)) o 3) := Lib.hid (by
        rw [hW9, ← hws.out]
        have := M.out.setw (i := o) (v := bits .and .u8 (Gn o).ws 254) (by omega)
        exact this)
      have O9 : Hid (O3 T C A w W9) := Lib.hid (by rw [hW9]; exact O.out.set _ _ (.inr (.inr rfl)))
      clear hW9 k0 kc k6 kf hws
      have k0 : W9.cell? ⟨T, 0, none⟩ = some (.pointer (some ⟨C, 0, none⟩)) := by simpa using M9.out.tok 0 _ rfl
      generalize hG9 : setW Gn o (bits .and .u8 (Gn o).ws 254) = G9 at M9
      have ej : (o + 3 - 1) * 7 + 6 = o * 7 + 14 + 6 := by omega
      have k6 : W9.cell? ⟨A, o * 7 + 14 + 6, none⟩ = some (.int .u8 (G9 (o + 3 - 1)).ws) := by rw [← ej]; exact M9.out.arr (o + 3 - 1) (by omega) 6 _ rfl
      have kf : W9.frozen? ⟨A, o * 7 + 14 + 6, none⟩ = false := by rw [← ej]; obtain ⟨_, -, q⟩ := M9.out.ra ((o + 3 - 1) * 7 + 6) (by omega); exact q
      have hM := Lib.hid (M9.out.setw (i := o + 3 - 1) (v := bits .and .u8 (G9 (o + 3 - 1)).ws 253) (by omega))
      rw [ej] at hM
      generalize hws : (G9 (o + 3 - 1)).ws = ws1 at k6 hM
      replace hws := Lib.hid hws
      replace hG9 := Lib.hid hG9
      replace ej := Lib.hid ej
      go_wp2
      rw [rounds_succ]
      go_wp2
      go_ret
      refine ⟨rfl, ?_, O9.out.set _ _ (.inr (.inr rfl))⟩
      have ha : arm false 0 ⟨nm, G, o, 11⟩ = ⟨⟨#[115, 99, 97, 108, 101]⟩, Gn, o, 3⟩ := (by simp [arm, h2, h4, h8, h10, hs, h6, h0, hGn.out])
      rw [ha]
      show MS _ T C A N ⟨#[115, 99, 97, 108, 101]⟩ (trm Gn o 3) o 3
      unfold trm
      rw [hG9.out, hws.out]
      exact hM.out
  · have hx5 : ((n : Int) == 11) = false := by simp; omega
    go_upto_region 149 with fail
    have k0 : wc.cell? ⟨T, 0, none⟩ = some (.pointer (some ⟨C, 0, none⟩)) := by simpa using M.out.tok 0 _ rfl
    have kc := M.out.ch
    have kle := M.out.le
    have k6 : wc.cell? ⟨A, o * 7 + 6, none⟩ = some (.int .u8 (G o).ws) := M.out.arr o (by omega) 6 _ rfl
    have kf : wc.frozen? ⟨A, o * 7 + 6, none⟩ = false := by obtain ⟨_, -, q⟩ := M.out.ra (o * 7 + 6) (by omega); exact q
    generalize hws : (G o).ws = ws0 at k6
    replace hws := Lib.hid hws
    have nt : ((n : Int) - 1).toNat = n - 1 := by omega
    have np : (0 : Int) < n := by omega
    have nn : (0 : Int) ≤ (n : Int) - 1 := by omega
    have nq : (n : Int) - 1 < n := by omega
    go_upto_region 152 with fail
    refine wp_gen (fun W9 hW9 => ?_)
    have M9 : Hid (MS W9 T C A N nm (setW G o (bits .and .u8 (G o).ws 254)) o n) := Lib.hid (by
      rw [hW9, ← hws.out]
      have := M.out.setw (i := o) (v := bits .and .u8 (G o).ws 254) (by omega)
      exact this)
    have O9 : Hid (O3 T C A w W9) := Lib.hid (by rw [hW9]; exact O.out.set _ _ (.inr (.inr rfl)))
    clear hW9 k0 kc k6 kf hws
    have k0 : W9.cell? ⟨T, 0, none⟩ = some (.pointer (some ⟨C, 0, none⟩)) := by simpa using M9.out.tok 0 _ rfl
    generalize hG9 : setW G o (bits .and .u8 (G o).ws 254) = G9 at M9
    have ej : (o + n - 1) * 7 + 6 = o * 7 + (n - 1) * 7 + 6 := by omega
    have k6 : W9.cell? ⟨A, o * 7 + (n - 1) * 7 + 6, none⟩ = some (.int .u8 (G9 (o + n - 1)).ws) := by rw [← ej]; exact M9.out.arr (o + n - 1) (by omega) 6 _ rfl
    have kf : W9.frozen? ⟨A, o * 7 + (n - 1) * 7 + 6, none⟩ = false := by rw [← ej]; obtain ⟨_, -, q⟩ := M9.out.ra ((o + n - 1) * 7 + 6) (by omega); exact q
    have hM := Lib.hid (M9.out.setw (i := o + n - 1) (v := bits .and .u8 (G9 (o + n - 1)).ws 253) (by omega))
    rw [ej] at hM
    generalize hws : (G9 (o + n - 1)).ws = ws1 at k6 hM
    replace hws := Lib.hid hws
    replace hG9 := Lib.hid hG9
    replace ej := Lib.hid ej
    go_wp2
    rw [rounds_succ]
    go_wp2
    go_ret
    refine ⟨rfl, ?_, O9.out.set _ _ (.inr (.inr rfl))⟩
    have ha : arm false 0 ⟨nm, G, o, n⟩ = ⟨nm, G, o, n⟩ := (by simp [arm, hn5])
    rw [ha]
    show MS _ T C A N nm (trm G o n) o n
    unfold trm
    rw [hG9.out, hws.out]
    exact hM.out
end Go.Proofs.YtoblbakaemglbaaFmt
