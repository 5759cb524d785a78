/- FnMangleTransformsIdempotentOnNumbers: mangleTransforms walked, some of the names. -/
import Derived.Test.YtoblbakaemglbaaFmtMt6
import Derived.Deep.DeepCutAuto
import Derived.LoopN
set_option linter.unusedVariables false
set_option linter.unusedSimpArgs false
namespace Go.Proofs.YtoblbakaemglbaaFmt
open Go.RowKit
set_option maxRecDepth 100000 in
set_option maxHeartbeats 8000000 in
theorem mt_2 (low : ByteArray → ByteArray) (T C A N : Nat) (nm : ByteArray) (G : Nat → Tq) (o n m : Nat) (p : Option Addr) (w : World) (h : MS w T C A N nm G o n) (hN : N ≤ 8191) (alt : ∀ j, j < n → (G (o + j)).kd = if j % 2 = 0 then 30 else 10) (hn : n = 2 * m + 1) (hL : Low low w) (hnm : nm.size ≤ 1048576) (hlow : low nm = ⟨#[116, 114, 97, 110, 115, 108, 97, 116, 101, 120]⟩) : Calls Tryf.prog 12 #[.pointer p, .slice (some ⟨T, 0, none⟩) 1 1] w (MtS T C A N (arm false 2 ⟨nm, G, o, n⟩) w) := by
  have hle := h.le
  have c5 : w.cell? ⟨T, 5, none⟩ = some (.int .u8 27) := by simpa using h.tok 5 _ rfl
  have c0 : w.cell? ⟨T, 0, none⟩ = some (.pointer (some ⟨C, 0, none⟩)) := by simpa using h.tok 0 _ rfl
  have c1 : w.cell? ⟨T, 1, none⟩ = some (.string nm) := by simpa using h.tok 1 _ rfl
  have cc := h.ch
  have C13 := Lib.hid (comma_c A (o * 7) m (N - o : Nat) w (by omega) (fun k hk => by
    have h1 := h.arr (o + (2 * k + 1)) (by omega) 5 _ rfl
    have h2 := alt (2 * k + 1) (by omega)
    rw [if_neg (by omega)] at h2
    rw [h2, Nat.add_mul] at h1
    exact h1))
  have C14 := Lib.hid (hL nm w hnm (Below.refl _ _))
  rw [hlow] at C14
  rw [← hn] at C13
  have n1 : 1 ≤ n := by omega
  have o30 : Hid (∀ i, i < n → i % 2 = 0 → w.cell? ⟨A, o * 7 + i * 7 + 5, none⟩ = some (.int .u8 30)) := Lib.hid (fun i hi he => by
    have h1 := h.arr (o + i) (by omega) 5 _ rfl
    have h2 := alt i hi
    rw [if_pos he] at h2
    rw [h2, Nat.add_mul] at h1
    exact h1)
  replace hn := Lib.hid hn
  replace h := Lib.hid h
  replace alt := Lib.hid alt
  clear hnm hlow hL
  go_enter Tryf.func12, Tryf.ntmps12
  go_wp2
  refine wp_loop_rounds 2 ?_
  rw [rounds_succ]
  go_upto_region 10 with (first | (go_at_call 13; (with_reducible refine C13.out.mono ?_); rintro e w2 ⟨rfl, rfl⟩) | (go_at_call 14; (with_reducible refine C14.out.mono ?_); rintro e w2 ⟨rfl, b2⟩; replace b2 := Lib.hid b2))
  clear C13 C14 c5 c1 c0 cc
  have M := Lib.hid (h.out.after b2.out)
  have O : Hid (O3 T C A w w2) := Lib.hid (Only.of b2.out)
  clear h b2 o30
  obtain ⟨wc, rfl⟩ : ∃ x, x = w2 := ⟨_, rfl⟩
  go_upto_region 38 with fail
  by_cases hn1 : n = 1
  · subst hn1
    have k1 : wc.cell? ⟨T, 1, none⟩ = some (.string nm) := by simpa using M.out.tok 1 _ rfl
    have kf1 : wc.frozen? ⟨T, 1, none⟩ = false := by obtain ⟨_, -, q⟩ := M.out.rt 1 (by omega); exact q
    go_upto_region 40 with fail
    refine wp_gen (fun wd hWd => ?_)
    have M' : Hid (MS wd T C A N ⟨#[116, 114, 97, 110, 115, 108, 97, 116, 101]⟩ G o 1) := Lib.hid (by rw [hWd]; exact M.out.name)
    have O' : Hid (O3 T C A w wd) := Lib.hid (by rw [hWd]; exact O.out.set _ _ (.inl rfl))
    clear k1 kf1 hWd M O
    have M := M'
    have O := O'
    clear M' O'
    obtain ⟨wc, rfl⟩ : ∃ x, x = wd := ⟨_, rfl⟩
    have CT := Lib.hid (fun (V : World) (x : ByteArray) (hV : MS V T C A N x G o 1) => tlp_c A (o * 7) V (by
      have h1 := hV.arr (o + 0) (by omega) 5 _ rfl
      have h2 := alt.out 0 (by omega)
      rw [if_pos rfl] at h2
      rw [h2, Nat.add_mul] at h1
      simpa using h1))
    go_upto_region 149 with (go_at_call 18; (with_reducible refine (CT.out _ _ M.out).mono ?_); rintro e wc ⟨rfl, bc⟩; replace M := Lib.hid (M.out.after bc); replace O := Lib.hid (O.out.trans (Only.of bc)); clear bc)
    clear CT
    have k0 : wc.cell? ⟨T, 0, none⟩ = some (.pointer (some ⟨C, 0, none⟩)) := by simpa using M.out.tok 0 _ rfl
    have kc := M.out.ch
    have kle := M.out.le
    have k6 : wc.cell? ⟨A, o * 7 + 6, none⟩ = some (.int .u8 (G o).ws) := M.out.arr o (by omega) 6 _ rfl
    have kf : wc.frozen? ⟨A, o * 7 + 6, none⟩ = false := by obtain ⟨_, -, q⟩ := M.out.ra (o * 7 + 6) (by omega); exact q
    generalize hws : (G o).ws = ws0 at k6
    replace hws := Lib.hid hws
    go_upto_region 152 with fail
    refine wp_gen (fun W9 hW9 => ?_)
    have M9 : Hid (MS W9 T C A N ⟨#[116, 114, 97, 110, 115, 108, 97, 116, 101]⟩ (setW G o (bits .and .u8 (G o).ws 254)) o 1) := Lib.hid (by
      rw [hW9, ← hws.out]
      have := M.out.setw (i := o) (v := bits .and .u8 (G o).ws 254) (by omega)
      exact this)
    have O9 : Hid (O3 T C A w W9) := Lib.hid (by rw [hW9]; exact O.out.set _ _ (.inr (.inr rfl)))
    clear hW9 k0 kc k6 kf hws
    have k0 : W9.cell? ⟨T, 0, none⟩ = some (.pointer (some ⟨C, 0, none⟩)) := by simpa using M9.out.tok 0 _ rfl
    generalize hG9 : setW G o (bits .and .u8 (G o).ws 254) = G9 at M9
    have ej : (o + 1 - 1) * 7 + 6 = o * 7 + 6 := by omega
    have k6 : W9.cell? ⟨A, o * 7 + 6, none⟩ = some (.int .u8 (G9 (o + 1 - 1)).ws) := by rw [← ej]; exact M9.out.arr (o + 1 - 1) (by omega) 6 _ rfl
    have kf : W9.frozen? ⟨A, o * 7 + 6, none⟩ = false := by rw [← ej]; obtain ⟨_, -, q⟩ := M9.out.ra ((o + 1 - 1) * 7 + 6) (by omega); exact q
    have hM := Lib.hid (M9.out.setw (i := o + 1 - 1) (v := bits .and .u8 (G9 (o + 1 - 1)).ws 253) (by omega))
    rw [ej] at hM
    generalize hws : (G9 (o + 1 - 1)).ws = ws1 at k6 hM
    replace hws := Lib.hid hws
    replace hG9 := Lib.hid hG9
    replace ej := Lib.hid ej
    go_wp2
    rw [rounds_succ]
    go_wp2
    go_ret
    refine ⟨rfl, ?_, O9.out.set _ _ (.inr (.inr rfl))⟩
    have ha : arm false 2 ⟨nm, G, o, 1⟩ = ⟨⟨#[116, 114, 97, 110, 115, 108, 97, 116, 101]⟩, G, o, 1⟩ := rfl
    rw [ha]
    show MS _ T C A N ⟨#[116, 114, 97, 110, 115, 108, 97, 116, 101]⟩ (trm G o 1) o 1
    unfold trm
    rw [hG9.out, hws.out]
    exact hM.out
  · have hx : ((n : Int) == 1) = false := by simp; omega
    go_upto_region 149 with fail
    have k0 : wc.cell? ⟨T, 0, none⟩ = some (.pointer (some ⟨C, 0, none⟩)) := by simpa using M.out.tok 0 _ rfl
    have kc := M.out.ch
    have kle := M.out.le
    have k6 : wc.cell? ⟨A, o * 7 + 6, none⟩ = some (.int .u8 (G o).ws) := M.out.arr o (by omega) 6 _ rfl
    have kf : wc.frozen? ⟨A, o * 7 + 6, none⟩ = false := by obtain ⟨_, -, q⟩ := M.out.ra (o * 7 + 6) (by omega); exact q
    generalize hws : (G o).ws = ws0 at k6
    replace hws := Lib.hid hws
    have nt : ((n : Int) - 1).toNat = n - 1 := by omega
    have np : (0 : Int) < n := by omega
    have nn : (0 : Int) ≤ (n : Int) - 1 := by omega
    have nq : (n : Int) - 1 < n := by omega
    go_upto_region 152 with fail
    refine wp_gen (fun W9 hW9 => ?_)
    have M9 : Hid (MS W9 T C A N nm (setW G o (bits .and .u8 (G o).ws 254)) o n) := Lib.hid (by
      rw [hW9, ← hws.out]
      have := M.out.setw (i := o) (v := bits .and .u8 (G o).ws 254) (by omega)
      exact this)
    have O9 : Hid (O3 T C A w W9) := Lib.hid (by rw [hW9]; exact O.out.set _ _ (.inr (.inr rfl)))
    clear hW9 k0 kc k6 kf hws
    have k0 : W9.cell? ⟨T, 0, none⟩ = some (.pointer (some ⟨C, 0, none⟩)) := by simpa using M9.out.tok 0 _ rfl
    generalize hG9 : setW G o (bits .and .u8 (G o).ws 254) = G9 at M9
    have ej : (o + n - 1) * 7 + 6 = o * 7 + (n - 1) * 7 + 6 := by omega
    have k6 : W9.cell? ⟨A, o * 7 + (n - 1) * 7 + 6, none⟩ = some (.int .u8 (G9 (o + n - 1)).ws) := by rw [← ej]; exact M9.out.arr (o + n - 1) (by omega) 6 _ rfl
    have kf : W9.frozen? ⟨A, o * 7 + (n - 1) * 7 + 6, none⟩ = false := by rw [← ej]; obtain ⟨_, -, q⟩ := M9.out.ra ((o + n - 1) * 7 + 6) (by omega); exact q
    have hM := Lib.hid (M9.out.setw (i := o + n - 1) (v := bits .and .u8 (G9 (o + n - 1)).ws 253) (by omega))
    rw [ej] at hM
    generalize hws : (G9 (o + n - 1)).ws = ws1 at k6 hM
    replace hws := Lib.hid hws
    replace hG9 := Lib.hid hG9
    replace ej := Lib.hid ej
    go_wp2
    rw [rounds_succ]
    go_wp2
    go_ret
    refine ⟨rfl, ?_, O9.out.set _ _ (.inr (.inr rfl))⟩
    have ha : arm false 2 ⟨nm, G, o, n⟩ = ⟨nm, G, o, n⟩ := (by simp [arm, hn1])
    rw [ha]
    show MS _ T C A N nm (trm G o n) o n
    unfold trm
    rw [hG9.out, hws.out]
    exact hM.out
set_option maxRecDepth 100000 in
set_option maxHeartbeats 8000000 in
theorem mt_8 (low : ByteArray → ByteArray) (T C A N : Nat) (nm : ByteArray) (G : Nat → Tq) (o n m : Nat) (p : Option Addr) (w : World) (h : MS w T C A N nm G o n) (hN : N ≤ 8191) (alt : ∀ j, j < n → (G (o + j)).kd = if j % 2 = 0 then 30 else 10) (hn : n = 2 * m + 1) (hL : Low low w) (hnm : nm.size ≤ 1048576) (hlow : low nm = ⟨#[114, 111, 116, 97, 116, 101, 122]⟩) : Calls Tryf.prog 12 #[.pointer p, .slice (some ⟨T, 0, none⟩) 1 1] w (MtS T C A N (arm false 8 ⟨nm, G, o, n⟩) w) := by
  have hle := h.le
  have c5 : w.cell? ⟨T, 5, none⟩ = some (.int .u8 27) := by simpa using h.tok 5 _ rfl
  have c0 : w.cell? ⟨T, 0, none⟩ = some (.pointer (some ⟨C, 0, none⟩)) := by simpa using h.tok 0 _ rfl
  have c1 : w.cell? ⟨T, 1, none⟩ = some (.string nm) := by simpa using h.tok 1 _ rfl
  have cc := h.ch
  have C13 := Lib.hid (comma_c A (o * 7) m (N - o : Nat) w (by omega) (fun k hk => by
    have h1 := h.arr (o + (2 * k + 1)) (by omega) 5 _ rfl
    have h2 := alt (2 * k + 1) (by omega)
    rw [if_neg (by omega)] at h2
    rw [h2, Nat.add_mul] at h1
    exact h1))
  have C14 := Lib.hid (hL nm w hnm (Below.refl _ _))
  rw [hlow] at C14
  rw [← hn] at C13
  have n1 : 1 ≤ n := by omega
  have o30 : Hid (∀ i, i < n → i % 2 = 0 → w.cell? ⟨A, o * 7 + i * 7 + 5, none⟩ = some (.int .u8 30)) := Lib.hid (fun i hi he => by
    have h1 := h.arr (o + i) (by omega) 5 _ rfl
    have h2 := alt i hi
    rw [if_pos he] at h2
    rw [h2, Nat.add_mul] at h1
    exact h1)
  replace hn := Lib.hid hn
  replace h := Lib.hid h
  replace alt := Lib.hid alt
  clear hnm hlow hL
  go_enter Tryf.func12, Tryf.ntmps12
  go_wp2
  refine wp_loop_rounds 2 ?_
  rw [rounds_succ]
  go_upto_region 10 with (first | (go_at_call 13; (with_reducible refine C13.out.mono ?_); rintro e w2 ⟨rfl, rfl⟩) | (go_at_call 14; (with_reducible refine C14.out.mono ?_); rintro e w2 ⟨rfl, b2⟩; replace b2 := Lib.hid b2))
  clear C13 C14 c5 c1 c0 cc
  have M := Lib.hid (h.out.after b2.out)
  have O : Hid (O3 T C A w w2) := Lib.hid (Only.of b2.out)
  clear h b2 o30
  obtain ⟨wc, rfl⟩ : ∃ x, x = w2 := ⟨_, rfl⟩
  go_upto_region 69 with fail
  by_cases hn1 : n = 1
  · subst hn1
    have k1 : wc.cell? ⟨T, 1, none⟩ = some (.string nm) := by simpa using M.out.tok 1 _ rfl
    have kf1 : wc.frozen? ⟨T, 1, none⟩ = false := by obtain ⟨_, -, q⟩ := M.out.rt 1 (by omega); exact q
    go_upto_region 71 with fail
    refine wp_gen (fun wd hWd => ?_)
    have M' : Hid (MS wd T C A N ⟨#[114, 111, 116, 97, 116, 101]⟩ G o 1) := Lib.hid (by rw [hWd]; exact M.out.name)
    have O' : Hid (O3 T C A w wd) := Lib.hid (by rw [hWd]; exact O.out.set _ _ (.inl rfl))
    clear k1 kf1 hWd M O
    have M := M'
    have O := O'
    clear M' O'
    obtain ⟨wc, rfl⟩ : ∃ x, x = wd := ⟨_, rfl⟩
    have CT := Lib.hid (fun (V : World) (x : ByteArray) (hV : MS V T C A N x G o 1) => tlen_c A (o * 7) V (by
      have h1 := hV.arr (o + 0) (by omega) 5 _ rfl
      have h2 := alt.out 0 (by omega)
      rw [if_pos rfl] at h2
      rw [h2, Nat.add_mul] at h1
      simpa using h1))
    go_upto_region 149 with (go_at_call 20; (with_reducible refine (CT.out _ _ M.out).mono ?_); rintro e wc ⟨rfl, bc⟩; replace M := Lib.hid (M.out.after bc); replace O := Lib.hid (O.out.trans (Only.of bc)); clear bc)
    clear CT
    have k0 : wc.cell? ⟨T, 0, none⟩ = some (.pointer (some ⟨C, 0, none⟩)) := by simpa using M.out.tok 0 _ rfl
    have kc := M.out.ch
    have kle := M.out.le
    have k6 : wc.cell? ⟨A, o * 7 + 6, none⟩ = some (.int .u8 (G o).ws) := M.out.arr o (by omega) 6 _ rfl
    have kf : wc.frozen? ⟨A, o * 7 + 6, none⟩ = false := by obtain ⟨_, -, q⟩ := M.out.ra (o * 7 + 6) (by omega); exact q
    generalize hws : (G o).ws = ws0 at k6
    replace hws := Lib.hid hws
    go_upto_region 152 with fail
    refine wp_gen (fun W9 hW9 => ?_)
    have M9 : Hid (MS W9 T C A N ⟨#[114, 111, 116, 97, 116, 101]⟩ (setW G o (bits .and .u8 (G o).ws 254)) o 1) := Lib.hid (by
      rw [hW9, ← hws.out]
      have := M.out.setw (i := o) (v := bits .and .u8 (G o).ws 254) (by omega)
      exact this)
    have O9 : Hid (O3 T C A w W9) := Lib.hid (by rw [hW9]; exact O.out.set _ _ (.inr (.inr rfl)))
    clear hW9 k0 kc k6 kf hws
    have k0 : W9.cell? ⟨T, 0, none⟩ = some (.pointer (some ⟨C, 0, none⟩)) := by simpa using M9.out.tok 0 _ rfl
    generalize hG9 : setW G o (bits .and .u8 (G o).ws 254) = G9 at M9
    have ej : (o + 1 - 1) * 7 + 6 = o * 7 + 6 := by omega
    have k6 : W9.cell? ⟨A, o * 7 + 6, none⟩ = some (.int .u8 (G9 (o + 1 - 1)).ws) := by rw [← ej]; exact M9.out.arr (o + 1 - 1) (by omega) 6 _ rfl
    have kf : W9.frozen? ⟨A, o * 7 + 6, none⟩ = false := by rw [← ej]; obtain ⟨_, -, q⟩ := M9.out.ra ((o + 1 - 1) * 7 + 6) (by omega); exact q
    have hM := Lib.hid (M9.out.setw (i := o + 1 - 1) (v := bits .and .u8 (G9 (o + 1 - 1)).ws 253) (by omega))
    rw [ej] at hM
    generalize hws : (G9 (o + 1 - 1)).ws = ws1 at k6 hM
    replace hws := Lib.hid hws
    replace hG9 := Lib.hid hG9
    replace ej := Lib.hid ej
    go_wp2
    rw [rounds_succ]
    go_wp2
    go_ret
    refine ⟨rfl, ?_, O9.out.set _ _ (.inr (.inr rfl))⟩
    have ha : arm false 8 ⟨nm, G, o, 1⟩ = ⟨⟨#[114, 111, 116, 97, 116, 101]⟩, G, o, 1⟩ := rfl
    rw [ha]
    show MS _ T C A N ⟨#[114, 111, 116, 97, 116, 101]⟩ (trm G o 1) o 1
    unfold trm
    rw [hG9.out, hws.out]
    exact hM.out
  · have hx : ((n : Int) == 1) = false := by simp; omega
    go_upto_region 149 with fail
    have k0 : wc.cell? ⟨T, 0, none⟩ = some (.pointer (some ⟨C, 0, none⟩)) := by simpa using M.out.tok 0 _ rfl
    have kc := M.out.ch
    have kle := M.out.le
    have k6 : wc.cell? ⟨A, o * 7 + 6, none⟩ = some (.int .u8 (G o).ws) := M.out.arr o (by omega) 6 _ rfl
    have kf : wc.frozen? ⟨A, o * 7 + 6, none⟩ = false := by obtain ⟨_, -, q⟩ := M.out.ra (o * 7 + 6) (by omega); exact q
    generalize hws : (G o).ws = ws0 at k6
    replace hws := Lib.hid hws
    have nt : ((n : Int) - 1).toNat = n - 1 := by omega
    have np : (0 : Int) < n := by omega
    have nn : (0 : Int) ≤ (n : Int) - 1 := by omega
    have nq : (n : Int) - 1 < n := by omega
    go_upto_region 152 with fail
    refine wp_gen (fun W9 hW9 => ?_)
    have M9 : Hid (MS W9 T C A N nm (setW G o (bits .and .u8 (G o).ws 254)) o n) := Lib.hid (by
      rw [hW9, ← hws.out]
      have := M.out.setw (i := o) (v := bits .and .u8 (G o).ws 254) (by omega)
      exact this)
    have O9 : Hid (O3 T C A w W9) := Lib.hid (by rw [hW9]; exact O.out.set _ _ (.inr (.inr rfl)))
    clear hW9 k0 kc k6 kf hws
    have k0 : W9.cell? ⟨T, 0, none⟩ = some (.pointer (some ⟨C, 0, none⟩)) := by simpa using M9.out.tok 0 _ rfl
    generalize hG9 : setW G o (bits .and .u8 (G o).ws 254) = G9 at M9
    have ej : (o + n - 1) * 7 + 6 = o * 7 + (n - 1) * 7 + 6 := by omega
    have k6 : W9.cell? ⟨A, o * 7 + (n - 1) * 7 + 6, none⟩ = some (.int .u8 (G9 (o + n - 1)).ws) := by rw [← ej]; exact M9.out.arr (o + n - 1) (by omega) 6 _ rfl
    have kf : W9.frozen? ⟨A, o * 7 + (n - 1) * 7 + 6, none⟩ = false := by rw [← ej]; obtain ⟨_, -, q⟩ := M9.out.ra ((o + n - 1) * 7 + 6) (by omega); exact q
    have hM := Lib.hid (M9.out.setw (i := o + n - 1) (v := bits .and .u8 (G9 (o + n - 1)).ws 253) (by omega))
    rw [ej] at hM
    generalize hws : (G9 (o + n - 1)).ws = ws1 at k6 hM
    replace hws := Lib.hid hws
    replace hG9 := Lib.hid hG9
    replace ej := Lib.hid ej
    go_wp2
    rw [rounds_succ]
    go_wp2
    go_ret
    refine ⟨rfl, ?_, O9.out.set _ _ (.inr (.inr rfl))⟩
    have ha : arm false 8 ⟨nm, G, o, n⟩ = ⟨nm, G, o, n⟩ := (by simp [arm, hn1])
    rw [ha]
    show MS _ T C A N nm (trm G o n) o n
    unfold trm
    rw [hG9.out, hws.out]
    exact hM.out
set_option maxRecDepth 100000 in
set_option maxHeartbeats 8000000 in
theorem mt_10 (low : ByteArray → ByteArray) (T C A N : Nat) (nm : ByteArray) (G : Nat → Tq) (o n m : Nat) (p : Option Addr) (w : World) (h : MS w T C A N nm G o n) (hN : N ≤ 8191) (alt : ∀ j, j < n → (G (o + j)).kd = if j % 2 = 0 then 30 else 10) (hn : n = 2 * m + 1) (hL : Low low w) (hnm : nm.size ≤ 1048576) (hlow : low nm = ⟨#[115, 107, 101, 119, 120]⟩) : Calls Tryf.prog 12 #[.pointer p, .slice (some ⟨T, 0, none⟩) 1 1] w (MtS T C A N (arm false 10 ⟨nm, G, o, n⟩) w) := by
  have hle := h.le
  have c5 : w.cell? ⟨T, 5, none⟩ = some (.int .u8 27) := by simpa using h.tok 5 _ rfl
  have c0 : w.cell? ⟨T, 0, none⟩ = some (.pointer (some ⟨C, 0, none⟩)) := by simpa using h.tok 0 _ rfl
  have c1 : w.cell? ⟨T, 1, none⟩ = some (.string nm) := by simpa using h.tok 1 _ rfl
  have cc := h.ch
  have C13 := Lib.hid (comma_c A (o * 7) m (N - o : Nat) w (by omega) (fun k hk => by
    have h1 := h.arr (o + (2 * k + 1)) (by omega) 5 _ rfl
    have h2 := alt (2 * k + 1) (by omega)
    rw [if_neg (by omega)] at h2
    rw [h2, Nat.add_mul] at h1
    exact h1))
  have C14 := Lib.hid (hL nm w hnm (Below.refl _ _))
  rw [hlow] at C14
  rw [← hn] at C13
  have n1 : 1 ≤ n := by omega
  have o30 : Hid (∀ i, i < n → i % 2 = 0 → w.cell? ⟨A, o * 7 + i * 7 + 5, none⟩ = some (.int .u8 30)) := Lib.hid (fun i hi he => by
    have h1 := h.arr (o + i) (by omega) 5 _ rfl
    have h2 := alt i hi
    rw [if_pos he] at h2
    rw [h2, Nat.add_mul] at h1
    exact h1)
  replace hn := Lib.hid hn
  replace h := Lib.hid h
  replace alt := Lib.hid alt
  clear hnm hlow hL
  go_enter Tryf.func12, Tryf.ntmps12
  go_wp2
  refine wp_loop_rounds 2 ?_
  rw [rounds_succ]
  go_upto_region 10 with (first | (go_at_call 13; (with_reducible refine C13.out.mono ?_); rintro e w2 ⟨rfl, rfl⟩) | (go_at_call 14; (with_reducible refine C14.out.mono ?_); rintro e w2 ⟨rfl, b2⟩; replace b2 := Lib.hid b2))
  clear C13 C14 c5 c1 c0 cc
  have M := Lib.hid (h.out.after b2.out)
  have O : Hid (O3 T C A w w2) := Lib.hid (Only.of b2.out)
  clear h b2 o30
  obtain ⟨wc, rfl⟩ : ∃ x, x = w2 := ⟨_, rfl⟩
  go_upto_region 82 with fail
  by_cases hn1 : n = 1
  · subst hn1
    have k1 : wc.cell? ⟨T, 1, none⟩ = some (.string nm) := by simpa using M.out.tok 1 _ rfl
    have kf1 : wc.frozen? ⟨T, 1, none⟩ = false := by obtain ⟨_, -, q⟩ := M.out.rt 1 (by omega); exact q
    go_upto_region 84 with fail
    refine wp_gen (fun wd hWd => ?_)
    have M' : Hid (MS wd T C A N ⟨#[115, 107, 101, 119]⟩ G o 1) := Lib.hid (by rw [hWd]; exact M.out.name)
    have O' : Hid (O3 T C A w wd) := Lib.hid (by rw [hWd]; exact O.out.set _ _ (.inl rfl))
    clear k1 kf1 hWd M O
    have M := M'
    have O := O'
    clear M' O'
    obtain ⟨wc, rfl⟩ : ∃ x, x = wd := ⟨_, rfl⟩
    have CT := Lib.hid (fun (V : World) (x : ByteArray) (hV : MS V T C A N x G o 1) => tlen_c A (o * 7) V (by
      have h1 := hV.arr (o + 0) (by omega) 5 _ rfl
      have h2 := alt.out 0 (by omega)
      rw [if_pos rfl] at h2
      rw [h2, Nat.add_mul] at h1
      simpa using h1))
    go_upto_region 149 with (go_at_call 20; (with_reducible refine (CT.out _ _ M.out).mono ?_); rintro e wc ⟨rfl, bc⟩; replace M := Lib.hid (M.out.after bc); replace O := Lib.hid (O.out.trans (Only.of bc)); clear bc)
    clear CT
    have k0 : wc.cell? ⟨T, 0, none⟩ = some (.pointer (some ⟨C, 0, none⟩)) := by simpa using M.out.tok 0 _ rfl
    have kc := M.out.ch
    have kle := M.out.le
    have k6 : wc.cell? ⟨A, o * 7 + 6, none⟩ = some (.int .u8 (G o).ws) := M.out.arr o (by omega) 6 _ rfl
    have kf : wc.frozen? ⟨A, o * 7 + 6, none⟩ = false := by obtain ⟨_, -, q⟩ := M.out.ra (o * 7 + 6) (by omega); exact q
    generalize hws : (G o).ws = ws0 at k6
    replace hws := Lib.hid hws
    go_upto_region 152 with fail
    refine wp_gen (fun W9 hW9 => ?_)
    have M9 : Hid (MS W9 T C A N ⟨#[115, 107, 101, 119]⟩ (setW G o (bits .and .u8 (G o).ws 254)) o 1) := Lib.hid (by
      rw [hW9, ← hws.out]
      have := M.out.setw (i := o) (v := bits .and .u8 (G o).ws 254) (by omega)
      exact this)
    have O9 : Hid (O3 T C A w W9) := Lib.hid (by rw [hW9]; exact O.out.set _ _ (.inr (.inr rfl)))
    clear hW9 k0 kc k6 kf hws
    have k0 : W9.cell? ⟨T, 0, none⟩ = some (.pointer (some ⟨C, 0, none⟩)) := by simpa using M9.out.tok 0 _ rfl
    generalize hG9 : setW G o (bits .and .u8 (G o).ws 254) = G9 at M9
    have ej : (o + 1 - 1) * 7 + 6 = o * 7 + 6 := by omega
    have k6 : W9.cell? ⟨A, o * 7 + 6, none⟩ = some (.int .u8 (G9 (o + 1 - 1)).ws) := by rw [← ej]; exact M9.out.arr (o + 1 - 1) (by omega) 6 _ rfl
    have kf : W9.frozen? ⟨A, o * 7 + 6, none⟩ = false := by rw [← ej]; obtain ⟨_, -, q⟩ := M9.out.ra ((o + 1 - 1) * 7 + 6) (by omega); exact q
    have hM := Lib.hid (M9.out.setw (i := o + 1 - 1) (v := bits .and .u8 (G9 (o + 1 - 1)).ws 253) (by omega))
    rw [ej] at hM
    generalize hws : (G9 (o + 1 - 1)).ws = ws1 at k6 hM
    replace hws := Lib.hid hws
    replace hG9 := Lib.hid hG9
    replace ej := Lib.hid ej
    go_wp2
    rw [rounds_succ]
    go_wp2
    go_ret
    refine ⟨rfl, ?_, O9.out.set _ _ (.inr (.inr rfl))⟩
    have ha : arm false 10 ⟨nm, G, o, 1⟩ = ⟨⟨#[115, 107, 101, 119]⟩, G, o, 1⟩ := rfl
    rw [ha]
    show MS _ T C A N ⟨#[115, 107, 101, 119]⟩ (trm G o 1) o 1
    unfold trm
    rw [hG9.out, hws.out]
    exact hM.out
  · have hx : ((n : Int) == 1) = false := by simp; omega
    go_upto_region 149 with fail
    have k0 : wc.cell? ⟨T, 0, none⟩ = some (.pointer (some ⟨C, 0, none⟩)) := by simpa using M.out.tok 0 _ rfl
    have kc := M.out.ch
    have kle := M.out.le
    have k6 : wc.cell? ⟨A, o * 7 + 6, none⟩ = some (.int .u8 (G o).ws) := M.out.arr o (by omega) 6 _ rfl
    have kf : wc.frozen? ⟨A, o * 7 + 6, none⟩ = false := by obtain ⟨_, -, q⟩ := M.out.ra (o * 7 + 6) (by omega); exact q
    generalize hws : (G o).ws = ws0 at k6
    replace hws := Lib.hid hws
    have nt : ((n : Int) - 1).toNat = n - 1 := by omega
    have np : (0 : Int) < n := by omega
    have nn : (0 : Int) ≤ (n : Int) - 1 := by omega
    have nq : (n : Int) - 1 < n := by omega
    go_upto_region 152 with fail
    refine wp_gen (fun W9 hW9 => ?_)
    have M9 : Hid (MS W9 T C A N nm (setW G o (bits .and .u8 (G o).ws 254)) o n) := Lib.hid (by
      rw [hW9, ← hws.out]
      have := M.out.setw (i := o) (v := bits .and .u8 (G o).ws 254) (by omega)
      exact this)
    have O9 : Hid (O3 T C A w W9) := Lib.hid (by rw [hW9]; exact O.out.set _ _ (.inr (.inr rfl)))
    clear hW9 k0 kc k6 kf hws
    have k0 : W9.cell? ⟨T, 0, none⟩ = some (.pointer (some ⟨C, 0, none⟩)) := by simpa using M9.out.tok 0 _ rfl
    generalize hG9 : setW G o (bits .and .u8 (G o).ws 254) = G9 at M9
    have ej : (o + n - 1) * 7 + 6 = o * 7 + (n - 1) * 7 + 6 := by omega
    have k6 : W9.cell? ⟨A, o * 7 + (n - 1) * 7 + 6, none⟩ = some (.int .u8 (G9 (o + n - 1)).ws) := by rw [← ej]; exact M9.out.arr (o + n - 1) (by omega) 6 _ rfl
    have kf : W9.frozen? ⟨A, o * 7 + (n - 1) * 7 + 6, none⟩ = false := by rw [← ej]; obtain ⟨_, -, q⟩ := M9.out.ra ((o + n - 1) * 7 + 6) (by omega); exact q
    have hM := Lib.hid (M9.out.setw (i := o + n - 1) (v := bits .and .u8 (G9 (o + n - 1)).ws 253) (by omega))
    rw [ej] at hM
    generalize hws : (G9 (o + n - 1)).ws = ws1 at k6 hM
    replace hws := Lib.hid hws
    replace hG9 := Lib.hid hG9
    replace ej := Lib.hid ej
    go_wp2
    rw [rounds_succ]
    go_wp2
    go_ret
    refine ⟨rfl, ?_, O9.out.set _ _ (.inr (.inr rfl))⟩
    have ha : arm false 10 ⟨nm, G, o, n⟩ = ⟨nm, G, o, n⟩ := (by simp [arm, hn1])
    rw [ha]
    show MS _ T C A N nm (trm G o n) o n
    unfold trm
    rw [hG9.out, hws.out]
    exact hM.out
end Go.Proofs.YtoblbakaemglbaaFmt
