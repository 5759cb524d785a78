/- FnMangleTransformsIdempotentOnNumbers: the law's walk. -/
import Derived.Test.YtoblbakaemglbaaFmtMtj
import Derived.Test.YtoblbakaemglbaaFmtArg
set_option linter.unusedVariables false
set_option linter.unusedSimpArgs false
namespace Go.Proofs.YtoblbakaemglbaaFmt
open Go.RowKit
set_option maxRecDepth 100000 in
set_option maxHeartbeats 8000000 in
theorem bytes_y (c ws : Int) (b : Bool) (a : Option Addr) (n cap : Nat) (w : World) (hn : n ≤ 1048576) : Calls Tryf.prog 4 #[.int .u8 c, .bool b, .slice a n cap, .int .u8 ws] w (fun e w' => e = .returned (.bool true) ∧ w = w') := by
  have h : ¬ (1048576 : Int) < n := by omega
  go_enter Tryf.func4, Tryf.ntmps4
  go_wp2
  go_ret
  exact ⟨rfl, rfl⟩
set_option maxRecDepth 100000 in
set_option maxHeartbeats 8000000 in
theorem bytes_n (c ws : Int) (b : Bool) (a : Option Addr) (n cap : Nat) (w : World) (hn : 1048576 < n) (hm : n ≤ 9223372036854775807) : Calls Tryf.prog 4 #[.int .u8 c, .bool b, .slice a n cap, .int .u8 ws] w (fun e w' => e = .returned (.bool false) ∧ w = w') := by
  have h : (1048576 : Int) < n := by omega
  go_enter Tryf.func4, Tryf.ntmps4
  go_wp2
  go_ret
  exact ⟨rfl, rfl⟩
theorem info9 : (Tryf.prog.info? 9).map (fun i => (i.zero.map (·.cells), i.size, i.bytes)) = some (some #[.string ⟨#[]⟩], 1, 16) := by kernel_rfl
/-- the numbers' texts, being filled -/
def Vl (w : World) (V n : Nat) (f : Nat → Int) (i : Nat) : Prop := Room w V n ∧ (∀ j, j < i → w.cell? ⟨V, j, none⟩ = some (.string (textK (f j % 8)))) ∧ ∀ j, i ≤ j → j < n → w.cell? ⟨V, j, none⟩ = some (.string ⟨#[]⟩)
theorem Vl.step {w : World} {V n i : Nat} {f : Nat → Int} (h : Vl w V n f i) (hi : i < n) : Vl (w.setCell ⟨V, i, none⟩ (.string (textK (f i % 8)))) V n f (i + 1) := by
  refine ⟨h.1.set _ _, fun j hj => ?_, fun j h1 h2 => by rw [co (by intro e; injection e; omega)]; exact h.2.2 j (by omega) h2⟩
  by_cases e : j = i
  · subst e; exact cs (h.2.2 j (by omega) hi)
  · rw [co (by intro q; injection q; omega)]; exact h.2.1 j (by omega)
theorem kid_ws (f : Nat → ByteArray) (ws : Int) (j : Nat) : (kid f ws j).ws = ws := by unfold kid; split <;> rfl
theorem kid_kd (f : Nat → ByteArray) (ws : Int) (j : Nat) : (kid f ws j).kd = if j % 2 = 0 then 30 else 10 := by unfold kid; split <;> rfl
theorem MS.keep {w w' : World} {T C A N o n : Nat} {nm : ByteArray} {G : Nat → Tq} (h : MS w T C A N nm G o n) (hb : Below w.heap.size w w') : MS w' T C A N nm G o n := h.after hb
set_option maxRecDepth 100000 in
set_option maxHeartbeats 8000000 in
theorem tail_c (nm : ByteArray) (n : Nat) (g : Nat → ByteArray) (ws : Int) (k0 : Nat) (hk : k0 < 22) (hlow : lowS nm = nameK (k0 : Nat)) (hsz : nm.size ≤ 12) (g0 : 0 ≤ ws) (g1 : ws ≤ 255) (T C A : Nat) (w : World) (hM : MS w T C A (2 * n - 1) nm (kid g ws) 0 (2 * n - 1)) (hn : n ≤ 4096) (hL : Low lowS w) :
    ∃ s1 : St, (∀ w1, Below w.heap.size w w1 → Calls Tryf.prog 8 #[.slice (some ⟨T, 0, none⟩) 1 1] w1 (fun e w2 => e = .returned (.slice (some ⟨T, 0, none⟩) 1 1) ∧ MSs w2 T C A (2 * n - 1) s1 ∧ O3 T C A w1 w2)) ∧
      (∀ w1, MSs w1 T C A (2 * n - 1) s1 → Low lowS w1 → Calls Tryf.prog 8 #[.slice (some ⟨T, 0, none⟩) 1 1] w1 (fun e w2 => e = .returned (.slice (some ⟨T, 0, none⟩) 1 1) ∧ MSs w2 T C A (2 * n - 1) s1 ∧ O3 T C A w1 w2)) := by
  by_cases hn0 : n = 0
  · subst hn0
    refine ⟨⟨nm, kid g ws, 0, 0⟩, fun w1 hb => ?_, fun w1 h1 hL1 => ?_⟩
    · have h2 := hM.after hb
      exact (zz_e T C A nm (kid g ws) w1 h2).mono fun e w2 ⟨he, hb2⟩ => ⟨he, h2.after hb2, Only.of hb2⟩
    · exact (zz_e T C A nm (kid g ws) w1 h1).mono fun e w2 ⟨he, hb2⟩ => ⟨he, MS.after h1 hb2, Only.of hb2⟩
  have hP : Par ⟨nm, kid g ws, 0, 2 * n - 1⟩ := ⟨fun j => kid_kd g ws j, rfl, by show (2 * n - 1) % 2 = 1; omega⟩
  obtain ⟨k1, hk1, hl1, hs1, hfix, hn1⟩ := plain k0 hk ⟨nm, kid g ws, 0, 2 * n - 1⟩ (by show 1 ≤ 2 * n - 1; omega) ⟨hlow, hsz⟩ (fun j => by show 0 ≤ (kid g ws j).ws ∧ _; rw [kid_ws]; exact ⟨g0, g1⟩)
  have hPa : Par (trim (amt k0 ⟨nm, kid g ws, 0, 2 * n - 1⟩)) := (hP.arm _ _).trim
  refine ⟨trim (amt k0 ⟨nm, kid g ws, 0, 2 * n - 1⟩), fun w1 hb => ?_, fun w1 h1 hL1 => ?_⟩
  · exact zz_all T C A (2 * n - 1) ⟨nm, kid g ws, 0, 2 * n - 1⟩ (n - 1) k0 w1 (hM.after hb) (by omega) hP.alt (by show 2 * n - 1 = 2 * (n - 1) + 1; omega) (hL.after hb) (by show nm.size ≤ _; omega) hk hlow
  · obtain ⟨m, hm⟩ : ∃ m, (trim (amt k0 ⟨nm, kid g ws, 0, 2 * n - 1⟩)).n = 2 * m + 1 := ⟨(trim (amt k0 ⟨nm, kid g ws, 0, 2 * n - 1⟩)).n / 2, by have := hPa.2.2; omega⟩
    have := zz_all T C A (2 * n - 1) (trim (amt k0 ⟨nm, kid g ws, 0, 2 * n - 1⟩)) m k1 w1 h1 (by omega) hPa.alt hm hL1 (by show (amt k0 ⟨nm, kid g ws, 0, 2 * n - 1⟩).nm.size ≤ _; omega) hk1 hl1
    unfold MtS at this
    rw [hfix] at this
    exact this
set_option maxRecDepth 100000 in
set_option maxHeartbeats 8000000 in
theorem law_true (c ws : Int) (a : Option Addr) (n cap : Nat) (f : Nat → Int) (w : World) (h0 : 0 ≤ c) (h1 : c ≤ 255) (g0 : 0 ≤ ws) (g1 : ws ≤ 255) (hr : Row .u8 w a n f) (hf : ∀ i, i < n → 0 ≤ f i ∧ f i ≤ 255) (hn : n ≤ maxLen) (hL : Low lowS w) : Calls Tryf.prog 3 #[.int .u8 c, .bool true, .slice a n cap, .int .u8 ws] w (Gv (.bool true) w) := by
  have hM : maxLen = 9223372036854775807 := by decide
  rw [hM] at hn
  have HR := Lib.hid hr
  have HF := Lib.hid hf
  have hL' := Lib.hid hL
  clear hr hf hL
  by_cases hbig : 1048576 < n
  · have C4 := Lib.hid (bytes_n c ws true a n cap w hbig hn)
    go_enter Tryf.func3, Tryf.ntmps3
    go_wp2_with (go_at_call 4; (with_reducible refine C4.out.mono ?_); rintro e w2 ⟨rfl, rfl⟩)
    go_ret
    exact ⟨rfl, Below.refl _ _⟩
  have C4 := Lib.hid (bytes_y c ws true a n cap w (by omega))
  by_cases h4096 : (4096 : Int) < n
  · go_enter Tryf.func3, Tryf.ntmps3
    go_wp2_with (go_at_call 4; (with_reducible refine C4.out.mono ?_); rintro e w2 ⟨rfl, rfl⟩)
    go_ret
    exact ⟨rfl, Below.refl _ _⟩
  have hK := lowK (c % 22) (by omega) (by omega)
  have C5 := Lib.hid (nameK_c c h0 h1 w)
  have C6 := Lib.hid (upper_c (nameK (c % 22)) w (by omega))
  obtain ⟨k0, hk0⟩ : ∃ k : Nat, (k : Int) = c % 22 := ⟨(c % 22).toNat, by omega⟩
  have hk22 : Hid (k0 < 22) := Lib.hid (by omega)
  have HK : Hid (lowS (upA (nameK (c % 22))) = nameK (k0 : Nat) ∧ (upA (nameK (c % 22))).size ≤ 12) := Lib.hid ⟨by rw [hk0]; exact hK.2.1, hK.2.2.2⟩
  replace hk0 := Lib.hid hk0
  clear hK
  have m26 := make_z (P := Tryf.prog) #[.string ⟨#[]⟩] Tryf.underlying26 info9 n (by omega) (by omega)
  simp only [Nat.mul_one] at m26
  have n0 : (0 : Int) ≤ n := by omega
  go_enter Tryf.func3, Tryf.ntmps3
  go_upto_region 9 with (first | (go_at_call 4; (with_reducible refine C4.out.mono ?_); rintro e w2 ⟨rfl, rfl⟩) | (go_at_call 5; (with_reducible refine C5.out.mono ?_); rintro e w2 ⟨rfl, rfl⟩) | (go_at_call 6; (with_reducible refine C6.out.mono ?_); rintro e w2 ⟨rfl, b2⟩; replace b2 := Lib.hid b2))
  clear C4 C5 m26 C6
  generalize upA (nameK (c % 22)) = nm0 at *
  refine wp_gen (fun W hW => ?_)
  have hv0 : Hid (Vl W w2.heap.size n f 0) := Lib.hid ⟨by rw [hW]; exact Room.made _ _ _ _, fun j hj => by omega, fun j _ hj => by rw [hW, made_at _ _ _ _ _ hj]; simp [Nat.mod_one]⟩
  have bW : Hid (Below w.heap.size w W) := Lib.hid (b2.out.trans (by rw [hW]; exact (ba _ _).mono b2.out.size))
  obtain ⟨V, hV0⟩ : ∃ V, w2.heap.size = V := ⟨_, rfl⟩
  have zW : Hid (w.heap.size ≤ V) := Lib.hid (by rw [← hV0]; exact b2.out.size)
  rw [hV0] at hv0 ⊢
  clear hW b2 hV0
  go_wp2
  go_loopw [11] (fun v wr => ∃ i : Nat, i ≤ n ∧ v = .int .i64 i ∧ Vl wr V n f i ∧ Below w.heap.size w wr) (fun v _ => n - (intOf v).toNat)
  case atStart => exact ⟨0, by omega, rfl, hv0.out, bW.out⟩
  case round =>
    clear hv0 bW
    obtain ⟨i, hi, rfl, hV, hB⟩ := hrel
    obtain ⟨w1, rfl⟩ : ∃ w1 : World, w1 = wr := ⟨_, rfl⟩
    replace hB := Lib.hid hB
    by_cases hlt : i < n
    · obtain ⟨x, hx, hc⟩ := (HR.out.after hB.out) i hlt
      cases hx
      obtain ⟨f0, f1⟩ := HF.out i hlt
      have C7 := Lib.hid (textK_c (f i) f0 f1 w1)
      have cv := hV.2.2 i (Nat.le_refl _) hlt
      have fv : w1.frozen? ⟨V, i, none⟩ = false := by obtain ⟨_, -, q⟩ := hV.1 i hlt; exact q
      replace hV := Lib.hid hV
      have i0 : (0 : Int) ≤ i := by omega
      have i1 : (i : Int) < n := by omega
      go_wp2_with (go_at_call 7; (with_reducible refine C7.out.mono ?_); rintro e w3 ⟨rfl, rfl⟩)
      go_roundw
      case rel => exact ⟨i + 1, by omega, by go_num, hV.out.step hlt, hB.out.setCell (by have := zW.out; exact this) _⟩
      case measure => simp [intOf]; omega
    · obtain rfl : n = i := by omega
      have C9 := Lib.hid (build_c nm0 V n n (fun j => textK (f j % 8)) ws w1 (by omega) hV.2.1)
      clear hV
      obtain ⟨v6, hv6⟩ : ∃ y : Int, (n : Int) = y := ⟨_, rfl⟩
      go_upto_region 14 with (first | (go_at_call 9; (with_reducible refine C9.out.mono ?_); rintro e w2 ⟨T, C, A, rfl, hM2, hT, hC, hA, b2⟩; replace b2 := Lib.hid b2; obtain ⟨s1, D1, D2⟩ := tail_c nm0 n _ ws k0 hk22.out HK.out.1 HK.out.2 g0 g1 T C A w2 hM2 (by omega) ((hL'.out.after hB.out).after b2.out); replace D1 := Lib.hid D1; replace D2 := Lib.hid D2; replace hM2 := Lib.hid hM2) | (go_at_call 8; (with_reducible refine (D1.out _ (Below.refl _ _)).mono ?_); rintro e w3 ⟨rfl, hM3, hO3⟩; replace hM3 := Lib.hid hM3; replace hO3 := Lib.hid hO3))
      clear C9 D1 hM2
      have hB2 := Lib.hid (hB.out.trans (b2.out.mono hB.out.size))
      have hB3 : Hid (Below w.heap.size w w3) := Lib.hid (hB2.out.trans (hO3.out.below _ (by have := hB2.out.size; exact this) (fun b hb => by have := hB.out.size; rcases hb with q | q | q <;> omega)))
      clear b2 hO3 hB2
      have C10 := Lib.hid (copy_out T C A (2 * n - 1) s1.nm s1.G s1.o s1.n w3 (by omega) hM3.out)
      go_upto_region 15 with (go_at_call 10; (with_reducible refine C10.out.mono ?_); rintro e w4 ⟨T2, C2, B, rfl, k1, k2, k3, b4, q1, q2, q3⟩; replace k1 := Lib.hid k1; replace k2 := Lib.hid k2; replace k3 := Lib.hid k3; replace b4 := Lib.hid b4)
      clear C10
      have hM4 := Lib.hid (MS.after hM3.out b4.out)
      have hlt3 := hM3.out.lt
      have hB4 := Lib.hid (hB3.out.trans (b4.out.mono hB3.out.size))
      have C8 := Lib.hid (D2.out w4 hM4.out (hL'.out.after hB4.out))
      clear D2 hM3
      go_upto_region 16 with (go_at_call 8; (with_reducible refine C8.out.mono ?_); rintro e w5 ⟨rfl, hM5, hO5⟩; replace hM5 := Lib.hid hM5; replace hO5 := Lib.hid hO5)
      clear C8
      have hle := hM5.out.le
      have C11 := Lib.hid (eq_out T2 T C2 C B 0 A (s1.o * 7) s1.n s1.n (2 * n - 1 - s1.o : Nat) s1.nm (fun j => s1.G (s1.o + j)) w5 (by omega) (k1.out.only hO5.out (by rintro (q | q | q) <;> omega)) hM5.out.tok (hO5.out.keep k2.out (by show ¬ (C2 = T ∨ C2 = C ∨ C2 = A); rintro (q | q | q) <;> omega)) hM5.out.ch (fun j hj => by rw [Nat.zero_add]; exact (k3.out j hj).only hO5.out (by rintro (q | q | q) <;> omega)) (fun j hj => by
        have := hM5.out.arr (s1.o + j) (by omega)
        rw [Nat.add_mul] at this
        exact this))
      have hB5 : Hid (Below w.heap.size w w5) := Lib.hid (hB4.out.trans (hO5.out.below _ hB4.out.size (fun b hb => by have := hB.out.size; rcases hb with q | q | q <;> omega)))
      go_wp2_with (go_at_call 11; (with_reducible refine C11.out.mono ?_); rintro e w6 ⟨rfl, b6⟩; replace b6 := Lib.hid b6)
      go_ret
      exact ⟨rfl, hB5.out.trans (b6.out.mono hB5.out.size)⟩
set_option maxRecDepth 100000 in
set_option maxHeartbeats 8000000 in
theorem law_false (c ws : Int) (a : Option Addr) (n cap : Nat) (f : Nat → Int) (w : World) (h0 : 0 ≤ c) (h1 : c ≤ 255) (g0 : 0 ≤ ws) (g1 : ws ≤ 255) (hr : Row .u8 w a n f) (hf : ∀ i, i < n → 0 ≤ f i ∧ f i ≤ 255) (hn : n ≤ maxLen) (hL : Low lowS w) : Calls Tryf.prog 3 #[.int .u8 c, .bool false, .slice a n cap, .int .u8 ws] w (Gv (.bool true) w) := by
  have hM : maxLen = 9223372036854775807 := by decide
  rw [hM] at hn
  have HR := Lib.hid hr
  have HF := Lib.hid hf
  have hL' := Lib.hid hL
  clear hr hf hL
  by_cases hbig : 1048576 < n
  · have C4 := Lib.hid (bytes_n c ws false a n cap w hbig hn)
    go_enter Tryf.func3, Tryf.ntmps3
    go_wp2_with (go_at_call 4; (with_reducible refine C4.out.mono ?_); rintro e w2 ⟨rfl, rfl⟩)
    go_ret
    exact ⟨rfl, Below.refl _ _⟩
  have C4 := Lib.hid (bytes_y c ws false a n cap w (by omega))
  by_cases h4096 : (4096 : Int) < n
  · go_enter Tryf.func3, Tryf.ntmps3
    go_wp2_with (go_at_call 4; (with_reducible refine C4.out.mono ?_); rintro e w2 ⟨rfl, rfl⟩)
    go_ret
    exact ⟨rfl, Below.refl _ _⟩
  have hK := lowK (c % 22) (by omega) (by omega)
  have C5 := Lib.hid (nameK_c c h0 h1 w)
  obtain ⟨k0, hk0⟩ : ∃ k : Nat, (k : Int) = c % 22 := ⟨(c % 22).toNat, by omega⟩
  have hk22 : Hid (k0 < 22) := Lib.hid (by omega)
  have HK : Hid (lowS (nameK (c % 22)) = nameK (k0 : Nat) ∧ (nameK (c % 22)).size ≤ 12) := Lib.hid ⟨by rw [hk0]; exact hK.1, hK.2.2.1⟩
  replace hk0 := Lib.hid hk0
  clear hK
  have m26 := make_z (P := Tryf.prog) #[.string ⟨#[]⟩] Tryf.underlying26 info9 n (by omega) (by omega)
  simp only [Nat.mul_one] at m26
  have n0 : (0 : Int) ≤ n := by omega
  go_enter Tryf.func3, Tryf.ntmps3
  go_upto_region 9 with (first | (go_at_call 4; (with_reducible refine C4.out.mono ?_); rintro e w2 ⟨rfl, rfl⟩) | (go_at_call 5; (with_reducible refine C5.out.mono ?_); rintro e w2 ⟨rfl, rfl⟩))
  clear C4 C5 m26
  have b2 : Hid (Below w.heap.size w w) := Lib.hid (Below.refl _ _)
  generalize nameK (c % 22) = nm0 at *
  refine wp_gen (fun W hW => ?_)
  have hv0 : Hid (Vl W w.heap.size n f 0) := Lib.hid ⟨by rw [hW]; exact Room.made _ _ _ _, fun j hj => by omega, fun j _ hj => by rw [hW, made_at _ _ _ _ _ hj]; simp [Nat.mod_one]⟩
  have bW : Hid (Below w.heap.size w W) := Lib.hid (b2.out.trans (by rw [hW]; exact (ba _ _).mono b2.out.size))
  obtain ⟨V, hV0⟩ : ∃ V, w.heap.size = V := ⟨_, rfl⟩
  have zW : Hid (w.heap.size ≤ V) := Lib.hid (by rw [← hV0]; exact b2.out.size)
  rw [hV0] at hv0 ⊢
  clear hW b2 hV0
  go_wp2
  go_loopw [11] (fun v wr => ∃ i : Nat, i ≤ n ∧ v = .int .i64 i ∧ Vl wr V n f i ∧ Below w.heap.size w wr) (fun v _ => n - (intOf v).toNat)
  case atStart => exact ⟨0, by omega, rfl, hv0.out, bW.out⟩
  case round =>
    clear hv0 bW
    obtain ⟨i, hi, rfl, hV, hB⟩ := hrel
    obtain ⟨w1, rfl⟩ : ∃ w1 : World, w1 = wr := ⟨_, rfl⟩
    replace hB := Lib.hid hB
    by_cases hlt : i < n
    · obtain ⟨x, hx, hc⟩ := (HR.out.after hB.out) i hlt
      cases hx
      obtain ⟨f0, f1⟩ := HF.out i hlt
      have C7 := Lib.hid (textK_c (f i) f0 f1 w1)
      have cv := hV.2.2 i (Nat.le_refl _) hlt
      have fv : w1.frozen? ⟨V, i, none⟩ = false := by obtain ⟨_, -, q⟩ := hV.1 i hlt; exact q
      replace hV := Lib.hid hV
      have i0 : (0 : Int) ≤ i := by omega
      have i1 : (i : Int) < n := by omega
      go_wp2_with (go_at_call 7; (with_reducible refine C7.out.mono ?_); rintro e w3 ⟨rfl, rfl⟩)
      go_roundw
      case rel => exact ⟨i + 1, by omega, by go_num, hV.out.step hlt, hB.out.setCell (by have := zW.out; exact this) _⟩
      case measure => simp [intOf]; omega
    · obtain rfl : n = i := by omega
      have C9 := Lib.hid (build_c nm0 V n n (fun j => textK (f j % 8)) ws w1 (by omega) hV.2.1)
      clear hV
      obtain ⟨v6, hv6⟩ : ∃ y : Int, (n : Int) = y := ⟨_, rfl⟩
      go_upto_region 14 with (first | (go_at_call 9; (with_reducible refine C9.out.mono ?_); rintro e w2 ⟨T, C, A, rfl, hM2, hT, hC, hA, b2⟩; replace b2 := Lib.hid b2; obtain ⟨s1, D1, D2⟩ := tail_c nm0 n _ ws k0 hk22.out HK.out.1 HK.out.2 g0 g1 T C A w2 hM2 (by omega) ((hL'.out.after hB.out).after b2.out); replace D1 := Lib.hid D1; replace D2 := Lib.hid D2; replace hM2 := Lib.hid hM2) | (go_at_call 8; (with_reducible refine (D1.out _ (Below.refl _ _)).mono ?_); rintro e w3 ⟨rfl, hM3, hO3⟩; replace hM3 := Lib.hid hM3; replace hO3 := Lib.hid hO3))
      clear C9 D1 hM2
      have hB2 := Lib.hid (hB.out.trans (b2.out.mono hB.out.size))
      have hB3 : Hid (Below w.heap.size w w3) := Lib.hid (hB2.out.trans (hO3.out.below _ (by have := hB2.out.size; exact this) (fun b hb => by have := hB.out.size; rcases hb with q | q | q <;> omega)))
      clear b2 hO3 hB2
      have C10 := Lib.hid (copy_out T C A (2 * n - 1) s1.nm s1.G s1.o s1.n w3 (by omega) hM3.out)
      go_upto_region 15 with (go_at_call 10; (with_reducible refine C10.out.mono ?_); rintro e w4 ⟨T2, C2, B, rfl, k1, k2, k3, b4, q1, q2, q3⟩; replace k1 := Lib.hid k1; replace k2 := Lib.hid k2; replace k3 := Lib.hid k3; replace b4 := Lib.hid b4)
      clear C10
      have hM4 := Lib.hid (MS.after hM3.out b4.out)
      have hlt3 := hM3.out.lt
      have hB4 := Lib.hid (hB3.out.trans (b4.out.mono hB3.out.size))
      have C8 := Lib.hid (D2.out w4 hM4.out (hL'.out.after hB4.out))
      clear D2 hM3
      go_upto_region 16 with (go_at_call 8; (with_reducible refine C8.out.mono ?_); rintro e w5 ⟨rfl, hM5, hO5⟩; replace hM5 := Lib.hid hM5; replace hO5 := Lib.hid hO5)
      clear C8
      have hle := hM5.out.le
      have C11 := Lib.hid (eq_out T2 T C2 C B 0 A (s1.o * 7) s1.n s1.n (2 * n - 1 - s1.o : Nat) s1.nm (fun j => s1.G (s1.o + j)) w5 (by omega) (k1.out.only hO5.out (by rintro (q | q | q) <;> omega)) hM5.out.tok (hO5.out.keep k2.out (by show ¬ (C2 = T ∨ C2 = C ∨ C2 = A); rintro (q | q | q) <;> omega)) hM5.out.ch (fun j hj => by rw [Nat.zero_add]; exact (k3.out j hj).only hO5.out (by rintro (q | q | q) <;> omega)) (fun j hj => by
        have := hM5.out.arr (s1.o + j) (by omega)
        rw [Nat.add_mul] at this
        exact this))
      have hB5 : Hid (Below w.heap.size w w5) := Lib.hid (hB4.out.trans (hO5.out.below _ hB4.out.size (fun b hb => by have := hB.out.size; rcases hb with q | q | q <;> omega)))
      go_wp2_with (go_at_call 11; (with_reducible refine C11.out.mono ?_); rintro e w6 ⟨rfl, b6⟩; replace b6 := Lib.hid b6)
      go_ret
      exact ⟨rfl, hB5.out.trans (b6.out.mono hB5.out.size)⟩
theorem law_all (c ws : Int) (b : Bool) (a : Option Addr) (n cap : Nat) (f : Nat → Int) (w : World) (h0 : 0 ≤ c) (h1 : c ≤ 255) (g0 : 0 ≤ ws) (g1 : ws ≤ 255) (hr : Row .u8 w a n f) (hf : ∀ i, i < n → 0 ≤ f i ∧ f i ≤ 255) (hn : n ≤ maxLen) (hL : Low lowS w) : Calls Tryf.prog 3 #[.int .u8 c, .bool b, .slice a n cap, .int .u8 ws] w (Gv (.bool true) w) := by
  cases b
  · exact law_false c ws a n cap f w h0 h1 g0 g1 hr hf hn hL
  · exact law_true c ws a n cap f w h0 h1 g0 g1 hr hf hn hL
end Go.Proofs.YtoblbakaemglbaaFmt
