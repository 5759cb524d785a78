/- zzBuildStops: what it builds. -/
import Derived.Test.YtpjkipemalebcaaSw2
import Derived.Test.YtpjkipemalebcaaED
import Derived.Deep.QuietTactic
import Derived.BigQuiet
import Derived.Lib.QuietBelow
set_option linter.unusedVariables false
set_option linter.unusedSimpArgs false
namespace Go.Proofs.Ytpjkipemalebcaa
open Go.RowKit
open Go.Sort hiding Below
set_option maxRecDepth 100000
set_option maxHeartbeats 4000000
def kk (K : Nat → Int) (i : Nat) : Nat := (K i).toNat % 4
def Qs (K : Nat → Int) : Nat → Nat
  | 0 => 0
  | i + 1 => Qs K i + kk K i
theorem kk_lt (K : Nat → Int) (i : Nat) : kk K i < 4 := Nat.mod_lt _ (by omega)
theorem Qs_le (K : Nat → Int) : ∀ i, Qs K i ≤ 3 * i
  | 0 => by simp [Qs]
  | i + 1 => by have := Qs_le K i; have := kk_lt K i; simp only [Qs]; omega
/-- the first m position tokens from q on -/
def posL (q m : Nat) (ws : Int) : List Tq := (List.range m).map fun j => posT (q + j) ws
theorem posL_succ (q m : Nat) (ws : Int) : posL q (m + 1) ws = posL q m ws ++ [posT (q + m) ws] := by simp [posL, List.range_succ]
theorem posL_len (q m : Nat) (ws : Int) : (posL q m ws).length = m := by simp [posL]
theorem own_ne {w : World} {B B' : Nat} {e e' : TypeId} {z z' : Nat} {v v' : Value} {n n' : Nat} {xs xs' : List Value} (h : w.ownsRow B e z v n xs) (h' : w.ownsRow B' e' z' v' n' xs') (he : e ≠ e') (k : Nat) (hk : v'.ownBlock = some k) : ¬ v.ownBlock = some k := by
  intro hk'
  rcases h.2 with ⟨rfl, _⟩ | ⟨g, cap, cur, rfl, _, hg, _⟩
  · simp [Value.ownBlock] at hk'
  · rcases h'.2 with ⟨rfl, _⟩ | ⟨g', cap', cur', rfl, _, hg', _⟩
    · simp [Value.ownBlock] at hk
    · simp [Value.ownBlock] at hk hk'
      subst hk; subst hk'
      rw [hg] at hg'
      injection hg' with hg'
      injection hg' with _ h2
      exact he h2
abbrev psV (s : Stp) : Value := .slice s.pa s.pn s.pc
/-- the first i stops -/
structure Built (wr : World) (B : Nat) (K : Nat → Int) (X Y : Nat → ByteArray) (ws : Int) (v : Value) (i : Nat) (L : List Stp) : Prop where
  own : wr.ownsRow B 44 15 v i (flat Stp.cells L)
  len : L.length = i
  each : ∀ (j : Nat) (s : Stp), L[j]? = some s → s.co = colT (X j) ∧ s.mi = midT (Y j) ∧ s.pn = kk K j ∧ wr.ownsRow B 40 7 (psV s) (kk K j) (flat Tq.cells (posL (Qs K j) (kk K j) ws))
  sep : ∀ (j j' : Nat) (s s' : Stp) (k : Nat), L[j]? = some s → L[j']? = some s' → (psV s).ownBlock = some k → (psV s').ownBlock = some k → j = j'
theorem Built.below {wr w' : World} {B : Nat} {K : Nat → Int} {X Y : Nat → ByteArray} {ws : Int} {v : Value} {i : Nat} {L : List Stp} (h : Built wr B K X Y ws v i L) (hb : Below wr.heap.size wr w') : Built w' B K X Y ws v i L := by
  have kp : Kp (fun _ => False) wr w' := Kp.of hb
  exact ⟨kp.own h.own (fun _ _ q => q), h.len, fun j s hj => by obtain ⟨a, b, c, d⟩ := h.each j s hj; exact ⟨a, b, c, kp.own d (fun _ _ q => q)⟩, h.sep⟩
theorem Built.add {wr w' : World} {B : Nat} {K : Nat → Int} {X Y : Nat → ByteArray} {ws : Int} {v v' : Value} {i : Nat} {L : List Stp} (h : Built wr B K X Y ws v i L) (s : Stp) (hs : s.co = colT (X i) ∧ s.mi = midT (Y i) ∧ s.pn = kk K i ∧ wr.ownsRow B 40 7 (psV s) (kk K i) (flat Tq.cells (posL (Qs K i) (kk K i) ws)))
    (hsep : ∀ (j : Nat) (s' : Stp) (k : Nat), L[j]? = some s' → (psV s').ownBlock = some k → ¬ (psV s).ownBlock = some k)
    (ho : w'.ownsRow B 44 15 v' (i + 1) (flat Stp.cells L ++ s.arr.toList)) (hk : Kp (fun b => v.ownBlock = some b) wr w') : Built w' B K X Y ws v' (i + 1) (L ++ [s]) := by
  have hget : ∀ (j : Nat) (x : Stp), (L ++ [s])[j]? = some x → (L[j]? = some x) ∨ (j = i ∧ x = s) := by
    intro j x hj
    have hl := h.len
    rcases Nat.lt_or_ge j L.length with q | q
    · left; rwa [List.getElem?_append_left q] at hj
    · right
      rw [List.getElem?_append_right q] at hj
      have := (List.getElem?_eq_some_iff.1 hj).1
      simp at this
      have e : j = i := by omega
      subst e
      rw [hl, Nat.sub_self] at hj
      simp at hj
      exact ⟨rfl, hj.symm⟩
  refine ⟨by rw [← flat_add]; exact ho, by simp [h.len], ?_, ?_⟩
  · intro j x hj
    rcases hget j x hj with q | ⟨rfl, rfl⟩
    · obtain ⟨a, b, c, d⟩ := h.each j x q
      exact ⟨a, b, c, hk.own d (fun k hk' => own_ne h.own d (by decide) k hk')⟩
    · exact ⟨hs.1, hs.2.1, hs.2.2.1, hk.own hs.2.2.2 (fun k hk' => own_ne h.own hs.2.2.2 (by decide) k hk')⟩
  · intro j j' x x' k hj hj' e e'
    rcases hget j x hj with q | ⟨rfl, rfl⟩ <;> rcases hget j' x' hj' with q' | ⟨rfl, rfl⟩
    · exact h.sep j j' x x' k q q' e e'
    · exact absurd e' (hsep j x k q e)
    · exact absurd e (hsep j' x' k q' e')
    · rfl
theorem Tq.one (t : Tq) : t.arr.all (·.oneCell') = true := by simp [Value.oneCell']
theorem Stp.one (t : Stp) : t.arr.all (·.oneCell') = true := by simp [Value.oneCell']
theorem info40 : (Try.prog.info? 40).map (fun i => (i.zero.map (·.cells), i.size, i.bytes)) = some (some tkZ, 7, 40) := by kernel_rfl
abbrev stZ : Array Value := #[.slice none 0 0, .pointer none, .string ⟨#[]⟩, .int .i32 0, .int .u32 0, .int .u16 0, .int .u8 0, .int .u8 0, .pointer none, .string ⟨#[]⟩, .int .i32 0, .int .u32 0, .int .u16 0, .int .u8 0, .int .u8 0]
theorem info44 : (Try.prog.info? 44).map (fun i => (i.zero.map (·.cells), i.size, i.bytes)) = some (some stZ, 15, 104) := by kernel_rfl
/-- make([]T, 0, n) -/
theorem make0_z {P : Program} {t e : TypeId} {z b : Nat} (zs : Array Value) (hu : P.underlying t = some (.slice e)) (hinfo : (P.info? e).map (fun i => (i.zero.map (·.cells), i.size, i.bytes)) = some (some zs, z, b)) (n : Nat) (hn : n ≤ 1048576) (hb : b ≤ 100000000) (W : World) :
    (Instr.makeSlice t (.int .i64 0) (.int .i64 n)).run P W = .ok (.slice (some ⟨W.heap.size, 0, none⟩) 0 n) (W.alloc (.cells (madeCells zs (n * z)) e)) := by
  cases hi : P.info? e with
  | none => rw [hi] at hinfo; cases hinfo
  | some i =>
    rw [hi] at hinfo
    simp only [Option.map_some, Option.some.injEq, Prod.mk.injEq] at hinfo
    obtain ⟨h1, h2, h3⟩ := hinfo
    cases hz : i.zero with
    | none => rw [hz] at h1; cases h1
    | some v =>
      rw [hz] at h1
      simp only [Option.map_some, Option.some.injEq] at h1
      have hm : b * n ≤ 100000000 * 1048576 := Nat.mul_le_mul hb hn
      have := run_make (P := P) W t e i v hu hi hz .i64 .i64 0 n (by omega) (by omega) (by rw [h3]; omega) (by omega)
      rw [h2, h1] at this
      simpa using this
def BuiltP (n : Nat) (K : Nat → Int) (X Y : Nat → ByteArray) (w : World) (e : Ending) (w' : World) : Prop := ∃ v L, e = .returned v ∧ Built w' w.heap.size K X Y 2 v n L ∧ Below w.heap.size w w'
def OuR (n : Nat) (K : Nat → Int) (X Y : Nat → ByteArray) (w : World) (v q i : Value) (wr : World) : Prop := ∃ (k : Nat) (L : List Stp), k ≤ n ∧ i = .int .i64 k ∧ q = .int .i64 (Qs K k) ∧ Built wr w.heap.size K X Y 2 v k L ∧ Below w.heap.size w wr
def InR (K : Nat → Int) (k : Nat) (Wo : World) (q u j : Value) (wi : World) : Prop := ∃ m qn : Nat, m ≤ kk K k ∧ j = .int .i64 m ∧ q = .int .i64 qn ∧ Hid (qn = Qs K k + m) ∧ wi.ownsRow Wo.heap.size 40 7 u m (flat Tq.cells (posL (Qs K k) m 2)) ∧ Below Wo.heap.size Wo wi
theorem build9_c (A0 A1 A2 : Option Addr) (n n0 n1 n2 c0 c1 c2 : Nat) (K : Nat → Int) (X Y : Nat → ByteArray) (w : World) (hn : n ≤ 65536) (l0 : n ≤ n0) (l1 : n ≤ n1) (l2 : n ≤ n2) (r0 : RowS w A0 n0 X) (r1 : Row .u8 w A1 n1 K) (r2 : RowS w A2 n2 Y) (hK : ∀ i, i < n1 → 0 ≤ K i ∧ K i ≤ 255) :
    Calls Try.prog 9 #[.slice A0 n0 c0, .slice A1 n1 c1, .slice A2 n2 c2, .int .i64 n, .int .u8 4, .int .u8 2] w (BuiltP n K X Y w) := by
  have mk := make0_z (P := Try.prog) stZ Try.underlying29 info44 n (by omega) (by omega)
  have R0 := Lib.hid r0; have R1 := Lib.hid r1; have R2 := Lib.hid r2; have HK := Lib.hid hK
  clear r0 r1 r2 hK
  go_enter Try.func9, Try.ntmps9
  go_upto_region 2 with fail
  refine wp_gen (fun W hW => ?_)
  have hO : Hid (W.ownsRow w.heap.size 44 15 (.slice (some ⟨w.heap.size, 0, none⟩) 0 n) 0 []) := Lib.hid (by rw [hW]; exact World.ownsRow_made _ _ _ (Nat.le_refl _) (by unfold maxLen; omega) (by rw [size_madeCells]))
  have hB : Hid (Below w.heap.size w W) := Lib.hid (by rw [hW]; exact ba _ _)
  clear hW mk
  go_wp2_with fail
  go_loopw [13, 14, 15] (fun v q i wr => OuR n K X Y w v q i wr) (fun _ _ i _ => n - (intOf i).toNat)
  case atStart => exact ⟨0, [], by omega, rfl, rfl, ⟨hO.out, rfl, fun j s h => by simp at h, fun j j' s s' k h => by simp at h⟩, hB.out⟩
  case round =>
    obtain ⟨k, L, hk, rfl, rfl, hBu, hBe⟩ := hrel
    obtain ⟨Wo, hWo⟩ : ∃ Wo, Wo = wr := ⟨_, rfl⟩
    subst hWo
    clear hO hB
    replace hBu := Lib.hid hBu; replace hBe := Lib.hid hBe
    by_cases hlt : k < n
    · obtain ⟨x1, rfl, g1⟩ := R1.out k (by omega)
      replace g1 := ac (hBe.out.mono (Nat.le_refl _)) g1
      obtain ⟨hk0, hk1⟩ := HK.out k (by omega)
      have hkk : K k % 4 = (kk K k : Nat) := by unfold kk; omega
      have hk4 := kk_lt K k
      have hQ := Qs_le K k
      go_upto_region 8 with fail
      have C17 := Lib.hid (fun q (hq : q < 100000000) w => pos17_c q hq 2 w)
      go_wp2_with fail
      go_loopw [14, 17, 18] (fun q u j wi => InR K k Wo q u j wi) (fun _ _ j _ => kk K k - (intOf j).toNat)
      case atStart => exact ⟨0, Qs K k, by omega, rfl, rfl, Lib.hid rfl, World.ownsRow_nil _ _ _ _, Below.refl _ _⟩
      case round =>
        obtain ⟨m, qn, hm, rfl, rfl, hq, hO, hb⟩ := hrel
        replace hO := Lib.hid hO; replace hb := Lib.hid hb
        have hq1 : qn < 100000000 := by have := hq.out; omega
        by_cases hmlt : m < kk K k
        · go_upto_region 11 with fail
          go_wp2_with (first | (go_at_call 17; (with_reducible refine (C17.out qn hq1 _).mono ?_); rintro e w1 ⟨rfl, hb1⟩; replace hO := Lib.hid ((Kp.of (S := fun _ => False) hb1).own hO.out (fun _ _ q => q)); replace hb := Lib.hid (hb.out.trans (hb1.mono hb.out.size)); clear hb1) | (at_builtin; go_loud (refine app1 (.tmp 38) (.tmp 42) 42 40 Wo.heap.size 7 40 tkZ (posT qn 2).arr _ m _ rfl rfl rfl rfl rfl Try.underlying42 info40 rfl (by omega) hO.out rfl (Tq.one _) (by omega) (by omega) hb.out.size ?_); intro v' w2 hO2 hk2; replace hO2 := Lib.hid hO2; replace hk2 := Lib.hid hk2))
          have R : w2.ownsRow Wo.heap.size 40 7 v' (m + 1) (flat Tq.cells (posL (Qs K k) (m + 1) 2)) := by
            rw [posL_succ, ← flat_add, ← hq.out]; exact hO2.out
          have B2 : Below Wo.heap.size Wo w2 := hb.out.trans (hk2.out.below hb.out.size (fun b e => (hO.out.lt b e).1))
          have hq2 : Hid (qn + 1 = Qs K k + (m + 1)) := Lib.hid (by have := hq.out; omega)
          go_wp2_with fail
          have RR : InR K k Wo (.int .i64 ((qn : Int) + 1)) v' (.int .i64 ((m : Int) + 1)) w2 := ⟨m + 1, qn + 1, by omega, by go_num, by go_num, hq2, R, B2⟩
          exact ⟨⟨_, _, _, RR, rfl, rfl, rfl⟩, by simp [intOf]; omega⟩
        · have hmk : m = kk K k := by omega
          subst hmk
          clear hmlt hm
          obtain ⟨x0, rfl, g0⟩ := R0.out k (by omega)
          obtain ⟨x2, rfl, g2⟩ := R2.out k (by omega)
          have hBw := hBe.out.trans (hb.out.mono hBe.out.size)
          replace g0 := ac hBw g0
          replace g2 := ac hBw g2
          replace hBw := Lib.hid hBw
          obtain ⟨pa, pc, hu, hpc, hpc'⟩ := own_shape hO.out
          subst hu
          obtain ⟨av, cv, hv, hcv, hcv'⟩ := own_shape hBu.out.own
          subst hv
          clear g1
          go_upto_region 13 with fail
          have q0 := fun d os => cell_regrown g0 d os
          have q2 := fun d os => cell_regrown g2 d os
          clear g0 g2
          have i0 : (0 : Int) ≤ k := by omega
          have i1 : (k : Int) < n0 := by omega
          have i2 : (k : Int) < n2 := by omega
          refine drawn_tail_m 13 0 (by kernel_rfl) (by kernel_rfl) (by kernel_rfl) (by kernel_rfl) (fun Q hQ => ?_)
          simp only [List.take_succ_cons, List.take_zero, List.drop_succ_cons, List.drop_zero]
          repeat (quiet_step (first | exact Calls.regrown_of (col11_c _ _) | exact Calls.regrown_of (mid12_c _ _) | exact Calls.regrown_of (new18_c _ _ _ _ _ _)))
          refine wpQuiet_nil ?_
          clear q0 q2
          intro W2 hw
          have hbW : Below wr.heap.size wr W2 := by obtain ⟨⟨d, os⟩, rfl⟩ := hw; exact below_regrown _ d os
          clear hw
          have hBu2 := hBu.out.below (hb.out.trans (hbW.mono hb.out.size))
          have hO2 := (Kp.of (S := fun _ => False) hbW).own hO.out (fun _ _ q => q)
          have hBW2 := hBw.out.trans (hbW.mono hBw.out.size)
          have hsep : ∀ (j : Nat) (s' : Stp) (b : Nat), L[j]? = some s' → (psV s').ownBlock = some b → ¬ (Value.slice pa (kk K k) pc).ownBlock = some b := fun j s' b h1 h2 h3 => by
            have e1 := ((hBu.out.each j s' h1).2.2.2.lt b h2).2
            have e2 := (hO.out.lt b h3).1
            omega
          have hO3 := own_base hO2 (B' := w.heap.size) hBe.out.size
          replace hBu2 := Lib.hid hBu2; replace hO3 := Lib.hid hO3; replace hBW2 := Lib.hid hBW2; replace hsep := Lib.hid hsep
          clear hO hb hBu hBe hbW hO2 hBw
          have st := Stp.one ⟨pa, kk K k, pc, colT (X k), midT (Y k)⟩
          replace st := Lib.hid st
          go_wp2_with (at_builtin; go_loud (refine app1 (.tmp 46) (.tmp 59) 29 44 w.heap.size 15 104 stZ (Stp.arr ⟨pa, kk K k, pc, colT (X k), midT (Y k)⟩) _ k _ rfl rfl rfl rfl rfl Try.underlying29 info44 rfl (by omega) hBu2.out.own rfl st.out (by omega) (by omega) hBW2.out.size ?_); intro v' w2 h2 hk2; replace h2 := Lib.hid h2; replace hk2 := Lib.hid hk2)
          have NB := hBu2.out.add ⟨pa, kk K k, pc, colT (X k), midT (Y k)⟩ ⟨rfl, rfl, rfl, hO3.out⟩ hsep.out h2.out hk2.out
          have NW : Below w.heap.size w w2 := hBW2.out.trans (hk2.out.below hBW2.out.size (fun b e => (hBu2.out.own.lt b e).1))
          have RR : OuR n K X Y w v' (.int .i64 qn) (.int .i64 ((k : Int) + 1)) w2 := ⟨k + 1, _, by omega, by go_num, by rw [hq.out]; rfl, NB, NW⟩
          exact ⟨RR, by simp [intOf]; omega⟩
    · obtain rfl : k = n := by omega
      go_wp2_with fail
      go_ret
      exact ⟨_, L, rfl, hBu.out, hBe.out⟩
end Go.Proofs.Ytpjkipemalebcaa
