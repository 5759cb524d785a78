/- FnDeadRuleManglerFreshForgets: zzBuildRules. -/
import Derived.Test.YtidmdcadejfjhaaDrc
set_option linter.unusedVariables false
set_option linter.unusedSimpArgs false
namespace Go.Proofs.Ytidmdcadejfjhaa
open Go.RowKit
set_option maxRecDepth 100000
set_option maxHeartbeats 4000000
structure RlR where
  B : Nat
  loc : Int
  a : Option Addr
  c : Nat
  ls : List (CxR K1)
abbrev RlR.arr (r : RlR) : Array Value := #[.iface 64 (.pointer (some ⟨r.B, 0, none⟩)), .int .i32 r.loc]
def RlR.cells (r : RlR) : List Value := r.arr.toList
theorem RlR.len (r : RlR) : r.cells.length = 2 := rfl
theorem RlR.one (t : RlR) : t.arr.all (·.oneCell') = true := by simp [Value.oneCell']
def RlR.key (r : RlR) : List (List (List K1)) := r.ls.map CxR.key
def GRl (O : Nat → Prop) (w : World) (r : RlR) : Prop := ¬ O r.B ∧ Seg w r.B 0 [.slice r.a r.ls.length r.c, .slice none 0 0, .int .i32 0] ∧ RCx G1 O w r.a r.ls ∧ r.ls.length ≤ maxLen
theorem GRl.keep : KeepG GRl := fun O O' w w' r h hk ho => ⟨fun q => h.1 (ho _ (Seg.lt h.2.1) q), Seg.keep h.2.1 hk h.1, h.2.2.1.keep G1.keep hk ho, h.2.2.2⟩
theorem info59 : (Try.prog.info? 59).map (fun i => (i.zero.map (·.cells), i.size, i.bytes)) = some (some #[.nilIface, .int .i32 0], 2, 24) := by kernel_rfl
theorem info51 : (Try.prog.info? 51).map (fun i => (i.zero.map (·.cells), i.size, i.bytes)) = some (some #[.slice none 0 0], 1, 24) := by kernel_rfl
theorem info4 : (Try.prog.info? 4).map (fun i => (i.zero.map (·.cells), i.size, i.bytes)) = some (some #[.bool false], 1, 1) := by kernel_rfl
theorem rule15_c (loc : Int) (a : Option Addr) (c : Nat) (ls : List (CxR K1)) (n : Nat) (hn : ls.length = n) (hl : n ≤ maxLen) (O : Nat → Prop) (w : World) (hO : ∀ b, O b → b < w.heap.size) (h : RCx G1 O w a ls) : Calls Try.prog 15 #[.int .i32 loc, .slice a n c] w (fun e w' => ∃ r : RlR, e = .returned (.agg r.arr) ∧ r.loc = loc ∧ r.ls = ls ∧ GRl O w' r ∧ Below w.heap.size w w') := by
  replace h := Lib.hid h
  replace hn := Lib.hid hn
  replace hO := Lib.hid hO
  go_enter Try.func15, Try.ntmps15
  go_wp2
  exact bodyPost_ret (v := .agg (RlR.arr ⟨w.heap.size + 1, loc, a, c, ls⟩)) (by simp [results, Try.results15, go_sem]) rfl ⟨_, rfl, rfl, rfl, ⟨(fun q => by have := hO.out _ q; simp only at this; omega), by rw [hn.out]; exact Seg.after (segN _ _ _ _) (Below.refl _ _) |> fun q => by first | exact q | (intro j v hj; rw [co (by intro q; injection q; omega), co (by intro q; injection q; omega)]; exact q j v hj), h.out.keep G1.keep (Kc.of_below (by first | exact (ba _ _).alloc (by simp) _ | exact (((ba _ _).alloc (by simp) _).setCell (Nat.le_refl _) _).setCell (Nat.le_refl _) _)) (fun _ _ q => q), by rw [hn.out]; exact hl⟩, by first | exact (ba _ _).alloc (by simp) _ | exact (((ba _ _).alloc (by simp) _).setCell (Nat.le_refl _) _).setCell (Nat.le_refl _) _⟩
/-- where the builder stands -/
structure St where
  c : Nat
  p : Nat
  j : Nat
def stN (C S : Nat → Nat) (s : St) : Nat → St
  | 0 => s
  | q + 1 => ⟨(stN C S s q).c + 1, (stN C S s q).p + C (stN C S s q).c % 4, jAt S (stN C S s q).p (stN C S s q).j (C (stN C S s q).c % 4)⟩
theorem stN_le (C S : Nat → Nat) (s : St) : ∀ q, (stN C S s q).c ≤ s.c + q ∧ (stN C S s q).p ≤ s.p + 3 * q ∧ (stN C S s q).j ≤ s.j + 9 * q
  | 0 => by simp [stN]
  | q + 1 => by
    have h := stN_le C S s q
    have h1 := Nat.mod_lt (C (stN C S s q).c) (show 0 < 4 by omega)
    have h2 := jAt_le S (stN C S s q).p (stN C S s q).j (C (stN C S s q).c % 4)
    simp only [stN]
    omega
def rlK (C S T Q : Nat → Nat) (s : St) (n : Nat) : List (List (List K1)) := (List.range n).map (fun q => cxK C S T Q (stN C S s q).c (stN C S s q).p (stN C S s q).j)
def rSt (R C S : Nat → Nat) : Nat → St
  | 0 => ⟨0, 0, 0⟩
  | r + 1 => stN C S (rSt R C S r) (R r % 4)
theorem rSt_le (R C S : Nat → Nat) : ∀ r, (rSt R C S r).c ≤ 3 * r ∧ (rSt R C S r).p ≤ 9 * r ∧ (rSt R C S r).j ≤ 27 * r
  | 0 => by simp [rSt]
  | r + 1 => by
    have h := rSt_le R C S r
    have h1 := Nat.mod_lt (R r) (show 0 < 4 by omega)
    have h2 := stN_le C S (rSt R C S r) (R r % 4)
    simp only [rSt]
    omega
def rulesK (R C S T Q : Nat → Nat) (n : Nat) : List (List (List (List K1))) := (List.range n).map (fun r => rlK C S T Q (rSt R C S r) (R r % 4))
def RulesP (R C S T Q : Nat → Nat) (n : Nat) (w : World) (e : Ending) (w' : World) : Prop := ∃ (g : Nat) (c : Nat) (k d : Value) (ls : List RlR), e = .returned (.tuple #[.slice (some ⟨g, 0, none⟩) n c, k, d]) ∧ w'.ownsRow w.heap.size 59 2 (.slice (some ⟨g, 0, none⟩) n c) n (flat RlR.cells ls) ∧ ls.length = n ∧ (∀ r ∈ ls, GRl (fun b => b = g ∨ b < w.heap.size) w' r) ∧ ls.map RlR.key = rulesK R C S T Q n ∧ ls.map RlR.loc = (List.range n).map (fun (i : Nat) => (i : Int)) ∧ Below w.heap.size w w'
/-- the complexes of one rule -/
def LQ (C S T Q : Nat → Nat) (s : St) (w : World) (M : Nat) (N : Nat) (W : World) (c p j key sels all q : Value) (wr : World) : Prop := ∃ (k : Nat) (d : Bool) (ls : List (CxR K1)), k ≤ N ∧ q = .int .i64 k ∧ c = .int .i64 (stN C S s k).c ∧ p = .int .i64 (stN C S s k).p ∧ j = .int .i64 (stN C S s k).j ∧ all = .bool d ∧ Key w wr key (1 + 20 * k) ∧ (∀ b, Ob key b → M ≤ b) ∧ wr.ownsRow w.heap.size 50 1 sels k (flat CxR.cells ls) ∧ (∀ b, Ob sels b → M ≤ b) ∧ ls.length = k ∧ (∀ s ∈ ls, GCx G1 (fun b => Ob sels b ∨ (Ob key b ∨ b < M)) wr s) ∧ ls.map CxR.key = (List.range k).map (fun q => cxK C S T Q (stN C S s q).c (stN C S s q).p (stN C S s q).j) ∧ Below M W wr
/-- the rules -/
def LR (R C S T Q : Nat → Nat) (w : World) (n : Nat) (rules keys deads c p j r : Value) (wr : World) : Prop := ∃ (k : Nat) (ls : List RlR) (xk xd : List Value), k ≤ n ∧ r = .int .i64 k ∧ c = .int .i64 (rSt R C S k).c ∧ p = .int .i64 (rSt R C S k).p ∧ j = .int .i64 (rSt R C S k).j ∧ wr.ownsRow w.heap.size 59 2 rules k (flat RlR.cells ls) ∧ wr.ownsRow w.heap.size 51 1 keys k xk ∧ wr.ownsRow w.heap.size 4 1 deads k xd ∧ ls.length = k ∧ (∀ r ∈ ls, GRl (fun b => Ob rules b ∨ (Ob keys b ∨ (Ob deads b ∨ b < w.heap.size))) wr r) ∧ ls.map RlR.key = (List.range k).map (fun r => rlK C S T Q (rSt R C S r) (R r % 4)) ∧ ls.map RlR.loc = (List.range k).map (fun (i : Nat) => (i : Int)) ∧ Below w.heap.size w wr ∧ (∃ g c, rules = .slice (some ⟨g, 0, none⟩) k c)
theorem own_head {w : World} {B z n : Nat} {e : TypeId} {v : Value} {xs : List Value} (h : w.ownsRow B e z v n xs) : ∃ a c, v = .slice a n c := by
  obtain ⟨a, c, e, -⟩ := own_shape h
  exact ⟨a, c, e⟩
theorem rules7_c (A0 A1 A2 A3 A4 : Option Addr) (n0 n1 n2 n3 n4 c0 c1 c2 c3 c4 : Nat) (R C S T Q : Nat → Nat) (w : World) (h0 : Byt w A0 n0 R) (h1 : Byt w A1 n1 C) (h2 : Byt w A2 n2 S) (h3 : Byt w A3 n3 T) (h4 : Byt w A4 n4 Q) (hn : n0 ≤ 4096) :
    Calls Try.prog 7 #[.slice A0 n0 c0, .slice A1 n1 c1, .slice A2 n2 c2, .slice A3 n3 c3, .slice A4 n4 c4] w (RulesP R C S T Q n0 w) := by
  have CR := Lib.hid (fun w' (hb : Below w.heap.size w w') => h0.after hb)
  have C14 := Lib.hid (fun c p j key m w' (hb : Below w.heap.size w w') (hk : Key w w' key m) (hm : m ≤ 10000) (hcb : c ≤ 500000) (hpb : p ≤ 500000) (hjb : j ≤ 500000) => cplx14_c A1 A2 A3 A4 n1 n2 n3 n4 c1 c2 c3 c4 C S T Q c p j key m w w' h1 h2 h3 h4 hb hk hm hcb hpb hjb)
  clear h0 h1 h2 h3 h4
  have mk1 := make0_z (P := Try.prog) #[.nilIface, .int .i32 0] Try.underlying24 info59 n0 (by omega) (by omega)
  have mk2 := make0_z (P := Try.prog) #[.slice none 0 0] Try.underlying25 info51 n0 (by omega) (by omega)
  have mk3 := make0_z (P := Try.prog) #[.bool false] Try.underlying26 info4 n0 (by omega) (by omega)
  simp only [Nat.mul_one] at mk2 mk3
  go_enter Try.func7, Try.ntmps7
  go_upto_region 2 with fail
  refine wp_gen (fun W1 hW => ?_)
  have hO1 : Hid (W1.ownsRow w.heap.size 59 2 (.slice (some ⟨w.heap.size, 0, none⟩) 0 n0) 0 (flat RlR.cells ([] : List RlR))) := Lib.hid (by rw [hW]; exact World.ownsRow_made _ _ _ (by omega) (by unfold maxLen; omega) (by rw [size_madeCells]))
  have hB1 : Hid (Below w.heap.size w W1) := Lib.hid (by rw [hW]; exact ba _ _)
  clear hW mk1
  have hz1 := hB1.out.size
  go_upto_region 3 with fail
  refine wp_gen (fun W2 hW => ?_)
  have hO2 : Hid (W2.ownsRow w.heap.size 51 1 (.slice (some ⟨W1.heap.size, 0, none⟩) 0 n0) 0 []) := Lib.hid (by rw [hW]; exact World.ownsRow_made _ _ _ (by omega) (by unfold maxLen; omega) (by rw [size_madeCells]; omega))
  have hb12 : Hid (Below W1.heap.size W1 W2) := Lib.hid (by rw [hW]; exact ba _ _)
  clear hW mk2
  have hz2 := hb12.out.size
  go_upto_region 4 with fail
  refine wp_gen (fun W3 hW => ?_)
  have hO3 : Hid (W3.ownsRow w.heap.size 4 1 (.slice (some ⟨W2.heap.size, 0, none⟩) 0 n0) 0 []) := Lib.hid (by rw [hW]; exact World.ownsRow_made _ _ _ (by omega) (by unfold maxLen; omega) (by rw [size_madeCells]; omega))
  have hb23 : Hid (Below W2.heap.size W2 W3) := Lib.hid (by rw [hW]; exact ba _ _)
  clear hW mk3
  have hR0 : Hid (LR R C S T Q w n0 (.slice (some ⟨w.heap.size, 0, none⟩) 0 n0) (.slice (some ⟨W1.heap.size, 0, none⟩) 0 n0) (.slice (some ⟨W2.heap.size, 0, none⟩) 0 n0) (.int .i64 0) (.int .i64 0) (.int .i64 0) (.int .i64 0) W3) := Lib.hid ⟨0, [], [], [], by omega, rfl, rfl, rfl, rfl, own_below (own_below hO1.out hb12.out) hb23.out, own_below hO2.out hb23.out, hO3.out, rfl, (fun s h => by simp at h), rfl, rfl, (hB1.out.trans (hb12.out.mono hz1)).trans (hb23.out.mono (by omega)), _, _, rfl⟩
  clear hO1 hO2 hO3 hB1 hb12 hb23
  go_wp2_with fail
  go_loopw [13, 14, 15, 16, 17, 18, 19] (fun rules keys deads c p j r wr => LR R C S T Q w n0 rules keys deads c p j r wr) (fun _ _ _ _ _ _ r _ => n0 - (intOf r).toNat)
  case atStart => exact hR0.out
  case round =>
    clear hR0
    obtain ⟨i, ls, xk, xd, hi, rfl, rfl, rfl, rfl, hOr, hOk, hOd, hlen, hG, hkey, hloc, hB, hsh⟩ := hrel
    replace hsh := Lib.hid hsh
    obtain ⟨Wo, hWo⟩ : ∃ Wo, Wo = wr := ⟨_, rfl⟩
    subst hWo
    replace hOr := Lib.hid hOr; replace hOk := Lib.hid hOk; replace hOd := Lib.hid hOd; replace hlen := Lib.hid hlen; replace hG := Lib.hid hG; replace hkey := Lib.hid hkey; replace hloc := Lib.hid hloc; replace hB := Lib.hid hB
    by_cases hlt : i < n0
    · obtain ⟨s, hs⟩ : ∃ s, rSt R C S i = s := ⟨_, rfl⟩
      have hsb := rSt_le R C S i
      rw [hs] at hsb ⊢
      obtain ⟨hsb1, hsb2, hsb3⟩ := hsb
      have hRi := CR.out Wo hB.out
      obtain ⟨x, rfl, hc⟩ := hRi.row i hlt
      replace hc : Wo.cell? (x.add i) = some (.int .u8 (R i : Nat)) := hc
      have g1 := hRi.wf i
      clear hRi
      have i0 : (0 : Int) ≤ i := by omega
      have i1 : (i : Int) < n0 := by omega
      obtain ⟨N, hN, hx4⟩ : ∃ N : Nat, N < 4 ∧ R i % 4 = N := ⟨R i % 4, Nat.mod_lt _ (by omega), rfl⟩
      have hsN : Hid (rSt R C S (i + 1) = stN C S s N) := Lib.hid (by rw [rSt, hs, hx4])
      have hrk : Hid (rlK C S T Q s N = rlK C S T Q (rSt R C S i) (R i % 4)) := Lib.hid (by rw [hs, hx4])
      have hx4' : ((R i : Nat) : Int) % 4 = N := by omega
      obtain ⟨m, hm⟩ : ∃ m, R i = m := ⟨_, rfl⟩
      rw [hm] at hc g1 hx4'
      clear hm
      replace hs := Lib.hid hs
      clear hx4
      go_upto_region 11 with fail
      rw [hx4']
      clear hx4' hc
      go_upto_region 12 with fail
      refine wp_gen (fun W1 hW => ?_)
      have hK1 : Hid (Key w W1 (.slice (some ⟨Wo.heap.size, 0, none⟩) 1 1) 1) := Lib.hid ⟨1, [.int .i64 N], by omega, by rw [hW]; exact World.ownsRow_lit _ #[.int .i64 N] 1 hB.out.size (by decide) rfl⟩
      have hb01 : Hid (Below Wo.heap.size Wo W1) := Lib.hid (by rw [hW]; exact ba _ _)
      clear hW
      have hz01 := hb01.out.size
      have hwo := hB.out.size
      have mk := make0_z (P := Try.prog) #[.slice none 0 0] Try.underlying44 info50 N (by omega) (by omega)
      simp only [Nat.mul_one] at mk
      go_upto_region 13 with fail
      clear mk
      refine wp_gen (fun W2 hW => ?_)
      have hO2 : Hid (W2.ownsRow w.heap.size 50 1 (.slice (some ⟨W1.heap.size, 0, none⟩) 0 N) 0 (flat CxR.cells ([] : List (CxR K1)))) := Lib.hid (by rw [hW]; exact World.ownsRow_made _ _ _ (by omega) (by unfold maxLen; omega) (by rw [size_madeCells]; omega))
      have hb12 : Hid (Below W1.heap.size W1 W2) := Lib.hid (by rw [hW]; exact ba _ _)
      clear hW
      have hz12 := hb12.out.size
      have hQ0 : Hid (LQ C S T Q s w Wo.heap.size N Wo (.int .i64 s.c) (.int .i64 s.p) (.int .i64 s.j) (.slice (some ⟨Wo.heap.size, 0, none⟩) 1 1) (.slice (some ⟨W1.heap.size, 0, none⟩) 0 N) (.bool true) (.int .i64 0) W2) := Lib.hid ⟨0, true, [], by omega, rfl, rfl, rfl, rfl, rfl, hK1.out.below hb12.out, (fun b q => by simp [Ob, Value.ownBlock] at q; omega), hO2.out, (fun b q => by simp [Ob, Value.ownBlock] at q; omega), rfl, (fun s h => by simp at h), rfl, hb01.out.trans (hb12.out.mono hz01)⟩
      clear hK1 hb01 hO2 hb12
      go_wp2_with fail
      go_loopw [16, 17, 18, 21, 22, 23, 24] (fun c p j key sels all q wr => LQ C S T Q s w Wo.heap.size N Wo c p j key sels all q wr) (fun _ _ _ _ _ _ q _ => N - (intOf q).toNat)
      case atStart => exact hQ0.out
      case round =>
        clear hQ0
        obtain ⟨k, d, lx, hkN, rfl, rfl, rfl, rfl, rfl, hK, hkm, hO, hom, hll, hGx, hmap, hBx⟩ := hrel
        obtain ⟨Wi, hWi⟩ : ∃ Wi, Wi = wr := ⟨_, rfl⟩
        subst hWi
        have hsl := stN_le C S s k
        have hstep : Hid (stN C S s (k + 1) = ⟨(stN C S s k).c + 1, (stN C S s k).p + C (stN C S s k).c % 4, jAt S (stN C S s k).p (stN C S s k).j (C (stN C S s k).c % 4)⟩) := Lib.hid rfl
        obtain ⟨sk, hsk⟩ : ∃ y, stN C S s k = y := ⟨_, rfl⟩
        rw [hsk] at hsl hstep ⊢
        obtain ⟨hl1, hl2, hl3⟩ := hsl
        replace hsk := Lib.hid hsk
        replace hK := Lib.hid hK; replace hkm := Lib.hid hkm; replace hO := Lib.hid hO; replace hom := Lib.hid hom; replace hll := Lib.hid hll; replace hGx := Lib.hid hGx; replace hmap := Lib.hid hmap; replace hBx := Lib.hid hBx
        have hoi := hBx.out.size
        by_cases hltk : k < N
        · go_upto_region 18 with fail
          refine wp_gen (fun Wa hW => ?_)
          have hbW : Below Wi.heap.size Wi Wa := by rw [hW]; exact ba _ _
          have hV : Hid (Wa.ownsRow Wi.heap.size 50 1 (.slice (some ⟨Wi.heap.size, 0, none⟩) 1 1) 1 [.slice none 0 0]) := Lib.hid (by rw [hW]; exact World.ownsRow_lit _ #[.slice none 0 0] 1 (Nat.le_refl _) (by decide) rfl)
          clear hW
          have hKa := Lib.hid (hK.out.below hbW); have hOa := Lib.hid (own_below hO.out hbW)
          have hGa : Hid (∀ s ∈ lx, GCx G1 (fun b => Ob u22 b ∨ (Ob u21 b ∨ (b < Wo.heap.size ∨ b = Wi.heap.size))) Wa s) := Lib.hid (fun s hs => GCx.keep G1.keep _ _ _ _ _ (hGx.out s hs) (Kc.of_below hbW) (fun b hb q => by rcases q with q | q | q | q <;> first | exact .inl q | exact .inr (.inl q) | exact .inr (.inr q) | omega))
          have hBa := Lib.hid (hBx.out.trans (hbW.mono hoi))
          have hcl := Lib.hid (fun b (e : Ob u22 b) => (hO.out.lt b e).2)
          have hckl := Lib.hid (fun b (e : Ob u21 b) => by
            obtain ⟨_, _, _, q⟩ := hK.out
            exact (q.lt b e).2)
          have hao := hbW.size
          clear hbW hK hO hGx hBx
          generalize Wi.heap.size = PV at *
          have hVlt : PV < Wa.heap.size := (hV.out.lt PV rfl).2
          have g0 := hV.out.cellAt 0 (by omega)
          have f0' := hV.out.frozenAt 0
          simp only [List.getElem?_cons_zero] at g0
          have hBwa : Hid (Below w.heap.size w Wa) := Lib.hid (hB.out.trans (hBa.out.mono hwo))
          go_upto_region 20 with (go_at_call 14; (with_reducible refine (C14.out sk.c sk.p sk.j _ _ _ hBwa.out hKa.out (by omega) (by omega) (by omega) (by omega)).mono ?_); rintro e w1 ⟨r, d2, key2, cn, pn, jn, rfl, hcn, hpn, hjn, hr, hrk2, hK2, hn2, hkp2, hB2⟩; have hV2 := Lib.hid (hkp2.own hV.out (fun b e e2 => by have := hckl.out b e2; simp [Value.ownBlock] at e; omega)); have hkey := hKa.out; obtain ⟨_, _, _, hkey⟩ := hkey; have hO2 := Lib.hid (hkp2.own hOa.out (own_ne hOa.out hkey (by decide))); clear hkey; replace hr := Lib.hid hr; replace hrk2 := Lib.hid hrk2; replace hK2 := Lib.hid hK2; replace hB2 := Lib.hid hB2; replace hkp2 := Lib.hid hkp2; replace hn2 := Lib.hid hn2; replace hjn := Lib.hid hjn; replace hcn := Lib.hid hcn; replace hpn := Lib.hid hpn; clear g0 f0'; have g0 := hV2.out.cellAt 0 (by omega); have f0' := hV2.out.frozenAt 0; simp only [List.getElem?_cons_zero] at g0)
          have hst := hV2.out.stored 0 (.slice r.a r.ls.length r.c)
          clear g0 f0'
          refine wp_gen (fun W3 hW => ?_)
          rw [← hW] at hst
          clear hW
          have hst2 : Kp (fun b => b = PV) w1 W3 := (Kp.grown hst.2).wide (fun b e => by simpa using e.symm)
          have hV3 := Lib.hid hst.1
          have hO3 := Lib.hid (hst2.own hO2.out (fun b e h => by have := hcl.out b e; omega))
          have hw13 := hst2.size
          have hwa1 := hkp2.out.size
          have hn3 : Hid (∀ b, Ob key2 b → Wo.heap.size ≤ b) := Lib.hid (fun b q => by
            rcases hn2.out b q with q | q
            · exact hkm.out b q
            · omega)
          have hk2V : Hid (∀ b, Ob key2 b → b ≠ PV) := Lib.hid (fun b q e => by
            rcases hn2.out b q with q | q
            · have := hckl.out b q; omega
            · omega)
          have kca3 : Hid (∀ O : Nat → Prop, (∀ b, b < Wa.heap.size → Ob u21 b ∨ b = PV → O b) → Kc O Wa W3) := Lib.hid (fun O hOO a v hc hn => hst2.cell (hkp2.out.cell hc (fun q => hn (hOO _ (block_lt_of_cell hc) (.inl q)))) (fun q => hn (hOO _ (block_lt_of_cell hc) (.inr q))))
          have hr3 : Hid (GCx G1 (fun b => Ob key2 b ∨ b ≤ Wa.heap.size) W3 r) := Lib.hid (GCx.keep G1.keep _ _ _ _ _ hr.out (Kc.of_kp hst2 (fun b _ q => .inr (by omega))) (fun _ _ q => q))
          have hK3 := Lib.hid (hK2.out.kp hst2 (fun b q => hk2V.out b q))
          have hBm : Hid (Below Wo.heap.size Wo W3) := Lib.hid (hBa.out.trans ((hkp2.out.below (by omega) (fun b q => hkm.out b q)).trans (hst2.below (by omega) (fun b e => by omega))))
          have e0 := hV3.out.cellAt 0 (by omega)
          simp only [List.set_cons_zero, List.getElem?_cons_zero] at e0
          have hkO : Hid (∀ b, Ob key2 b → ¬ Ob u22 b) := Lib.hid (by
            obtain ⟨_, _, _, q⟩ := hK3.out
            exact own_ne q hO3.out (by decide))
          clear hst hst2 hV2 hO2 hr hK2 hB2 hBa hV hBwa
          cases d2
          all_goals
            go_wp2_with (at_builtin; go_loud (refine app1n (w := W3) (.tmp 75) (.tmp 77) 44 50 w.heap.size 1 24 #[.slice none 0 0] r.arr _ k _ rfl rfl rfl rfl rfl Try.underlying44 info50 rfl (by omega) hO3.out rfl (CxR.one r) (by omega) (by omega) (by omega) ?_); intro sels2 W5 hO5 hkp hnew; replace hkp := Lib.hid hkp; replace hO5 := Lib.hid hO5; replace hnew := Lib.hid hnew)
            have hGn := step_k (GCx.keep G1.keep) (Oth' := fun b => Ob key2 b ∨ b < Wo.heap.size) hGa.out (kca3.out _ (fun b hb q => by
              rcases q with q | q
              · exact .inr (.inl q)
              · exact .inr (.inr (.inr q)))) (fun b hb q => by
              rcases q with q | q
              · rcases hn2.out b q with q | q
                · exact .inl q
                · omega
              · exact .inr (.inl q)) hr3.out (fun b hb2 q => by
              rcases q with q | q | q
              · have := hcl.out b q
                exact .inr (by omega)
              · exact .inl q
              · exact .inr (by omega)) (by omega) hkp.out hnew.out
            have RR : ∀ d', LQ C S T Q s w Wo.heap.size N Wo (.int .i64 cn) (.int .i64 pn) (.int .i64 jn) key2 sels2 (.bool d') (.int .i64 ((k : Int) + 1)) W5 := fun d' => ⟨k + 1, d', lx ++ [r], by omega, by go_num, by rw [hstep.out, hcn.out], by rw [hstep.out, hpn.out], by rw [hstep.out, hjn.out], rfl, (hK3.out.kp hkp.out hkO.out).mono (by omega), hn3.out, by rw [← flat_add]; exact hO5.out, (fun b q => by
              rcases hnew.out b q with q | q
              · exact hom.out b q
              · omega), by simp [hll.out], hGn, by rw [List.map_append, hmap.out, List.range_succ, List.map_append]; simp [hrk2.out, hsk.out], hBm.out.trans (hkp.out.below (by omega) (fun b e => hom.out b e))⟩
            exact ⟨RR _, by simp [intOf]; omega⟩
        · obtain rfl : k = N := by omega
          obtain ⟨a, c6, hu⟩ := own_head hO.out
          subst hu
          obtain ⟨_, _, hnkk, hkey2⟩ := hK.out
          obtain ⟨ka, kc, hu⟩ := own_head hkey2
          subst hu
          rename_i kn _
          replace hkey2 := Lib.hid hkey2
          have hbx := Lib.hid hBx.out
          have hOr1 := Lib.hid (own_below hOr.out hBx.out); have hOk1 := Lib.hid (own_below hOk.out hBx.out); have hOd1 := Lib.hid (own_below hOd.out hBx.out)
          have C15 := Lib.hid (rule15_c i a c6 lx k hll.out (by unfold maxLen; omega) (fun b => b < Wo.heap.size) Wi (fun b q => by omega) (rcx_of_own (O' := fun b => b < Wo.heap.size) G1.keep hll.out hO.out hGx.out (fun b _ q => .inr (.inr q)) (fun b q q' => by have := hom.out b q; omega)))
          have hri : Hid (lx.map CxR.key = rlK C S T Q s k) := Lib.hid hmap.out
          have hii : Hid (((i : Int)) = ((i : Nat) : Int)) := Lib.hid rfl
          clear hK hO hGx hBx hmap
          go_upto_region 24 with (first | (go_at_call 15; (with_reducible refine C15.out.mono ?_); rintro e w4 ⟨r, rfl, hl, hls, hr, hb⟩; replace hl := Lib.hid hl; replace hls := Lib.hid hls; replace hr := Lib.hid hr; replace hb := Lib.hid hb; have hz4 := hb.out.size; replace hOr1 := Lib.hid (own_below hOr1.out hb.out); replace hOk1 := Lib.hid (own_below hOk1.out hb.out); replace hOd1 := Lib.hid (own_below hOd1.out hb.out)) | (at_builtin; refine app1n (w := w4) (.tmp 79) (.tmp 84) 24 59 w.heap.size 2 24 #[.nilIface, .int .i32 0] r.arr _ i _ rfl rfl rfl rfl rfl Try.underlying24 info59 rfl (by omega) hOr1.out rfl (RlR.one r) (by omega) (by omega) (by omega) ?_; intro rules2 W5 hO5 hkp hnew; replace hkp := Lib.hid hkp; replace hO5 := Lib.hid hO5; replace hnew := Lib.hid hnew))
          have hG5 := Lib.hid (step_k GRl.keep (Oth' := fun b => Ob u14 b ∨ (Ob u15 b ∨ b < w.heap.size)) hG.out (Kc.of_below (hbx.out.trans (hb.out.mono hoi))) (fun _ _ q => q) hr.out (fun b hb2 q => by
            rcases q with q | q | q | q
            · exact (hOr.out.lt b q).2
            · exact (hOk.out.lt b q).2
            · exact (hOd.out.lt b q).2
            · show b < Wo.heap.size
              omega) (by omega) hkp.out hnew.out)
          have hOk5 := Lib.hid (hkp.out.own hOk1.out (own_ne hOk1.out hOr1.out (by decide)))
          have hOd5 := Lib.hid (hkp.out.own hOd1.out (own_ne hOd1.out hOr1.out (by decide)))
          have hB5 : Hid (Below w.heap.size w W5) := Lib.hid ((hB.out.trans ((hbx.out.trans (hb.out.mono hoi)).mono hwo)).trans (hkp.out.below (by omega) (fun b e => (hOr1.out.lt b e).1)))
          have hz5 := hkp.out.size
          clear hkp hnew hOk1 hOd1 C15
          go_upto_region 25 with (at_builtin; refine app1n (w := W5) (.tmp 86) (.tmp 88) 25 51 w.heap.size 1 24 #[.slice none 0 0] #[.slice ka kn kc] _ i _ rfl rfl rfl rfl rfl Try.underlying25 info51 rfl (by omega) hOk5.out rfl (by simp [Value.oneCell']) (by omega) (by omega) (by omega) ?_; intro keys2 W6 hO6 hkp6 hnew6; replace hkp6 := Lib.hid hkp6; replace hO6 := Lib.hid hO6; replace hnew6 := Lib.hid hnew6)
          have hOr6 := Lib.hid (hkp6.out.own hO5.out (own_ne hO5.out hOk5.out (by decide)))
          have hOd6 := Lib.hid (hkp6.out.own hOd5.out (own_ne hOd5.out hOk5.out (by decide)))
          have hB6 : Hid (Below w.heap.size w W6) := Lib.hid (hB5.out.trans (hkp6.out.below (by omega) (fun b e => (hOk5.out.lt b e).1)))
          have hz6 := hkp6.out.size
          go_wp2_with (at_builtin; refine app1n (w := W6) (.tmp 90) (.tmp 92) 26 4 w.heap.size 1 1 #[.bool false] #[.bool d] _ i _ rfl rfl rfl rfl rfl Try.underlying26 info4 rfl (by omega) hOd6.out rfl (by simp [Value.oneCell']) (by omega) (by omega) (by omega) ?_; intro deads2 W7 hO7 hkp7 hnew7; replace hkp7 := Lib.hid hkp7; replace hO7 := Lib.hid hO7; replace hnew7 := Lib.hid hnew7)
          have hOr7 := hkp7.out.own hOr6.out (own_ne hOr6.out hOd6.out (by decide))
          have hOk7 := hkp7.out.own hO6.out (own_ne hO6.out hOd6.out (by decide))
          have hB7 : Below w.heap.size w W7 := hB6.out.trans (hkp7.out.below (by omega) (fun b e => (hOd6.out.lt b e).1))
          have hG7 : ∀ r' ∈ ls ++ [r], GRl (fun b => Ob rules2 b ∨ (Ob keys2 b ∨ (Ob deads2 b ∨ b < w.heap.size))) W7 r' := fun r' hm => by
            refine GRl.keep (fun b => Ob rules2 b ∨ (Ob keys2 b ∨ (Ob u15 b ∨ b < w.heap.size))) _ W6 _ _ (GRl.keep _ _ _ _ _ (hG5.out r' hm) (Kc.of_kp hkp6.out (fun b _ q => .inr (.inl q))) (fun b hb q => ?_)) (Kc.of_kp hkp7.out (fun b _ q => .inr (.inr (.inl q)))) (fun b hb q => ?_)
            · rcases q with q | q | q
              · exact .inl q
              · rcases hnew6.out b q with q | q
                · exact .inr (.inl q)
                · omega
              · exact .inr (.inr q)
            · rcases q with q | q | q | q
              · exact .inl q
              · exact .inr (.inl q)
              · rcases hnew7.out b q with q | q
                · exact .inr (.inr (.inl q))
                · omega
              · exact .inr (.inr (.inr q))
          have RR : LR R C S T Q w n0 rules2 keys2 deads2 (.int .i64 sk.c) (.int .i64 sk.p) (.int .i64 sk.j) (.int .i64 ((i : Int) + 1)) W7 := ⟨i + 1, ls ++ [r], _, _, by omega, by go_num, by rw [hsN.out, hsk.out], by rw [hsN.out, hsk.out], by rw [hsN.out, hsk.out], by rw [← flat_add]; exact hOr7, hOk7, hO7.out, by simp [hlen.out], hG7, by rw [List.map_append, hkey.out, List.range_succ, List.map_append]; simp [RlR.key, hls.out, hri.out, hrk.out.symm], by rw [List.map_append, hloc.out, List.range_succ, List.map_append]; simp [hl.out], hB7, (by obtain ⟨g9, c9, e9, -⟩ := own_some hOr7 (by omega); exact ⟨g9, c9, e9⟩)⟩
          exact ⟨RR, by simp [intOf]; omega⟩
    · obtain rfl : i = n0 := by omega
      obtain ⟨g9, c', hu⟩ := hsh.out
      subst hu
      clear hsh
      go_wp2_with fail
      obtain ⟨b1, d1, hu1⟩ := own_head hOk.out
      refine bodyPost_ret (v := .tuple #[.slice (some ⟨g9, 0, none⟩) i c', u14, u15]) (by simp [results, Try.results7, go_sem]) rfl ?_
      exact ⟨g9, c', _, _, ls, rfl, hOr.out, hlen.out, fun r hr => GRl.keep _ _ _ _ _ (hG.out r hr) (fun _ _ q _ => q) (fun b _ q => q.imp (fun e => by rw [e]; rfl) (fun q => .inr (.inr q))), hkey.out, hloc.out, hB.out⟩
end Go.Proofs.Ytidmdcadejfjhaa
