/- FnFlattenMatchesStreamModel: the selector that comes back unchanged; what the law sees in each case. -/
import Derived.Test.YtjigljpodkfchadFlq
import Derived.Test.YtjigljpodkfchadFmf
import Derived.Test.YtjigljpodkfchadFmc
import Derived.Test.YtjigljpodkfchadFmh
set_option linter.unusedVariables false
set_option linter.unusedSimpArgs false
namespace Go.Proofs.Ytjigljpodkfchad
open Go.RowKit
set_option maxRecDepth 100000
set_option maxHeartbeats 40000000
theorem RCk1.cp {lo hi : Nat} {w : World} {r : MR} {x : Ck SK} (h : RCk1 lo hi w r x) : CpRd w r.tv r.sv r.nv x := by
  obtain ⟨h1, h2, h3, ls, ms, h4, h5, -, -, -, h6, h7, -, -⟩ := h
  have hl : ls.length = x.ks.length := by rw [← h7, List.length_map]
  obtain ⟨sa, sc, hsv⟩ := own_head h4
  obtain ⟨na, nc, hnv, -⟩ := h3
  have htv : ∃ po, r.tv = .pointer po ∧ (match x.ty with
    | none => po = none
    | some s => ∃ B, po = some ⟨B, 0, none⟩ ∧ Seg w B 0 (tyL s)) := by
    cases ht : x.ty with
    | none => rw [ht] at h2; exact ⟨none, h2, rfl⟩
    | some s =>
      rw [ht] at h2
      obtain ⟨B, e, -, hs⟩ := h2
      exact ⟨_, e, B, rfl, hs⟩
  obtain ⟨po, hpo, hty⟩ := htv
  refine ⟨po, sa, na, _, sc, nc, hpo, hsv, hnv, hl.symm, hty, fun j nm hj => ?_⟩
  rw [← h7, List.getElem?_map] at hj
  cases hs : ls[j]? with
  | none => rw [hs] at hj; cases hj
  | some s =>
    rw [hs] at hj
    injection hj with hj
    subst hj
    have hjl := (List.getElem?_eq_some_iff.1 hs).1
    rw [hsv] at h4
    obtain ⟨g, c', e, -⟩ := own_some h4 (by omega)
    injection e with e
    subst e
    refine ⟨g, s.t, s.p, rfl, own_seg h4 (fun i v hi => ?_), (h6 j s hs).rd⟩
    have hj6 : i < 3 := by have := (List.getElem?_eq_some_iff.1 hi).1; simpa [SubR.cells] using this
    rw [flat_at SubR.cells 3 (fun _ => rfl) ls j i s hs hj6]
    exact hi
/-- what the law sees of the flattened selector -/
def FlU (L : List (Ck SK × Bool)) (b : Bool) (pb base : Nat) (w : World) (e : Ending) (w' : World) : Prop := ∃ (G c : Nat) (a : Option Addr) (n c2 : Nat), e = .returned (.slice (some ⟨G, 0, none⟩) 1 c) ∧ w'.cell? ⟨G, 0, none⟩ = some (.slice a n c2) ∧ L.length = n ∧ CsRd w' a L ∧ w'.cell? ⟨pb, 53, none⟩ = some (.bool b) ∧ Below base w w'
def pl (l : List (Ck SK)) : List (Ck SK × Bool) := l.map (fun k => (k, false))
theorem pl_at {l : List (Ck SK)} {j : Nat} {x : Ck SK × Bool} (h : (pl l)[j]? = some x) : ∃ k, l[j]? = some k ∧ x = (k, false) := by
  unfold pl at h
  rw [List.getElem?_map] at h
  cases hk : l[j]? with
  | none => rw [hk] at h; cases h
  | some k => rw [hk] at h; injection h with h; exact ⟨k, rfl, h.symm⟩
theorem csrd_obs {w : World} {a : Option Addr} {n c : Nat} {l : List (Ck SK)} (h : ObsC w (.slice a n c) l) : l.length = n ∧ CsRd w a (pl l) := by
  obtain ⟨a', n', c', e, hl, h⟩ := h
  injection e with e1 e2 e3
  subst e1 e2 e3
  refine ⟨hl, fun j x hx => ?_⟩
  obtain ⟨k, hk, rfl⟩ := pl_at hx
  obtain ⟨g, r, e, hs, hr⟩ := h j k hk
  refine ⟨g, r.tv, r.sv, r.nv, e, ?_, hr.cp⟩
  have : r.cells = [r.tv, r.sv, r.nv, .int .i32 0, .int .u8 k.cb, .bool false] := by rw [← hr.1]; rfl
  rw [← this]
  exact hs
theorem csrd_rmk {w : World} {a : Option Addr} {c lo n : Nat} {los his : Nat → Nat} {rs : List MR} {l : List (Ck SK)} (h : RMk2 w (.slice a n c) lo n los his rs l) : l.length = n ∧ CsRd w a (pl l) := by
  refine ⟨h.2.2.1, fun j x hx => ?_⟩
  obtain ⟨k, hk, rfl⟩ := pl_at hx
  have hj := (List.getElem?_eq_some_iff.1 hk).1
  have hn := h.2.2.1
  obtain ⟨g, c', e, -⟩ := own_some h.1 (by omega)
  injection e with e _ _
  subst e
  obtain ⟨r, hr, hs, hc⟩ := has_of_rmk (W := w) h j k hk
  refine ⟨g, r.tv, r.sv, r.nv, rfl, ?_, hc.cp⟩
  have : r.cells = [r.tv, r.sv, r.nv, .int .i32 0, .int .u8 k.cb, .bool false] := by rw [← hc.1]; rfl
  rw [← this]
  exact hs
def lone : List (Ck SK × Bool) := [(⟨0, none, 1, []⟩, true)]
theorem csrd_e {w : World} {a : Option Addr} {n c : Nat} (h : ObsE w (.slice a n c)) : 1 = n ∧ CsRd w a lone := by
  obtain ⟨g, c', c2, a2, e, h⟩ := h
  injection e with e1 e2 e3
  subst e1 e2 e3
  refine ⟨rfl, fun j x hx => ?_⟩
  cases j with
  | zero =>
    injection hx with hx
    subst hx
    exact ⟨g, _, _, _, rfl, by simpa using h, none, none, a2, 0, 0, c2, rfl, rfl, rfl, rfl, rfl, fun i y hi => by simp at hi⟩
  | succ j => simp [lone] at hx
theorem FlP.u {l : List (Ck SK)} {pb base : Nat} {w : World} {e : Ending} {w' : World} (h : FlP l pb 53 base w e w') : (flatK l = [] → FlU lone true pb base w e w') ∧ (flatK l ≠ [] → FlU (pl (flatK l)) false pb base w e w') := by
  obtain ⟨G, c, v, he, hc, h, hb⟩ := h
  rcases h with ⟨h1, h2, h3⟩ | ⟨h1, h2, h3⟩
  · refine ⟨fun _ => ?_, fun q => absurd h1 q⟩
    obtain ⟨g, c1, c2, a2, rfl, -⟩ := id h2
    obtain ⟨e1, e2⟩ := csrd_e h2
    exact ⟨G, c, _, _, _, he, hc, e1, e2, h3, hb⟩
  · refine ⟨fun q => absurd q h1, fun _ => ?_⟩
    obtain ⟨a, n, c1, rfl, -⟩ := id h2
    obtain ⟨e1, e2⟩ := csrd_obs h2
    exact ⟨G, c, _, _, _, he, hc, by rw [pl, List.length_map]; exact e1, e2, h3, hb⟩
/-- not active, or nothing there: it comes back as it is -/
theorem flat17s_c (pb g c lo : Nat) (md : Int) (l : List (Ck SK)) (n : Nat) (hn : l.length = n) (hn2 : n ≤ 1048576) (hks : ∀ x ∈ l, x.ks.length ≤ 1048576) (hno : md = 0 ∨ l.any (fun x => x.ks.any isLg) = false) (los his : Nat → Nat) (rs0 : List MR) (base : Nat) (w : World) (hbase : base ≤ w.heap.size) (hp : w.cell? ⟨pb, 52, none⟩ = some (.int .u8 md)) (hpN : w.cell? ⟨pb, 53, none⟩ = some (.bool false)) (hR : RMk2 w (.slice (some ⟨g, 0, none⟩) n c) lo n los his rs0 l) : Calls Try.prog 17 #[.pointer (some ⟨pb, 0, none⟩), .slice none 0 0, .agg #[.slice (some ⟨g, 0, none⟩) n c]] w (FlU (pl l) false pb base w) := by
  replace hn := Lib.hid hn; replace hR := Lib.hid hR; replace hks := Lib.hid hks; replace hno := Lib.hid hno
  have hfin : Hid (∀ W w8 v2, Below w.heap.size w W → w8.ownsRow 0 32 1 v2 1 [.slice (some ⟨g, 0, none⟩) n c] → Kp (Ob (.slice none 0 0)) W w8 → ∃ G c8, v2 = .slice (some ⟨G, 0, none⟩) 1 c8 ∧ FlU (pl l) false pb base w (.returned (.slice (some ⟨G, 0, none⟩) 1 c8)) w8) := Lib.hid (fun W w8 v2 hb hO hk => by
    obtain ⟨a8, c8, hu⟩ := own_head hO
    subst hu
    obtain ⟨G, c9, e, -⟩ := own_some hO (by omega)
    injection e with e _ _
    subst e
    have b8 : Below W.heap.size W w8 := hk.below (Nat.le_refl _) (fun b q => absurd q ob_nil)
    have hc8 : w8.cell? ⟨G, 0, none⟩ = some (.slice (some ⟨g, 0, none⟩) n c) := by
      have := own_seg (o := 0) (vs := [.slice (some ⟨g, 0, none⟩) n c]) hO (fun j v hj => by simpa using hj)
      simpa using this 0 _ rfl
    have hbw : Below w.heap.size w w8 := hb.trans (b8.mono hb.size)
    have h2 := csrd_rmk (hR.out.after hbw)
    exact ⟨G, c8, rfl, G, c8, _, _, _, rfl, hc8, by rw [pl, List.length_map]; exact hn.out, h2.2, ac hbw hpN, hbw.mono hbase⟩)
  have C27 := Lib.hid (fun W (hb : Below w.heap.size w W) => has27_c l n hn.out hn2 hks.out rs0 g c W (fun i x hx => by
    obtain ⟨r, hr, h1, h2⟩ := has_of_rmk (W := W) (hR.out.after hb) i x hx
    exact ⟨r, h1, h2.2.1.ptr, by obtain ⟨na, nc, e, -⟩ := h2.2.2.1; exact ⟨na, nc, e⟩, h2.see⟩))
  have hplt := block_lt_of_cell hp
  by_cases hmd : md = 0
  · subst hmd
    clear hno C27 hpN
    go_enter Try.func17, Try.ntmps17
    go_upto_region 37 with fail
    refine wp_gen (fun W4 hW => ?_)
    have b4 : Hid (Below w.heap.size w W4) := Lib.hid (by rw [hW]; exact ba _ _)
    have e5 : W4.cell? ⟨w.heap.size, 0, none⟩ = some (.slice (some ⟨g, 0, none⟩) n c) := by rw [hW]; simp [go_sem]
    clear hW
    go_wp2_with (at_builtin; go_loud (refine app1n (w := W4) (.tmp 154) (.tmp 156) 28 32 0 1 24 #[.slice none 0 0] #[.slice (some ⟨g, 0, none⟩) n c] _ 0 [] rfl rfl rfl rfl rfl Try.underlying28 info32 rfl (by omega) (World.ownsRow_nil _ _ _ _) rfl (by simp [Value.oneCell']) (by omega) (by omega) (by omega) ?_); intro v2 w8 hO8 hkp hnew; replace hO8 := Lib.hid hO8; replace hkp := Lib.hid hkp; replace hnew := Lib.hid hnew)
    obtain ⟨G, c8, rfl, hF⟩ := hfin.out _ _ _ b4.out hO8.out hkp.out
    exact bodyPost_ret (v := .slice (some ⟨G, 0, none⟩) 1 c8) (by simp [results, Try.results17, go_sem]) rfl hF
  · have q : (md != 0) = true := by simp [hmd]
    have hlg := hno.out.resolve_left hmd
    rw [hlg] at C27
    clear hno hmd hlg
    go_enter Try.func17, Try.ntmps17
    go_upto_region 1 with fail
    refine wp_gen (fun W1 hW => ?_)
    have b1 : Hid (Below w.heap.size w W1) := Lib.hid (by rw [hW]; exact ba _ _)
    have e5 : W1.cell? ⟨w.heap.size, 0, none⟩ = some (.slice (some ⟨g, 0, none⟩) n c) := by rw [hW]; simp [go_sem]
    have hM1 : W1.heap.size = w.heap.size + 1 := by rw [hW]; simp
    clear hW
    replace hp := ac b1.out hp
    go_upto_region 37 with (go_at_call 27; (with_reducible refine (C27.out _ b1.out).mono ?_); rintro e w5 ⟨rfl, b5⟩; replace b5 := Lib.hid b5; have e5' := ac b5.out e5)
    obtain ⟨W0, rfl⟩ : ∃ y, y = w5 := ⟨_, rfl⟩
    have hb0 : Hid (Below w.heap.size w W0) := Lib.hid (b1.out.trans (b5.out.mono b1.out.size))
    clear e5 hp hpN
    go_wp2_with (at_builtin; go_loud (refine app1n (w := W0) (.tmp 154) (.tmp 156) 28 32 0 1 24 #[.slice none 0 0] #[.slice (some ⟨g, 0, none⟩) n c] _ 0 [] rfl rfl rfl rfl rfl Try.underlying28 info32 rfl (by omega) (World.ownsRow_nil _ _ _ _) rfl (by simp [Value.oneCell']) (by omega) (by omega) (by omega) ?_); intro v2 w8 hO8 hkp hnew; replace hO8 := Lib.hid hO8; replace hkp := Lib.hid hkp; replace hnew := Lib.hid hnew)
    obtain ⟨G, c8, rfl, hF⟩ := hfin.out _ _ _ hb0.out hO8.out hkp.out
    exact bodyPost_ret (v := .slice (some ⟨G, 0, none⟩) 1 c8) (by simp [results, Try.results17, go_sem]) rfl hF
end Go.Proofs.Ytjigljpodkfchad
