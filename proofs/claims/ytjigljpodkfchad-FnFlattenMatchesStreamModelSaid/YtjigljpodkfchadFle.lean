/- FnFlattenMatchesStreamModel: zzBuildInner. -/
import Derived.Test.YtjigljpodkfchadFld
set_option linter.unusedVariables false
set_option linter.unusedSimpArgs false
namespace Go.Proofs.Ytjigljpodkfchad
open Go.RowKit
set_option maxRecDepth 100000
set_option maxHeartbeats 40000000
theorem TyR.wide {O O' : Nat → Prop} {w : World} {tv : Value} {ty : Option ByteArray} (h : TyR O w tv ty) (ho : ∀ b, b < w.heap.size → O' b → O b) : TyR O' w tv ty := h.keep (S := fun _ => False) (Kp.refl w) (fun _ _ q => q.elim) ho
theorem NnR.wide {O O' : Nat → Prop} {w : World} {nv : Value} {nn : Nat} (h : NnR O w nv nn) (ho : ∀ b, b < w.heap.size → O' b → O b) : NnR O' w nv nn := h.keep (S := fun _ => False) (Kp.refl w) (fun _ _ q => q.elim) ho
theorem KeepP.wide {T : Type} {G : (Nat → Prop) → World → T → Prop} (hG : KeepP G) {O O' : Nat → Prop} {w : World} {x : T} (h : G O w x) (ho : ∀ b, b < w.heap.size → O' b → O b) : G O' w x := hG _ _ (fun _ => False) _ _ _ h (Kp.refl w) (fun _ _ q => q.elim) ho
/-- a compound that is being made: its row is appended to -/
def RCo {K : Type} (G : (Nat → Prop) → World → SubR K → Prop) (lo : Nat) (O : Nat → Prop) (w : World) (tv sv nv : Value) (n : Nat) (ty : Option ByteArray) (nn : Nat) (ks : List K) : Prop := TyR (fun b => Ob sv b ∨ O b) w tv ty ∧ NnR (fun b => Ob sv b ∨ O b) w nv nn ∧ ∃ ls : List (SubR K), ls.length = n ∧ w.ownsRow lo 111 3 sv n (flat SubR.cells ls) ∧ (∀ b, Ob sv b → ¬ O b) ∧ (∀ s ∈ ls, G (fun b => Ob sv b ∨ O b) w s) ∧ ls.map SubR.k = ks
theorem RCo.keep {K : Type} {G : (Nat → Prop) → World → SubR K → Prop} (hG : KeepP G) {lo : Nat} {O O' S : Nat → Prop} {w w' : World} {tv sv nv : Value} {n : Nat} {ty : Option ByteArray} {nn : Nat} {ks : List K} (h : RCo G lo O w tv sv nv n ty nn ks) (hk : Kp S w w') (hs : ∀ b, b < w.heap.size → S b → O b) (ho : ∀ b, b < w.heap.size → O' b → O b) : RCo G lo O' w' tv sv nv n ty nn ks := by
  obtain ⟨h1, h2, ls, h3, h4, h5, h6, h7⟩ := h
  have hs2 : ∀ b, b < w.heap.size → S b → Ob sv b ∨ O b := fun b hb q => .inr (hs b hb q)
  have ho2 : ∀ b, b < w.heap.size → Ob sv b ∨ O' b → Ob sv b ∨ O b := fun b hb q => q.imp id (ho b hb)
  exact ⟨h1.keep hk hs2 ho2, h2.keep hk hs2 ho2, ls, h3, hk.own h4 (fun b q e => h5 b q (hs b (h4.lt b q).2 e)), fun b q e => h5 b q (ho b (h4.lt b q).2 e), fun s hs' => hG _ _ _ _ _ _ (h6 s hs') hk hs2 ho2, h7⟩
theorem RCo.step {K : Type} {G : (Nat → Prop) → World → SubR K → Prop} (hG : KeepP G) {lo : Nat} {O : Nat → Prop} {w w7 w8 : World} {tv sv sv' nv : Value} {n : Nat} {ty : Option ByteArray} {nn : Nat} {ls : List (SubR K)} {s : SubR K} (h1 : TyR (fun b => Ob sv b ∨ O b) w tv ty) (h2 : NnR (fun b => Ob sv b ∨ O b) w nv nn) (h3 : ls.length = n) (h4 : w.ownsRow lo 111 3 sv n (flat SubR.cells ls)) (h5 : ∀ b, Ob sv b → ¬ O b) (h6 : ∀ s ∈ ls, G (fun b => Ob sv b ∨ O b) w s) (hb : Below w.heap.size w w7) (hs : G (fun b => Ob sv b ∨ O b) w7 s) (hO : w8.ownsRow lo 111 3 sv' (n + 1) (flat SubR.cells ls ++ s.cells)) (hk : Kp (Ob sv) w7 w8) (hn : ∀ b, Ob sv' b → Ob sv b ∨ w7.heap.size ≤ b) (hOl : ∀ b, O b → b < w7.heap.size) : RCo G lo O w8 tv sv' nv (n + 1) ty nn (ls.map SubR.k ++ [s.k]) := by
  have z1 := hb.size
  have hs2 : ∀ b, b < w7.heap.size → Ob sv b → Ob sv b ∨ O b := fun b _ q => .inl q
  have ho2 : ∀ b, b < w7.heap.size → Ob sv' b ∨ O b → Ob sv b ∨ O b := fun b hb2 q => by
    rcases q with q | q
    · rcases hn b q with q | q
      · exact .inl q
      · omega
    · exact .inr q
  have f1 : ∀ b, b < w.heap.size → (fun _ => False) b → Ob sv b ∨ O b := fun _ _ q => q.elim
  have f2 : ∀ b, b < w.heap.size → Ob sv b ∨ O b → Ob sv b ∨ O b := fun _ _ q => q
  refine ⟨(h1.keep (Kp.of hb) f1 f2).keep hk hs2 ho2, (h2.keep (Kp.of hb) f1 f2).keep hk hs2 ho2, ls ++ [s], by simp [h3], by rw [← flat_add]; exact hO, fun b q e => ?_, fun x hx => ?_, by simp⟩
  · rcases hn b q with q | q
    · exact h5 b q e
    · have := hOl b e; omega
  · rcases List.mem_append.1 hx with hx | hx
    · exact hG _ _ _ _ _ _ (hG _ _ _ _ _ _ (h6 x hx) (Kp.of hb) f1 f2) hk hs2 ho2
    · rw [List.mem_singleton] at hx
      subst hx
      exact hG _ _ _ _ _ _ hs hk hs2 ho2
theorem RCo.shut {K : Type} {G : (Nat → Prop) → World → SubR K → Prop} (hG : KeepP G) {lo : Nat} {O O' : Nat → Prop} {w : World} {tv sv nv : Value} {n : Nat} {ty : Option ByteArray} {nn : Nat} {ks : List K} {cb : Int} (h : RCo G lo O w tv sv nv n ty nn ks) (ho : ∀ b, b < w.heap.size → O' b → O b) : RCk G O' w ⟨tv, sv, nv, cb⟩ ⟨cb, ty, nn, ks⟩ := by
  obtain ⟨h1, h2, ls, h3, h4, h5, h6, h7⟩ := h
  have ho2 : ∀ b, b < w.heap.size → Ob sv b ∨ O' b → Ob sv b ∨ O b := fun b hb q => q.imp id (ho b hb)
  subst h3
  exact ⟨rfl, h1.wide ho2, h2.wide ho2, ls, own_base h4 (Nat.zero_le _), fun b q e => h5 b q (ho b (h4.lt b q).2 e), fun s hs => hG.wide (h6 s hs) ho2, h7⟩
def InnP (ks : List (Ck ByteArray)) (w : World) (e : Ending) (w' : World) : Prop := ∃ (Y c1 g c : Nat) (ms : Nat → Nat) (rs : List MR), e = .returned (.slice (some ⟨Y, 0, none⟩) 1 c1) ∧ w.heap.size ≤ Y ∧ w.heap.size ≤ g ∧ w'.cell? ⟨Y, 0, none⟩ = some (.slice (some ⟨g, 0, none⟩) ks.length c) ∧ g < w'.heap.size ∧ ks.length ≤ c ∧ (∀ k, ms k ≤ ms (k + 1)) ∧ RIn (fun b => b < w.heap.size) w' g ms rs ks ∧ Below w.heap.size w w'
theorem segs4' {w : World} {b o : Nat} {v0 v1 v2 v3 : Value} (h : Seg w b o [v0, v1, v2, v3]) : w.cell? ⟨b, o, none⟩ = some v0 ∧ w.cell? ⟨b, o + 1, none⟩ = some v1 ∧ w.cell? ⟨b, o + 2, none⟩ = some v2 ∧ w.cell? ⟨b, o + 3, none⟩ = some v3 :=
  ⟨by simpa using h 0 _ rfl, h 1 _ rfl, h 2 _ rfl, h 3 _ rfl⟩
theorem put4z {w W' : World} {T : Nat} {a0 a1 a2 b3 b4 b5 : Value} (v : Value) (h : Room w T 6) (hs : Seg w T 0 [a0, a1, a2, b3, b4, b5]) (hW : W' = w.setCell ⟨T, 4, none⟩ v) : Seg W' T 0 [a0, a1, a2, b3, v, b5] ∧ Room W' T 6 ∧ Kp (fun b => b = T) w W' := by
  subst hW
  exact ⟨hs.set 4 v (by simp), h.setA _ _, (Kp.refl w).set _ _ (.inl rfl)⟩
theorem put0z {w W' : World} {T : Nat} {a0 a1 a2 b3 b4 b5 : Value} (v : Value) (h : Room w T 6) (hs : Seg w T 0 [a0, a1, a2, b3, b4, b5]) (hW : W' = w.setCell ⟨T, 0, none⟩ v) : Seg W' T 0 [v, a1, a2, b3, b4, b5] ∧ Room W' T 6 ∧ Kp (fun b => b = T) w W' := by
  subst hW
  exact ⟨hs.set 0 v (by simp), h.setA _ _, (Kp.refl w).set _ _ (.inl rfl)⟩
theorem inner33_c (l : List Zi) (n : Nat) (hn : l.length = n) (hn2 : n ≤ 1048576) (hin : ∀ x ∈ l, x.nm.length ≤ 1048576) (a : Option Addr) (cc : Nat) (w : World) (h : RI w a l) : Calls Try.prog 33 #[.slice a n cc] w (InnP (l.map Zi.key) w) := by
  replace h := Lib.hid h
  replace hn := Lib.hid hn
  replace hin := Lib.hid hin
  have mk := make0_z (P := Try.prog) #[.pointer none, .slice none 0 0, .slice none 0 0, .int .i32 0, .int .u8 0, .bool false] Try.underlying30 info102 n (by omega) (by omega)
  go_enter Try.func33, Try.ntmps33
  go_upto_region 2 with fail
  clear mk
  refine wp_gen (fun W hW => ?_)
  have hO : Hid (RMk W (.slice (some ⟨w.heap.size, 0, none⟩) 0 n) w.heap.size 0 (fun _ => W.heap.size) [] []) := Lib.hid ⟨by rw [hW]; exact World.ownsRow_made _ _ _ (by omega) (by unfold maxLen; omega) (by rw [size_madeCells]), rfl, rfl, fun j r x hr _ => by simp at hr, fun _ => Nat.le_refl _, rfl⟩
  have hB : Hid (Below w.heap.size w W) := Lib.hid (by rw [hW]; exact ba _ _)
  clear hW
  go_wp2
  go_loopw [3, 4] (fun o i wr => ∃ (k : Nat) (ms : Nat → Nat) (rs : List MR) (g c1 : Nat), k ≤ n ∧ i = .int .i64 k ∧ o = .slice (some ⟨g, 0, none⟩) k c1 ∧ RMk wr (.slice (some ⟨g, 0, none⟩) k c1) w.heap.size k ms rs ((l.take k).map Zi.key) ∧ Below w.heap.size w wr) (fun _ i _ => n - (intOf i).toNat)
  case atStart => exact ⟨0, _, [], _, _, by omega, rfl, rfl, hO.out, hB.out⟩
  case round =>
    clear hO hB
    obtain ⟨k, ms, rs, g, c1, hk, rfl, rfl, hO, hB⟩ := hrel
    obtain ⟨Wr, rfl⟩ : ∃ y, y = wr := ⟨_, rfl⟩
    replace hO := Lib.hid hO; replace hB := Lib.hid hB
    have hzr := hB.out.size
    by_cases hlt : k < n
    · obtain ⟨x, hx⟩ : ∃ x, l[k]? = some x := ⟨_, List.getElem?_eq_getElem (by rw [hn.out]; exact hlt)⟩
      obtain ⟨b, o, a', c', rfl, hs, hRN, -, hcb, hty, ham⟩ := (h.out.after hB.out) k x hx
      have htk := Lib.hid (mapt (f := Zi.key) hx)
      have hxn := hin.out x (List.mem_of_getElem? hx)
      clear hx
      have hbl := block_lt_of_cell (segs4' hs).1
      obtain ⟨xcb, xty, xam, xnm⟩ := x
      simp only at hcb hty ham hxn hRN
      obtain ⟨m, hm⟩ : ∃ y, xnm.length = y := ⟨_, rfl⟩
      have hs' : Hid (Seg Wr b (o + k * 4) [.int .u8 xcb, .int .u8 xty, .int .u8 xam, .slice a' m c']) := Lib.hid (by rw [← hm]; exact hs)
      rw [hm] at hxn
      replace hm := Lib.hid hm
      have i0 : (0 : Int) ≤ k := by omega
      have i1 : (k : Int) < n := by omega
      have C18 := Lib.hid (fun W => comb18_c xcb hcb.1 hcb.2 W)
      have C19 := Lib.hid (fun W => type19_c xty hty.1 hty.2 W)
      have C20 := Lib.hid (fun W => nest20_c xam (by omega) W)
      have hwam := wk64 (x := (xam : Int)) (by omega) (by omega)
      replace hRN := Lib.hid hRN
      clear hs hcb hty
      go_upto_region 6 with fail
      refine wp_gen (fun W0 hW => ?_)
      have b0 : Hid (Below Wr.heap.size Wr W0) := Lib.hid (by rw [hW]; exact ba _ _)
      have s0 : Hid (Seg W0 Wr.heap.size 0 [.pointer none, .slice none 0 0, .slice none 0 0, .int .i32 0, .int .u8 0, .bool false]) := Lib.hid (by rw [hW]; exact Seg.new _ _ _)
      have r0 : Hid (Room W0 Wr.heap.size 6) := Lib.hid (by rw [hW]; exact Room.newN _ _ rfl _)
      clear hW
      obtain ⟨V, hV⟩ : ∃ y, Wr.heap.size = y := ⟨_, rfl⟩
      rw [hV] at s0 r0 hzr hbl ⊢
      have hVr := Lib.hid hV
      clear hV
      obtain ⟨d0, d1, d2, d3⟩ := segs4' (hs'.out.after b0.out)
      obtain ⟨v0, v1, v2, v3, v4, v5⟩ := segs6 s0.out
      simp only [Nat.zero_add] at v0 v1 v2 v3 v4 v5
      obtain ⟨_, _, f4⟩ := r0.out 4 (by omega)
      go_upto_region 7 with (go_at_call 18; (with_reducible refine (C18.out _).mono ?_); rintro e w7 ⟨rfl, rfl⟩)
      refine wp_gen (fun W1 hW => ?_)
      obtain ⟨s1, r1, k1⟩ := put4z _ r0.out s0.out hW
      clear hW v0 v1 v2 v3 v4 v5 f4 s0 r0 d0 d1 d2 d3
      replace s1 := Lib.hid s1; replace r1 := Lib.hid r1
      have b1 : Hid (Below Wr.heap.size Wr W1) := Lib.hid (b0.out.trans (k1.below b0.out.size (fun b e => by have := hVr.out; omega)))
      clear k1 b0
      have z1 := b1.out.size
      obtain ⟨d0, d1, d2, d3⟩ := segs4' (hs'.out.after b1.out)
      obtain ⟨v0, v1, v2, v3, v4, v5⟩ := segs6 s1.out
      simp only [Nat.zero_add] at v0 v1 v2 v3 v4 v5
      obtain ⟨_, _, f0⟩ := r1.out 0 (by omega)
      have zV1 : V < W1.heap.size := r1.out.lt (by omega)
      go_upto_if 29 with fail
      go_cut [] (fun wx => ∃ tv, Seg wx V 0 [tv, .slice none 0 0, .slice none 0 0, .int .i32 0, .int .u8 (combZ xcb), .bool false] ∧ TyR (fun b => b ≤ V) wx tv (tyK xty) ∧ Room wx V 6 ∧ Kp (fun b => b = V) W1 wx)
      case first =>
        by_cases h0 : xty = 0
        · have q : (xty != 0) = false := by simp [h0]
          have hty : Hid (tyK xty = none) := Lib.hid (by unfold tyK; rw [if_pos h0])
          clear h0
          go_wp2
          go_meet
          exact ⟨_, s1.out, by rw [hty.out]; rfl, r1.out, Kp.refl _⟩
        · have q : (xty != 0) = true := by simp [h0]
          have hty : Hid (tyK xty = some (bs [letZ xty])) := Lib.hid (by unfold tyK; rw [if_neg h0])
          clear h0
          go_wp2_with (go_at_call 19; (with_reducible refine (C19.out _).mono ?_); rintro e w7 ⟨tv, rfl, hT, ⟨B, rfl⟩, b7⟩; have f0' := af b7 v0 f0; have v0' := ac b7 v0; replace hT := Lib.hid hT; replace b7 := Lib.hid b7)
          go_meet
          obtain ⟨t1, t2, t3⟩ := put0z (w := w7) (.pointer (some ⟨B, 0, none⟩)) (r1.out.after b7.out) (s1.out.after b7.out) rfl
          refine ⟨_, t1, ?_, t2, (Kp.of b7.out).trans t3⟩
          rw [hty.out]
          exact hT.out.keep t3 (fun b _ e => by show b < W1.heap.size; have : b = V := e; omega) (fun b _ q => by show b < W1.heap.size; have : b ≤ V := q; omega)
      case rest =>
        obtain ⟨tv, s2, hT, r2, k2⟩ := hcut
        obtain ⟨W2, rfl⟩ : ∃ y, y = wc := ⟨_, rfl⟩
        clear v0 v1 v2 v3 v4 v5 f0 d0 d1 d2 d3
        replace s2 := Lib.hid s2; replace r2 := Lib.hid r2; replace hT := Lib.hid hT
        have b2 : Hid (Below Wr.heap.size Wr W2) := Lib.hid (b1.out.trans (k2.below b1.out.size (fun b e => by have := hVr.out; omega)))
        have z2 := k2.size
        clear k2
        obtain ⟨d0, d1, d2, d3⟩ := segs4' (hs'.out.after b2.out)
        obtain ⟨v0, v1, v2, v3, v4, v5⟩ := segs6 s2.out
        simp only [Nat.zero_add] at v0 v1 v2 v3 v4 v5
        obtain ⟨_, _, f2⟩ := r2.out 2 (by omega)
        go_upto_region 10 with (go_at_call 20; (with_reducible refine (C20.out _).mono ?_); rintro e w9 ⟨nv, rfl, hN, b9⟩; (have hN2 := hN); obtain ⟨na, nc, hnv, -⟩ := hN2; subst hnv; have f2' := af b9 v2 f2; have v2' := ac b9 v2; replace hN := Lib.hid hN; replace b9 := Lib.hid b9)
        refine wp_gen (fun W3 hW => ?_)
        obtain ⟨s3, r3, k3⟩ := put2cell _ (r2.out.after b9.out) (s2.out.after b9.out) hW
        clear hW v0 v1 v2 v3 v4 v5 f2 d0 d1 d2 d3 v2' f2'
        replace s3 := Lib.hid s3; replace r3 := Lib.hid r3
        have z9 := b9.out.size
        have b3 : Hid (Below Wr.heap.size Wr W3) := Lib.hid (b2.out.trans ((b9.out.mono b2.out.size).trans (k3.below (by have := b2.out.size; omega) (fun b e => by have := hVr.out; omega))))
        have hco : Hid (RCo Gn (V + 1) (fun b => b ≤ V) W3 tv (.slice none 0 0) (.slice na xam nc) 0 (tyK xty) xam []) := Lib.hid ⟨(hT.out.keep (S := fun b => b = V) ((Kp.of b9.out).trans k3) (fun b _ e => by show b ≤ V; have : b = V := e; omega) (fun _ _ q => q)).wide (fun b _ q => q.resolve_left ob_nil), (hN.out.keep k3 (fun b _ e => by show b < W2.heap.size; have : b = V := e; omega) (fun b _ q => by have q' : b ≤ V := q.resolve_left ob_nil; show b < W2.heap.size; omega)), [], rfl, World.ownsRow_nil _ _ _ _, fun b q => absurd q ob_nil, fun s hs => by simp at hs, rfl⟩
        clear hT hN k3 b9 b2
        have s3' := segs6 s3.out
        have d3' := segs4' (hs'.out.after b3.out)
        simp only [Nat.zero_add] at s3'
        go_wp2
        clear s3' d3'
        go_loopw [6] (fun i wr => ∃ (j : Nat) (sa : Option Addr) (sc : Nat), j ≤ m ∧ i = .int .i64 j ∧ Seg wr V 0 [tv, .slice sa j sc, .slice na xam nc, .int .i32 0, .int .u8 (combZ xcb), .bool false] ∧ Room wr V 6 ∧ RCo Gn (V + 1) (fun b => b ≤ V) wr tv (.slice sa j sc) (.slice na xam nc) j (tyK xty) xam (xnm.take j) ∧ Below Wr.heap.size Wr wr) (fun i _ => m - (intOf i).toNat)
        case atStart => exact ⟨0, none, 0, by omega, rfl, s3.out, r3.out, hco.out, b3.out⟩
        case round =>
          clear s3 r3 hco b3
          obtain ⟨j, sa, sc, hj, rfl, s4, r4, hco, b4⟩ := hrel
          obtain ⟨W4, rfl⟩ : ∃ y, y = wr := ⟨_, rfl⟩
          replace s4 := Lib.hid s4; replace r4 := Lib.hid r4; replace hco := Lib.hid hco; replace b4 := Lib.hid b4
          obtain ⟨d0, d1, d2, d3⟩ := segs4' (hs'.out.after b4.out)
          obtain ⟨x0, x1, x2, x3, x4, x5⟩ := segs6 s4.out
          simp only [Nat.zero_add] at x0 x1 x2 x3 x4 x5
          have zV4 : V < W4.heap.size := r4.out.lt (by omega)
          by_cases hltj : j < m
          · obtain ⟨s, hsj⟩ : ∃ s, xnm[j]? = some s := ⟨_, List.getElem?_eq_getElem (by rw [hm.out]; exact hltj)⟩
            obtain ⟨nb, no, rfl, hcs, hss⟩ := (hRN.out.after b4.out) j s hsj
            have htj : Hid (xnm.take (j + 1) = xnm.take j ++ [s]) := Lib.hid (by rw [List.take_add_one, hsj]; rfl)
            clear hsj
            have j0 : (0 : Int) ≤ j := by omega
            have j1 : (j : Int) < m := by omega
            have hjn : j ≤ 1048576 := by omega
            go_upto_region 13 with fail
            have hps : PsOk [(fun v _ => v = .pointer (some ⟨V, 1, none⟩)), (fun v _ => v = .slice sa j sc), (fun v _ => v = .slice (some ⟨b, o, none⟩) n cc), (fun v _ => v = .int .i64 k), (fun v _ => v = .pointer (some ⟨b, o + k * 4, none⟩)), (fun v _ => v = .pointer (some ⟨b, o + k * 4 + 3, none⟩)), (fun v _ => v = .slice (some ⟨nb, no, none⟩) m c'), (fun v _ => v = .int .i64 j), (fun v _ => v = .pointer (some ⟨nb, no + j, none⟩)), (fun v _ => v = .string s), (fun v W => ∃ t : SubR ByteArray, v = .agg t.arr ∧ t.k = s ∧ Gn (fun b => b < W4.heap.size) W t), (fun v W => ∃ (t : SubR ByteArray) (bk : Nat), v = .slice (some ⟨bk, 0, none⟩) 1 1 ∧ W4.heap.size ≤ bk ∧ NewAt W bk t.arr 111 ∧ t.k = s ∧ Gn (fun b => b < W4.heap.size) W t)] := PsOk.eq (PsOk.eq (PsOk.eq (PsOk.eq (PsOk.eq (PsOk.eq (PsOk.eq (PsOk.eq (PsOk.eq (PsOk.eq (PsOk.cons (fun v W W' hb ⟨t, e1, e2, e3⟩ => ⟨t, e1, e2, Gn.keep _ _ (fun _ => False) _ _ _ e3 (Kp.of hb) (fun _ _ q => q.elim) (fun _ _ q => q)⟩) (PsOk.cons (fun v W W' hb ⟨t, bk, e1, e2, e3, e4, e5⟩ => ⟨t, bk, e1, e2, NewAt.after e3 hb, e4, Gn.keep _ _ (fun _ => False) _ _ _ e5 (Kp.of hb) (fun _ _ q => q.elim) (fun _ _ q => q)⟩) (PsOk.nil))))))))))))
            refine QTail.drawn_rel 12 (PsR [(fun v _ => v = .pointer (some ⟨V, 1, none⟩)), (fun v _ => v = .slice sa j sc), (fun v _ => v = .slice (some ⟨b, o, none⟩) n cc), (fun v _ => v = .int .i64 k), (fun v _ => v = .pointer (some ⟨b, o + k * 4, none⟩)), (fun v _ => v = .pointer (some ⟨b, o + k * 4 + 3, none⟩)), (fun v _ => v = .slice (some ⟨nb, no, none⟩) m c'), (fun v _ => v = .int .i64 j), (fun v _ => v = .pointer (some ⟨nb, no + j, none⟩)), (fun v _ => v = .string s), (fun v W => ∃ t : SubR ByteArray, v = .agg t.arr ∧ t.k = s ∧ Gn (fun b => b < W4.heap.size) W t), (fun v W => ∃ (t : SubR ByteArray) (bk : Nat), v = .slice (some ⟨bk, 0, none⟩) 1 1 ∧ W4.heap.size ≤ bk ∧ NewAt W bk t.arr 111 ∧ t.k = s ∧ Gn (fun b => b < W4.heap.size) W t)]) (by kernel_rfl) (by kernel_rfl) (fun i v W W' h1 h2 => PsR.after hps i v W W' h1 h2) ?_ ?_
            · clear hps
              simp only [List.take_succ_cons, List.take_zero]
              refine ⟨?_, ?_, ?_, ?_, ?_, ?_, ?_, ?_, ?_, ?_, ?_, ?_, trivial⟩
              all_goals intro vs W' hC hd
              · clear hd hC
                simp only [QTail.putA, Nat.reduceAdd, Act.put, List.setIfInBounds_toArray, List.set_cons_succ, List.set_cons_zero]
                go_wp2
                exact ⟨rfl, Below.refl _ _⟩
              · have e0 : vs 0 = .pointer (some ⟨V, 1, none⟩) := hd { on := 0, ground := Ground.data } (by simp) rfl
                replace x1 := ac hC x1
                clear hd hC
                simp only [QTail.putA, Nat.reduceAdd, Act.put, List.setIfInBounds_toArray, List.set_cons_succ, List.set_cons_zero]
                rw [e0]
                go_wp2
                exact ⟨rfl, Below.refl _ _⟩
              · clear hd hC
                simp only [QTail.putA, Nat.reduceAdd, Act.put, List.setIfInBounds_toArray, List.set_cons_succ, List.set_cons_zero]
                go_wp2
                exact ⟨rfl, Below.refl _ _⟩
              · clear hd hC
                simp only [QTail.putA, Nat.reduceAdd, Act.put, List.setIfInBounds_toArray, List.set_cons_succ, List.set_cons_zero]
                go_wp2
                exact ⟨rfl, Below.refl _ _⟩
              · have e2 : vs 2 = .slice (some ⟨b, o, none⟩) n cc := hd { on := 2, ground := Ground.data } (by simp) rfl
                have e3 : vs 3 = .int .i64 k := hd { on := 3, ground := Ground.data } (by simp) rfl
                clear hd hC
                simp only [QTail.putA, Nat.reduceAdd, Act.put, List.setIfInBounds_toArray, List.set_cons_succ, List.set_cons_zero]
                rw [e2]
                rw [e3]
                go_wp2
                exact ⟨rfl, Below.refl _ _⟩
              · have e4 : vs 4 = .pointer (some ⟨b, o + k * 4, none⟩) := hd { on := 4, ground := Ground.data } (by simp) rfl
                clear hd hC
                simp only [QTail.putA, Nat.reduceAdd, Act.put, List.setIfInBounds_toArray, List.set_cons_succ, List.set_cons_zero]
                rw [e4]
                go_wp2
                exact ⟨rfl, Below.refl _ _⟩
              · have e5 : vs 5 = .pointer (some ⟨b, o + k * 4 + 3, none⟩) := hd { on := 5, ground := Ground.data } (by simp) rfl
                replace d3 := ac hC d3
                clear hd hC
                simp only [QTail.putA, Nat.reduceAdd, Act.put, List.setIfInBounds_toArray, List.set_cons_succ, List.set_cons_zero]
                rw [e5]
                go_wp2
                exact ⟨rfl, Below.refl _ _⟩
              · clear hd hC
                simp only [QTail.putA, Nat.reduceAdd, Act.put, List.setIfInBounds_toArray, List.set_cons_succ, List.set_cons_zero]
                go_wp2
                exact ⟨rfl, Below.refl _ _⟩
              · have e6 : vs 6 = .slice (some ⟨nb, no, none⟩) m c' := hd { on := 6, ground := Ground.data } (by simp) rfl
                have e7 : vs 7 = .int .i64 j := hd { on := 7, ground := Ground.data } (by simp) rfl
                clear hd hC
                simp only [QTail.putA, Nat.reduceAdd, Act.put, List.setIfInBounds_toArray, List.set_cons_succ, List.set_cons_zero]
                rw [e6]
                rw [e7]
                go_wp2
                exact ⟨rfl, Below.refl _ _⟩
              · have e8 : vs 8 = .pointer (some ⟨nb, no + j, none⟩) := hd { on := 8, ground := Ground.data } (by simp) rfl
                replace hcs := ac hC hcs
                clear hd hC
                simp only [QTail.putA, Nat.reduceAdd, Act.put, List.setIfInBounds_toArray, List.set_cons_succ, List.set_cons_zero]
                rw [e8]
                go_wp2
                exact ⟨rfl, Below.refl _ _⟩
              · have e9 : vs 9 = .string s := hd { on := 9, ground := Ground.data } (by simp) rfl
                have hC' := Lib.hid hC
                have C34 := Lib.hid (bare34_c s hss W')
                clear hd hC
                simp only [QTail.putA, Nat.reduceAdd, Act.put, List.setIfInBounds_toArray, List.set_cons_succ, List.set_cons_zero]
                rw [e9]
                go_wp2_with (go_at_call 34; (with_reducible refine C34.out.mono ?_); rintro e w5 ⟨t, rfl, tk, tg, tb⟩; replace tg := Lib.hid tg; replace tb := Lib.hid tb)
                exact ⟨⟨t, rfl, tk, Gn.keep.wide tg.out (fun b _ q => by have := hC'.out.size; show b < W'.heap.size; omega)⟩, tb.out⟩
              · obtain ⟨t, e10, tk, tg⟩ : ∃ t : SubR ByteArray, vs 10 = .agg t.arr ∧ t.k = s ∧ Gn (fun b => b < W4.heap.size) W' t := hd { on := 10, ground := Ground.data } (by simp) rfl
                replace tg := Lib.hid tg
                have hC' := Lib.hid hC
                clear hd hC
                simp only [QTail.putA, Nat.reduceAdd, Act.put, List.setIfInBounds_toArray, List.set_cons_succ, List.set_cons_zero]
                rw [e10]
                go_wp2
                exact ⟨⟨t, _, rfl, hC'.out.size, by show (W'.heap.push _)[W'.heap.size]? = _; simp, tk, Gn.keep _ _ (fun _ => False) _ _ _ tg.out (Kp.of (ba _ _)) (fun _ _ q => q.elim) (fun _ _ q => q)⟩, ba _ _⟩
            · clear hps
              intro vs W3 b3 hR
              have e1 : vs 1 = .slice sa j sc := hR 1 (by omega)
              obtain ⟨t, bk, e11, hbk, hnb, tk, tg⟩ : ∃ (t : SubR ByteArray) (bk : Nat), vs 11 = .slice (some ⟨bk, 0, none⟩) 1 1 ∧ W4.heap.size ≤ bk ∧ NewAt W3 bk t.arr 111 ∧ t.k = s ∧ Gn (fun b => b < W4.heap.size) W3 t := hR 11 (by omega)
              replace tg := Lib.hid tg
              replace hnb := Lib.hid hnb
              replace b3 := Lib.hid b3
              clear hR
              simp only [List.take_succ_cons, List.take_zero, List.drop_succ_cons, List.drop_zero, QTail.putA, Nat.reduceAdd, Act.put, List.setIfInBounds_toArray, List.set_cons_succ, List.set_cons_zero]
              rw [e1]
              rw [e11]
              clear e1 e11
              generalize vs 0 = zz0
              generalize vs 2 = zz2
              generalize vs 3 = zz3
              generalize vs 4 = zz4
              generalize vs 5 = zz5
              generalize vs 6 = zz6
              generalize vs 7 = zz7
              generalize vs 8 = zz8
              generalize vs 9 = zz9
              generalize vs 10 = zz10
              clear vs
              have zb3 := b3.out.size
              obtain ⟨h1, h2, ls, h3, h4, h5, h6, h7⟩ := hco.out
              replace h1 := Lib.hid h1; replace h2 := Lib.hid h2; replace h3 := Lib.hid h3; replace h4 := Lib.hid h4; replace h5 := Lib.hid h5; replace h6 := Lib.hid h6; replace h7 := Lib.hid h7
              have hO3 := Lib.hid (own_below h4.out b3.out)
              obtain ⟨_, w1, f1⟩ := r4.out 1 (by omega)
              have w1' := ac b3.out w1
              have f1' := af b3.out w1 f1
              clear w1 f1
              have hVn : Hid (¬ Ob (.slice sa j sc) V) := Lib.hid (fun q => h5.out V q (Nat.le_refl _))
              go_upto_region 12 with (at_builtin; go_loud (refine app1g (W := W3) (.tmp 56) (.tmp 66) 97 111 (V + 1) 3 24 #[.nilIface, .int .i32 0, .int .i32 0] t.arr bk _ j _ rfl rfl rfl rfl hnb.out Try.underlying97 info111 rfl (by omega) hO3.out rfl (SubR.one t) hjn (by omega) (by omega) ?_); intro v' W5 hO5 hkp hnew; obtain ⟨a5, c5, hu⟩ := own_head hO5; subst hu; have w2' := hkp.cell w1' hVn.out; have f2' := hkp.froz w1' f1' hVn.out; replace hO5 := Lib.hid hO5; replace hkp := Lib.hid hkp; replace hnew := Lib.hid hnew)
              refine wp_gen (fun W6 hW => ?_)
              have z35 := hkp.out.size
              obtain ⟨s6, r6, k6⟩ := put1z _ (room_kept (r4.out.after b3.out) hkp.out hVn.out) ((s4.out.after b3.out).keep (Kc.of_kp hkp.out (fun _ _ q => q)) hVn.out) hW
              clear hW
              have hst := RCo.step (nn := xam) Gn.keep h1.out h2.out h3.out h4.out h5.out h6.out b3.out (Gn.keep.wide tg.out (fun b _ q => by
                rcases q with q | q
                · exact (h4.out.lt b q).2
                · show b < W4.heap.size; have : b ≤ V := q; omega)) hO5.out hkp.out hnew.out (fun b q => by have : b ≤ V := q; omega)
              rw [h7.out, tk, ← htj.out] at hst
              have RR : ∃ (j' : Nat) (sa : Option Addr) (sc : Nat), j' ≤ m ∧ Value.int .i64 ((j : Int) + 1) = .int .i64 j' ∧ Seg W6 V 0 [tv, .slice sa j' sc, .slice na xam nc, .int .i32 0, .int .u8 (combZ xcb), .bool false] ∧ Room W6 V 6 ∧ RCo Gn (V + 1) (fun b => b ≤ V) W6 tv (.slice sa j' sc) (.slice na xam nc) j' (tyK xty) xam (xnm.take j') ∧ Below Wr.heap.size Wr W6 := ⟨j + 1, a5, c5, by omega, by go_num, s6, r6, hst.keep Gn.keep k6 (fun b _ e => by show b ≤ V; have : b = V := e; omega) (fun _ _ q => q), b4.out.trans ((b3.out.mono b4.out.size).trans ((hkp.out.below (by have := b4.out.size; omega) (fun b q => by have := (h4.out.lt b q).1; have := hVr.out; omega)).trans (k6.below (by have := b4.out.size; omega) (fun b e => by have := hVr.out; omega))))⟩
              clear hst s6 r6 k6
              replace RR := Lib.hid RR
              go_wp2
              exact ⟨RR.out, by simp [intOf] <;> omega⟩
          · obtain rfl : j = m := by omega
            have hOr : Hid (W4.ownsRow w.heap.size 102 6 (.slice (some ⟨g, 0, none⟩) k c1) k (flat MR.cells rs)) := Lib.hid (own_below hO.out.1 b4.out)
            have htv : tv.oneCell' = true := by
              have := hco.out.1
              revert this
              cases tyK xty with
              | none => intro q; rw [show tv = .pointer none from q]; rfl
              | some s => intro q; obtain ⟨B, e, -⟩ := q; rw [e]; rfl
            have hzw : w.heap.size ≤ W4.heap.size := by have := b4.out.size; have := hVr.out; omega
            go_wp2_with (at_builtin; go_loud (refine app1n (w := W4) (.tmp 69) (.tmp 71) 30 102 w.heap.size 6 72 #[.pointer none, .slice none 0 0, .slice none 0 0, .int .i32 0, .int .u8 0, .bool false] #[tv, .slice sa j sc, .slice na xam nc, .int .i32 0, .int .u8 (combZ xcb), .bool false] _ k _ rfl rfl rfl rfl rfl Try.underlying30 info102 rfl (by omega) hOr.out rfl (arr6_one htv rfl rfl rfl rfl rfl) (by omega) (by omega) hzw ?_); intro v2 w8 hO8 hkp hnew; obtain ⟨g8, c8, hu, -⟩ := own_some hO8 (by omega); subst hu; replace hO8 := Lib.hid hO8; replace hkp := Lib.hid hkp; replace hnew := Lib.hid hnew)
            have hst := RMk.step hO.out (by have := hVr.out; omega) b4.out (hco.out.shut (cb := combZ xcb) Gn.keep (fun b _ q => by show b ≤ V; have := hVr.out; have : b < Wr.heap.size := q; omega)) hO8.out hkp.out hnew.out
            have hzz : (l.take k).map Zi.key ++ [(⟨combZ xcb, tyK xty, xam, xnm.take j⟩ : Ck ByteArray)] = (l.take (k + 1)).map Zi.key := by
              have hxt : xnm.take j = xnm := List.take_of_length_le (by rw [hm.out]; exact Nat.le_refl _)
              rw [htk.out, hxt]; rfl
            rw [hzz] at hst
            have hBB : Below w.heap.size w w8 := hB.out.trans ((b4.out.mono (by have := hVr.out; omega)).trans (hkp.out.below hzw (fun b q => (hO.out.1.lt b q).1)))
            exact ⟨⟨k + 1, _, _, g8, c8, by omega, by go_num, rfl, hst, hBB⟩, by simp [intOf] <;> omega⟩
    · obtain rfl : k = n := by omega
      go_wp2
      obtain ⟨g', e1, e2, e3, e4, e5⟩ := hO.out.shut (by simp) (ba Wr (.cells #[.slice (some ⟨g, 0, none⟩) k c1] 32))
      injection e1 with e1
      injection e1 with e1
      subst e1
      have hkl : ((l.take k).map Zi.key).length = k := hO.out.2.2.1
      have hlk : l.take k = l := List.take_of_length_le (by rw [hn.out]; exact Nat.le_refl _)
      rw [hlk] at e5 hkl
      refine bodyPost_ret (v := .slice (some ⟨Wr.heap.size, 0, none⟩) 1 1) (by simp [results, Try.results33, go_sem]) rfl ⟨_, _, g, c1, ms, rs, rfl, hzr, e2, ?_, ?_, by rw [hkl]; exact e4, hO.out.2.2.2.2.1, e5, hB.out.trans ((ba _ _).mono hzr)⟩
      · rw [hkl]; simp [go_sem]
      · simp; omega
end Go.Proofs.Ytjigljpodkfchad
