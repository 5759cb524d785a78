/- FnFlattenMatchesStreamModel: mergeCompoundSelectors. -/
import Derived.Test.YtjigljpodkfchadFlj
set_option linter.unusedVariables false
set_option linter.unusedSimpArgs false
namespace Go.Proofs.Ytjigljpodkfchad
open Go.RowKit
set_option maxRecDepth 100000
set_option maxHeartbeats 40000000
def MgP (O : Nat → Prop) (P : Nat) (sv : Value) (k : Ck SK) (w : World) (e : Ending) (w' : World) : Prop := (∃ v, e = .returned v) ∧ ∃ sv', Cur O w' P sv' k ∧ Kp (fun b => b = P ∨ Ob sv b) w w' ∧ (∀ b, Ob sv' b → Ob sv b ∨ w.heap.size ≤ b)
theorem RCo.stepR2 {lo : Nat} {O : Nat → Prop} {w w7 w8 : World} {tv sv sv' nv : Value} {n m : Nat} {ty : Option ByteArray} {nn : Nat} {ls ns : List (SubR SK)} (h1 : TyR (fun b => Ob sv b ∨ O b) w tv ty) (h2 : NnR (fun b => Ob sv b ∨ O b) w nv nn) (h3 : ls.length = n) (h4 : w.ownsRow lo 111 3 sv n (flat SubR.cells ls)) (h5 : ∀ b, Ob sv b → ¬ O b) (h6 : ∀ s ∈ ls, G1 (fun b => Ob sv b ∨ O b) w s) (hb : Below w.heap.size w w7) (hm : ns.length = m) (hs : ∀ s ∈ ns, G1 (fun b => Ob sv b ∨ O b) w7 s) (hO : w8.ownsRow lo 111 3 sv' (n + m) (flat SubR.cells ls ++ flat SubR.cells ns)) (hk : Kp (Ob sv) w7 w8) (hn : ∀ b, Ob sv' b → Ob sv b ∨ w7.heap.size ≤ b) (hOl : ∀ b, O b → b < w7.heap.size) : RCo G1 lo O w8 tv sv' nv (n + m) ty nn (ls.map SubR.k ++ ns.map SubR.k) := by
  have z1 := hb.size
  have hs2 : ∀ b, b < w7.heap.size → Ob sv b → Ob sv b ∨ O b := fun b _ q => .inl q
  have ho2 : ∀ b, b < w7.heap.size → Ob sv' b ∨ O b → Ob sv b ∨ O b := fun b hb2 q => by
    rcases q with q | q
    · rcases hn b q with q | q
      · exact .inl q
      · omega
    · exact .inr q
  have g1 := h1.keep (S := fun _ => False) (Kp.of hb) (fun _ _ q => q.elim) (fun _ _ q => q)
  have g2 := h2.keep (S := fun _ => False) (Kp.of hb) (fun _ _ q => q.elim) (fun _ _ q => q)
  refine ⟨g1.keep hk hs2 ho2, g2.keep hk hs2 ho2, ls ++ ns, by simp [h3, hm], ?_, fun b q e => ?_, fun x hx => ?_, by rw [List.map_append]⟩
  · rw [show flat SubR.cells (ls ++ ns) = flat SubR.cells ls ++ flat SubR.cells ns by simp [flat]]
    exact hO
  · rcases hn b q with q | q
    · exact h5 b q e
    · have := hOl b e; omega
  · rcases List.mem_append.1 hx with hx | hx
    · have g3 := G1.keep _ _ (fun _ => False) _ _ _ (h6 x hx) (Kp.of hb) (fun _ _ q => q.elim) (fun _ _ q => q)
      exact G1.keep _ _ _ _ _ _ g3 hk hs2 ho2
    · exact G1.keep _ _ _ _ _ _ (hs x hx) hk hs2 ho2
theorem segs5 {w : World} {b o : Nat} {v0 v1 v2 v3 v4 : Value} (h : Seg w b o [v0, v1, v2, v3, v4]) : w.cell? ⟨b, o, none⟩ = some v0 ∧ w.cell? ⟨b, o + 1, none⟩ = some v1 ∧ w.cell? ⟨b, o + 2, none⟩ = some v2 ∧ w.cell? ⟨b, o + 3, none⟩ = some v3 ∧ w.cell? ⟨b, o + 4, none⟩ = some v4 :=
  ⟨by simpa using h 0 _ rfl, h 1 _ rfl, h 2 _ rfl, h 3 _ rfl, h 4 _ rfl⟩
theorem merge28_c (O Os : Nat → Prop) (P : Nat) (sv : Value) (k : Ck SK) (r : MR) (x : Ck ByteArray) (hk : k.ks.length + x.ks.length + 1 ≤ 1048576) (w : World) (hc : Cur O w P sv k) (hr : RCk Gn Os w r x) (hOs : ∀ b, (Ob sv b ∨ O b) → Os b) (hOl : ∀ b, O b → b < w.heap.size) : Calls Try.prog 28 #[.pointer (some ⟨P, 0, none⟩), .agg r.arr] w (MgP O P sv (mergeK k x) w) := by
  obtain ⟨tv, nv, n, hS, hR, hPO, hco⟩ := hc
  obtain ⟨-, hrT', hrN', rls, hrO, hrOb, hrG', hrk⟩ := hr
  have hrT : TyR Os w r.tv x.ty := hrT'.wide (fun b _ q => .inr q)
  have hrN : NnR Os w r.nv x.nn := hrN'.wide (fun b _ q => .inr q)
  have hrG : ∀ s ∈ rls, Gn Os w s := fun s hs => Gn.keep.wide (hrG' s hs) (fun b _ q => .inr q)
  clear hrT' hrN' hrG'
  obtain ⟨rtv, rsv, rnv, rcb⟩ := r
  simp only at hrT hrN hrO hrOb
  obtain ⟨na, nc, rfl, -⟩ := id hco.2.1
  obtain ⟨rna, rnc, rfl, -⟩ := id hrN
  obtain ⟨ra, rc, rfl⟩ := own_head hrO
  obtain ⟨sa, sc, rfl⟩ := own_head hco.2.2.choose_spec.2.1
  obtain ⟨m, hm⟩ : ∃ y, rls.length = y := ⟨_, rfl⟩
  have hnk : n = k.ks.length := by obtain ⟨ls, e1, -, -, -, e2⟩ := hco.2.2; rw [← e1, ← e2, List.length_map]
  have hmk : m = x.ks.length := by rw [← hm, ← hrk, List.length_map]
  have hPl := hOl P hPO
  have hrO' : w.ownsRow 0 111 3 (.slice ra m rc) m (flat SubR.cells rls) := by rw [← hm]; exact hrO
  have hrOb' : ∀ b, Ob (.slice ra m rc) b → ¬ Os b := by rw [← hm]; exact hrOb
  show Calls Try.prog 28 #[.pointer (some ⟨P, 0, none⟩), .agg #[rtv, .slice ra rls.length rc, .slice rna x.nn rnc, .int .i32 0, .int .u8 rcb, .bool false]] w _
  rw [hm]
  clear hrO hrOb
  obtain ⟨kcb, kty, knn, kks⟩ := k
  obtain ⟨xcb, xty, xnn, xks⟩ := x
  simp only at *
  replace hm := Lib.hid hm; replace hS := Lib.hid hS; replace hR := Lib.hid hR; replace hco := Lib.hid hco; replace hrT := Lib.hid hrT; replace hrN := Lib.hid hrN; replace hrO := Lib.hid hrO'; replace hrOb := Lib.hid hrOb'; replace hrG := Lib.hid hrG; replace hrk := Lib.hid hrk; replace hOs := Lib.hid hOs; replace hOl := Lib.hid hOl; replace hPO := Lib.hid hPO
  have hn2 : n + m + 1 ≤ 1048576 := by omega
  replace hnk := Lib.hid hnk; replace hmk := Lib.hid hmk
  clear hrO' hrOb' hk
  have hrp := hrT.out.ptr
  have htp := hco.out.1.ptr
  obtain ⟨po, rfl⟩ : ∃ o, rtv = .pointer o := by rcases hrp with ⟨-, e⟩ | ⟨-, B, e⟩; exact ⟨_, e⟩; exact ⟨_, e⟩
  obtain ⟨qo, rfl⟩ : ∃ o, tv = .pointer o := by rcases htp with ⟨-, e⟩ | ⟨-, B, e⟩; exact ⟨_, e⟩; exact ⟨_, e⟩
  have hCQ : Hid (∀ v sv' W', Cur O W' P sv' (mergeK ⟨kcb, kty, knn, kks⟩ ⟨xcb, xty, xnn, xks⟩) → Kp (fun b => b = P ∨ Ob (.slice sa n sc) b) w W' → (∀ b, Ob sv' b → Ob (.slice sa n sc) b ∨ w.heap.size ≤ b) → MgP O P (.slice sa n sc) (mergeK ⟨kcb, kty, knn, kks⟩ ⟨xcb, xty, xnn, xks⟩) w (.returned v) W') := Lib.hid (fun v sv' W' h1 h2 h3 => ⟨⟨v, rfl⟩, sv', h1, h2, h3⟩)
  generalize MgP O P (.slice sa n sc) (mergeK ⟨kcb, kty, knn, kks⟩ ⟨xcb, xty, xnn, xks⟩) w = QQ at *
  go_enter Try.func28, Try.ntmps28
  go_upto_region 1 with fail
  refine wp_gen (fun W hW => ?_)
  have bW : Hid (Below w.heap.size w W) := Lib.hid (by rw [hW]; exact ba _ _)
  have sX : Hid (Seg W w.heap.size 0 [.pointer po, .slice ra m rc, .slice rna xnn rnc, .int .i32 0, .int .u8 rcb, .bool false]) := Lib.hid (by rw [hW]; exact Seg.new _ _ _)
  clear hW
  obtain ⟨X, hX⟩ : ∃ y, w.heap.size = y := ⟨_, rfl⟩
  rw [hX] at sX hPl ⊢
  have hXw := Lib.hid hX
  clear hX
  have zW : X < W.heap.size := sX.out.lt
  have sP := Lib.hid (hS.out.after bW.out)
  have rP := Lib.hid (hR.out.after bW.out)
  have zb := bW.out.size
  obtain ⟨x0, x1, x2, x3, x4, x5⟩ := segs6 sP.out
  obtain ⟨z0, z1, z2, z3, z4, z5⟩ := segs6 sX.out
  simp only [Nat.zero_add] at x0 x1 x2 x3 x4 x5 z0 z1 z2 z3 z4 z5
  obtain ⟨_, _, f2⟩ := rP.out 2 (by omega)
  have hcoW := Lib.hid (hco.out.keep G1.keep (S := fun _ => False) (O' := O) (Kp.of bW.out) (fun _ _ q => q.elim) (fun _ _ q => q))
  have hcs : xnn = 0 ∨ (xnn ≠ 0 ∧ knn = 0) ∨ (xnn ≠ 0 ∧ knn ≠ 0) := by omega
  rcases hcs with h1 | ⟨h1, h2⟩ | ⟨h1, h2⟩
  · have hz : Hid (mNn knn xnn = knn) := Lib.hid (by unfold mNn; split <;> omega)
    have h1' : ¬ (0 : Int) < xnn := by omega
    clear h1
    go_upto_region 3 with fail
    refine wp_gen (fun W1 hW1 => ?_)
    have hFF : ∃ na' nc', Seg W1 P 0 [.pointer qo, .slice sa n sc, .slice na' (mNn knn xnn) nc', .int .i32 0, .int .u8 kcb, .bool false] ∧ Room W1 P 6 ∧ RCo G1 0 O W1 (.pointer qo) (.slice sa n sc) (.slice na' (mNn knn xnn) nc') n kty (mNn knn xnn) kks ∧ Kp (fun b => b = P) W W1 := by
      rw [hz.out, hW1]
      exact ⟨na, nc, sP.out, rP.out, hcoW.out, Kp.refl _⟩
    clear hW1 hz h1' hcoW
    obtain ⟨na', nc', sP1, rP1, hco1, k1⟩ := hFF
    clear x0 x1 x2 x3 x4 x5 z0 z1 z2 z3 z4 z5 f2 sP rP
    replace sP1 := Lib.hid sP1; replace rP1 := Lib.hid rP1; replace hco1 := Lib.hid hco1; replace k1 := Lib.hid k1
    have z1w := k1.out.size
    have hXP : Hid (¬ X = P) := Lib.hid (by omega)
    have sX1 := Lib.hid (sX.out.keep (Kc.of_kp k1.out (fun _ _ q => q)) hXP.out)
    obtain ⟨x0, x1, x2, x3, x4, x5⟩ := segs6 sP1.out
    obtain ⟨z0, z1, z2, z3, z4, z5⟩ := segs6 sX1.out
    simp only [Nat.zero_add] at x0 x1 x2 x3 x4 x5 z0 z1 z2 z3 z4 z5
    have f0 : W1.frozen? ⟨P, 0, none⟩ = false := by obtain ⟨_, _, h⟩ := rP1.out 0 (by omega); exact h
    obtain ⟨N, hN⟩ : ∃ y, mNn knn xnn = y := ⟨_, rfl⟩
    rw [hN] at x2
    replace hN := Lib.hid hN
    have hKw1 : Hid (Kp (fun b => b = P) w W1) := Lib.hid ((Kp.of bW.out).trans k1.out)
    go_upto_if 23 with fail
    go_cut [] (fun wx => ∃ tv' sa' sc' n', Seg wx P 0 [tv', .slice sa' n' sc', .slice na' N nc', .int .i32 0, .int .u8 kcb, .bool false] ∧ Room wx P 6 ∧ n' ≤ n + 1 ∧ RCo G1 0 O wx tv' (.slice sa' n' sc') (.slice na' N nc') n' (mTy kty xty) N (kks ++ mIs kty xty) ∧ Kp (fun b => b = P ∨ Ob (.slice sa n sc) b) W1 wx ∧ (∀ b, Ob (.slice sa' n' sc') b → Ob (.slice sa n sc) b ∨ W1.heap.size ≤ b))
    case first =>
      rw [hN.out] at hco1 sP1
      cases xty with
      | none =>
        have e1 : po = none := by have := hrT.out; injection this
        subst e1
        have hT : Hid (mTy kty none = kty ∧ kks ++ mIs kty none = kks) := Lib.hid (by cases kty <;> exact ⟨rfl, by simp [mTy, mIs]⟩)
        go_wp2
        go_meet
        rw [hT.out.1, hT.out.2]
        exact ⟨_, sa, sc, n, sP1.out, rP1.out, by omega, hco1.out, Kp.refl _, fun b q => .inl q⟩
      | some s =>
        obtain ⟨B2, e1, hB2, hsB⟩ := hrT.out
        injection e1 with e1
        subst e1
        have hsB1 : Hid (Seg W1 B2 0 (tyL s)) := Lib.hid (hsB.keep (Kc.of_kp hKw1.out (fun b _ e => hOs.out b (.inr (by rw [show b = P from e]; exact hPO.out)))) hB2)
        replace hB2 := Lib.hid hB2
        clear hsB
        cases kty with
        | none =>
          have e2 : qo = none := by have := hco1.out.1; injection this
          subst e2
          go_wp2
          go_meet
          obtain ⟨t1, t2, t3⟩ := put0z (w := W1) (.pointer (some ⟨B2, 0, none⟩)) rP1.out sP1.out rfl
          have h5 := hco1.out.keep G1.keep (S := fun b => b = P) (O' := O) t3 (fun b _ e => by rw [show b = P from e]; exact hPO.out) (fun _ _ q => q)
          refine ⟨_, sa, sc, n, t1, t2, by omega, ⟨⟨B2, rfl, fun q => hB2.out (hOs.out B2 q), hsB1.out.keep (Kc.of_kp t3 (fun b _ e => e)) (fun e => hB2.out (hOs.out B2 (.inr (by rw [show B2 = P from e]; exact hPO.out))))⟩, h5.2.1, ?_⟩, t3.wide (fun _ q => .inl q), fun b q => .inl q⟩
          rw [show kks ++ mIs none (some s) = kks by simp [mIs]]
          exact h5.2.2
        | some t0 =>
          obtain ⟨B1, e2, -⟩ := hco1.out.1
          injection e2 with e2
          subst e2
          obtain ⟨y0, y1, y2, y3, y4⟩ := segs5 (show Seg W1 B2 0 [.pointer none, .string s, .int .i32 0, .int .i32 0, .int .u8 0] from hsB1.out)
          simp only [Nat.zero_add] at y0 y1 y2 y3 y4
          go_upto_region 6 with fail
          have hps : PsOk [(fun v _ => v = .pointer (some ⟨P, 0, none⟩)), (fun v _ => v = .pointer (some ⟨P, 0, none⟩)), (fun v _ => v = .pointer (some ⟨P, 0, none⟩)), (fun v _ => v = .pointer (some ⟨P, 1, none⟩)), (fun v _ => v = .slice sa n sc), (fun v _ => v = .pointer (some ⟨X, 0, none⟩)), (fun v _ => v = .pointer (some ⟨B2, 0, none⟩)), (fun v _ => v = .pointer (some ⟨B2, 0, none⟩)), (fun v _ => v = .agg #[.pointer none, .string s, .int .i32 0, .int .i32 0, .int .u8 0]), (fun v _ => v = .agg #[.int .i32 0, .int .i32 0]), (fun v _ => v = .pointer (some ⟨X, 0, none⟩)), (fun v _ => v = .pointer (some ⟨B2, 0, none⟩)), (fun v _ => v = .agg #[.pointer (some ⟨B2, 0, none⟩), .slice none 0 0, .slice none 0 0, .int .i32 0, .int .u8 0, .bool false]), (fun v W => ∃ bk : Nat, v = .slice (some ⟨bk, 0, none⟩) 1 1 ∧ W1.heap.size ≤ bk ∧ NewAt W bk #[.pointer (some ⟨B2, 0, none⟩), .slice none 0 0, .slice none 0 0, .int .i32 0, .int .u8 0, .bool false] 102), (fun v W => ∃ bk : Nat, v = .agg #[.slice (some ⟨bk, 0, none⟩) 1 1] ∧ W1.heap.size ≤ bk ∧ NewAt W bk #[.pointer (some ⟨B2, 0, none⟩), .slice none 0 0, .slice none 0 0, .int .i32 0, .int .u8 0, .bool false] 102), (fun v W => ∃ bk bY : Nat, v = .slice (some ⟨bY, 0, none⟩) 1 1 ∧ W1.heap.size ≤ bk ∧ NewAt W bk #[.pointer (some ⟨B2, 0, none⟩), .slice none 0 0, .slice none 0 0, .int .i32 0, .int .u8 0, .bool false] 102 ∧ W1.heap.size ≤ bY ∧ NewAt W bY #[.slice (some ⟨bk, 0, none⟩) 1 1] 32), (fun v W => ∃ bk bY : Nat, v = .agg #[.slice (some ⟨bY, 0, none⟩) 1 1, .string ⟨#[]⟩, .string ⟨#[]⟩, .int .u8 2] ∧ W1.heap.size ≤ bk ∧ NewAt W bk #[.pointer (some ⟨B2, 0, none⟩), .slice none 0 0, .slice none 0 0, .int .i32 0, .int .u8 0, .bool false] 102 ∧ W1.heap.size ≤ bY ∧ NewAt W bY #[.slice (some ⟨bk, 0, none⟩) 1 1] 32), (fun v W => ∃ bk bY Z : Nat, v = .pointer (some ⟨Z, 0, none⟩) ∧ W1.heap.size ≤ bk ∧ NewAt W bk #[.pointer (some ⟨B2, 0, none⟩), .slice none 0 0, .slice none 0 0, .int .i32 0, .int .u8 0, .bool false] 102 ∧ W1.heap.size ≤ bY ∧ NewAt W bY #[.slice (some ⟨bk, 0, none⟩) 1 1] 32 ∧ W1.heap.size ≤ Z ∧ NewAt W Z #[.slice (some ⟨bY, 0, none⟩) 1 1, .string ⟨#[]⟩, .string ⟨#[]⟩, .int .u8 2] 133), (fun v W => ∃ bk bY Z : Nat, v = .iface 128 (.pointer (some ⟨Z, 0, none⟩)) ∧ W1.heap.size ≤ bk ∧ NewAt W bk #[.pointer (some ⟨B2, 0, none⟩), .slice none 0 0, .slice none 0 0, .int .i32 0, .int .u8 0, .bool false] 102 ∧ W1.heap.size ≤ bY ∧ NewAt W bY #[.slice (some ⟨bk, 0, none⟩) 1 1] 32 ∧ W1.heap.size ≤ Z ∧ NewAt W Z #[.slice (some ⟨bY, 0, none⟩) 1 1, .string ⟨#[]⟩, .string ⟨#[]⟩, .int .u8 2] 133), (fun v W => ∃ bk bY Z : Nat, v = .agg #[.iface 128 (.pointer (some ⟨Z, 0, none⟩)), .int .i32 0, .int .i32 0] ∧ W1.heap.size ≤ bk ∧ NewAt W bk #[.pointer (some ⟨B2, 0, none⟩), .slice none 0 0, .slice none 0 0, .int .i32 0, .int .u8 0, .bool false] 102 ∧ W1.heap.size ≤ bY ∧ NewAt W bY #[.slice (some ⟨bk, 0, none⟩) 1 1] 32 ∧ W1.heap.size ≤ Z ∧ NewAt W Z #[.slice (some ⟨bY, 0, none⟩) 1 1, .string ⟨#[]⟩, .string ⟨#[]⟩, .int .u8 2] 133), (fun v W => ∃ bk bY Z bS : Nat, v = .slice (some ⟨bS, 0, none⟩) 1 1 ∧ W1.heap.size ≤ bk ∧ NewAt W bk #[.pointer (some ⟨B2, 0, none⟩), .slice none 0 0, .slice none 0 0, .int .i32 0, .int .u8 0, .bool false] 102 ∧ W1.heap.size ≤ bY ∧ NewAt W bY #[.slice (some ⟨bk, 0, none⟩) 1 1] 32 ∧ W1.heap.size ≤ Z ∧ NewAt W Z #[.slice (some ⟨bY, 0, none⟩) 1 1, .string ⟨#[]⟩, .string ⟨#[]⟩, .int .u8 2] 133 ∧ W1.heap.size ≤ bS ∧ NewAt W bS #[.iface 128 (.pointer (some ⟨Z, 0, none⟩)), .int .i32 0, .int .i32 0] 111)] := PsOk.eq (PsOk.eq (PsOk.eq (PsOk.eq (PsOk.eq (PsOk.eq (PsOk.eq (PsOk.eq (PsOk.eq (PsOk.eq (PsOk.eq (PsOk.eq (PsOk.eq (PsOk.cons (fun v W W' hb ⟨bk, e, f0, f1⟩ => ⟨bk, e, f0, NewAt.after f1 hb⟩) (PsOk.cons (fun v W W' hb ⟨bk, e, f0, f1⟩ => ⟨bk, e, f0, NewAt.after f1 hb⟩) (PsOk.cons (fun v W W' hb ⟨bk, bY, e, f0, f1, f2, f3⟩ => ⟨bk, bY, e, f0, NewAt.after f1 hb, f2, NewAt.after f3 hb⟩) (PsOk.cons (fun v W W' hb ⟨bk, bY, e, f0, f1, f2, f3⟩ => ⟨bk, bY, e, f0, NewAt.after f1 hb, f2, NewAt.after f3 hb⟩) (PsOk.cons (fun v W W' hb ⟨bk, bY, Z, e, f0, f1, f2, f3, f4, f5⟩ => ⟨bk, bY, Z, e, f0, NewAt.after f1 hb, f2, NewAt.after f3 hb, f4, NewAt.after f5 hb⟩) (PsOk.cons (fun v W W' hb ⟨bk, bY, Z, e, f0, f1, f2, f3, f4, f5⟩ => ⟨bk, bY, Z, e, f0, NewAt.after f1 hb, f2, NewAt.after f3 hb, f4, NewAt.after f5 hb⟩) (PsOk.cons (fun v W W' hb ⟨bk, bY, Z, e, f0, f1, f2, f3, f4, f5⟩ => ⟨bk, bY, Z, e, f0, NewAt.after f1 hb, f2, NewAt.after f3 hb, f4, NewAt.after f5 hb⟩) (PsOk.cons (fun v W W' hb ⟨bk, bY, Z, bS, e, f0, f1, f2, f3, f4, f5, f6, f7⟩ => ⟨bk, bY, Z, bS, e, f0, NewAt.after f1 hb, f2, NewAt.after f3 hb, f4, NewAt.after f5 hb, f6, NewAt.after f7 hb⟩) (PsOk.nil)))))))))))))))))))))
          refine QTail.drawn_rel_late 21 0 (PsR [(fun v _ => v = .pointer (some ⟨P, 0, none⟩)), (fun v _ => v = .pointer (some ⟨P, 0, none⟩)), (fun v _ => v = .pointer (some ⟨P, 0, none⟩)), (fun v _ => v = .pointer (some ⟨P, 1, none⟩)), (fun v _ => v = .slice sa n sc), (fun v _ => v = .pointer (some ⟨X, 0, none⟩)), (fun v _ => v = .pointer (some ⟨B2, 0, none⟩)), (fun v _ => v = .pointer (some ⟨B2, 0, none⟩)), (fun v _ => v = .agg #[.pointer none, .string s, .int .i32 0, .int .i32 0, .int .u8 0]), (fun v _ => v = .agg #[.int .i32 0, .int .i32 0]), (fun v _ => v = .pointer (some ⟨X, 0, none⟩)), (fun v _ => v = .pointer (some ⟨B2, 0, none⟩)), (fun v _ => v = .agg #[.pointer (some ⟨B2, 0, none⟩), .slice none 0 0, .slice none 0 0, .int .i32 0, .int .u8 0, .bool false]), (fun v W => ∃ bk : Nat, v = .slice (some ⟨bk, 0, none⟩) 1 1 ∧ W1.heap.size ≤ bk ∧ NewAt W bk #[.pointer (some ⟨B2, 0, none⟩), .slice none 0 0, .slice none 0 0, .int .i32 0, .int .u8 0, .bool false] 102), (fun v W => ∃ bk : Nat, v = .agg #[.slice (some ⟨bk, 0, none⟩) 1 1] ∧ W1.heap.size ≤ bk ∧ NewAt W bk #[.pointer (some ⟨B2, 0, none⟩), .slice none 0 0, .slice none 0 0, .int .i32 0, .int .u8 0, .bool false] 102), (fun v W => ∃ bk bY : Nat, v = .slice (some ⟨bY, 0, none⟩) 1 1 ∧ W1.heap.size ≤ bk ∧ NewAt W bk #[.pointer (some ⟨B2, 0, none⟩), .slice none 0 0, .slice none 0 0, .int .i32 0, .int .u8 0, .bool false] 102 ∧ W1.heap.size ≤ bY ∧ NewAt W bY #[.slice (some ⟨bk, 0, none⟩) 1 1] 32), (fun v W => ∃ bk bY : Nat, v = .agg #[.slice (some ⟨bY, 0, none⟩) 1 1, .string ⟨#[]⟩, .string ⟨#[]⟩, .int .u8 2] ∧ W1.heap.size ≤ bk ∧ NewAt W bk #[.pointer (some ⟨B2, 0, none⟩), .slice none 0 0, .slice none 0 0, .int .i32 0, .int .u8 0, .bool false] 102 ∧ W1.heap.size ≤ bY ∧ NewAt W bY #[.slice (some ⟨bk, 0, none⟩) 1 1] 32), (fun v W => ∃ bk bY Z : Nat, v = .pointer (some ⟨Z, 0, none⟩) ∧ W1.heap.size ≤ bk ∧ NewAt W bk #[.pointer (some ⟨B2, 0, none⟩), .slice none 0 0, .slice none 0 0, .int .i32 0, .int .u8 0, .bool false] 102 ∧ W1.heap.size ≤ bY ∧ NewAt W bY #[.slice (some ⟨bk, 0, none⟩) 1 1] 32 ∧ W1.heap.size ≤ Z ∧ NewAt W Z #[.slice (some ⟨bY, 0, none⟩) 1 1, .string ⟨#[]⟩, .string ⟨#[]⟩, .int .u8 2] 133), (fun v W => ∃ bk bY Z : Nat, v = .iface 128 (.pointer (some ⟨Z, 0, none⟩)) ∧ W1.heap.size ≤ bk ∧ NewAt W bk #[.pointer (some ⟨B2, 0, none⟩), .slice none 0 0, .slice none 0 0, .int .i32 0, .int .u8 0, .bool false] 102 ∧ W1.heap.size ≤ bY ∧ NewAt W bY #[.slice (some ⟨bk, 0, none⟩) 1 1] 32 ∧ W1.heap.size ≤ Z ∧ NewAt W Z #[.slice (some ⟨bY, 0, none⟩) 1 1, .string ⟨#[]⟩, .string ⟨#[]⟩, .int .u8 2] 133), (fun v W => ∃ bk bY Z : Nat, v = .agg #[.iface 128 (.pointer (some ⟨Z, 0, none⟩)), .int .i32 0, .int .i32 0] ∧ W1.heap.size ≤ bk ∧ NewAt W bk #[.pointer (some ⟨B2, 0, none⟩), .slice none 0 0, .slice none 0 0, .int .i32 0, .int .u8 0, .bool false] 102 ∧ W1.heap.size ≤ bY ∧ NewAt W bY #[.slice (some ⟨bk, 0, none⟩) 1 1] 32 ∧ W1.heap.size ≤ Z ∧ NewAt W Z #[.slice (some ⟨bY, 0, none⟩) 1 1, .string ⟨#[]⟩, .string ⟨#[]⟩, .int .u8 2] 133), (fun v W => ∃ bk bY Z bS : Nat, v = .slice (some ⟨bS, 0, none⟩) 1 1 ∧ W1.heap.size ≤ bk ∧ NewAt W bk #[.pointer (some ⟨B2, 0, none⟩), .slice none 0 0, .slice none 0 0, .int .i32 0, .int .u8 0, .bool false] 102 ∧ W1.heap.size ≤ bY ∧ NewAt W bY #[.slice (some ⟨bk, 0, none⟩) 1 1] 32 ∧ W1.heap.size ≤ Z ∧ NewAt W Z #[.slice (some ⟨bY, 0, none⟩) 1 1, .string ⟨#[]⟩, .string ⟨#[]⟩, .int .u8 2] 133 ∧ W1.heap.size ≤ bS ∧ NewAt W bS #[.iface 128 (.pointer (some ⟨Z, 0, none⟩)), .int .i32 0, .int .i32 0] 111)]) (by kernel_rfl) (by kernel_rfl) (by kernel_rfl) (fun i v W W' h1 h2 => PsR.after hps i v W W' h1 h2) ?_ ?_
          · clear hps
            simp only [List.take_succ_cons, List.take_zero]
            refine ⟨?_, ?_, ?_, ?_, ?_, ?_, ?_, ?_, ?_, ?_, ?_, ?_, ?_, ?_, ?_, ?_, ?_, ?_, ?_, ?_, ?_, trivial⟩
            all_goals intro vs W' hC hd
            · clear hd hC
              simp only [QTail.putA, Nat.reduceAdd, Act.put, List.setIfInBounds_toArray, List.set_cons_succ, List.set_cons_zero]
              go_wp2
              exact ⟨rfl, Below.refl _ _⟩
            · clear hd hC
              simp only [QTail.putA, Nat.reduceAdd, Act.put, List.setIfInBounds_toArray, List.set_cons_succ, List.set_cons_zero]
              go_wp2
              exact ⟨rfl, Below.refl _ _⟩
            · have e1 : vs 1 = .pointer (some ⟨P, 0, none⟩) := hd { on := 1, ground := Ground.data } (by simp) rfl
              clear hd hC
              simp only [QTail.putA, Nat.reduceAdd, Act.put, List.setIfInBounds_toArray, List.set_cons_succ, List.set_cons_zero]
              rw [e1]
              go_wp2
              exact ⟨rfl, Below.refl _ _⟩
            · have e2 : vs 2 = .pointer (some ⟨P, 0, none⟩) := hd { on := 2, ground := Ground.data } (by simp) rfl
              clear hd hC
              simp only [QTail.putA, Nat.reduceAdd, Act.put, List.setIfInBounds_toArray, List.set_cons_succ, List.set_cons_zero]
              rw [e2]
              go_wp2
              exact ⟨rfl, Below.refl _ _⟩
            · have e3 : vs 3 = .pointer (some ⟨P, 1, none⟩) := hd { on := 3, ground := Ground.data } (by simp) rfl
              replace x1 := ac hC x1
              clear hd hC
              simp only [QTail.putA, Nat.reduceAdd, Act.put, List.setIfInBounds_toArray, List.set_cons_succ, List.set_cons_zero]
              rw [e3]
              go_wp2
              exact ⟨rfl, Below.refl _ _⟩
            · clear hd hC
              simp only [QTail.putA, Nat.reduceAdd, Act.put, List.setIfInBounds_toArray, List.set_cons_succ, List.set_cons_zero]
              go_wp2
              exact ⟨rfl, Below.refl _ _⟩
            · have e5 : vs 5 = .pointer (some ⟨X, 0, none⟩) := hd { on := 5, ground := Ground.data } (by simp) rfl
              replace z0 := ac hC z0
              clear hd hC
              simp only [QTail.putA, Nat.reduceAdd, Act.put, List.setIfInBounds_toArray, List.set_cons_succ, List.set_cons_zero]
              rw [e5]
              go_wp2
              exact ⟨rfl, Below.refl _ _⟩
            · have e6 : vs 6 = .pointer (some ⟨B2, 0, none⟩) := hd { on := 6, ground := Ground.data } (by simp) rfl
              clear hd hC
              simp only [QTail.putA, Nat.reduceAdd, Act.put, List.setIfInBounds_toArray, List.set_cons_succ, List.set_cons_zero]
              rw [e6]
              go_wp2
              exact ⟨rfl, Below.refl _ _⟩
            · have e7 : vs 7 = .pointer (some ⟨B2, 0, none⟩) := hd { on := 7, ground := Ground.data } (by simp) rfl
              replace y0 := ac hC y0
              replace y1 := ac hC y1
              replace y2 := ac hC y2
              replace y3 := ac hC y3
              replace y4 := ac hC y4
              clear hd hC
              simp only [QTail.putA, Nat.reduceAdd, Act.put, List.setIfInBounds_toArray, List.set_cons_succ, List.set_cons_zero]
              rw [e7]
              go_wp2
              exact ⟨rfl, Below.refl _ _⟩
            · have e8 : vs 8 = .agg #[.pointer none, .string s, .int .i32 0, .int .i32 0, .int .u8 0] := hd { on := 8, ground := Ground.data } (by simp) rfl
              have C38 := Lib.hid (rng38_c s W')
              clear hd hC
              simp only [QTail.putA, Nat.reduceAdd, Act.put, List.setIfInBounds_toArray, List.set_cons_succ, List.set_cons_zero]
              rw [e8]
              go_wp2_with (go_at_call 38; (with_reducible refine C38.out.mono ?_); rintro e w5 ⟨rfl, tb⟩; replace tb := Lib.hid tb)
              exact ⟨rfl, tb.out⟩
            · clear hd hC
              simp only [QTail.putA, Nat.reduceAdd, Act.put, List.setIfInBounds_toArray, List.set_cons_succ, List.set_cons_zero]
              go_wp2
              exact ⟨rfl, Below.refl _ _⟩
            · have e10 : vs 10 = .pointer (some ⟨X, 0, none⟩) := hd { on := 10, ground := Ground.data } (by simp) rfl
              replace z0 := ac hC z0
              clear hd hC
              simp only [QTail.putA, Nat.reduceAdd, Act.put, List.setIfInBounds_toArray, List.set_cons_succ, List.set_cons_zero]
              rw [e10]
              go_wp2
              exact ⟨rfl, Below.refl _ _⟩
            · have e11 : vs 11 = .pointer (some ⟨B2, 0, none⟩) := hd { on := 11, ground := Ground.data } (by simp) rfl
              clear hd hC
              simp only [QTail.putA, Nat.reduceAdd, Act.put, List.setIfInBounds_toArray, List.set_cons_succ, List.set_cons_zero]
              rw [e11]
              go_wp2
              exact ⟨rfl, Below.refl _ _⟩
            · have e12 : vs 12 = .agg #[.pointer (some ⟨B2, 0, none⟩), .slice none 0 0, .slice none 0 0, .int .i32 0, .int .u8 0, .bool false] := hd { on := 12, ground := Ground.data } (by simp) rfl
              have hC' := Lib.hid hC
              clear hd hC
              simp only [QTail.putA, Nat.reduceAdd, Act.put, List.setIfInBounds_toArray, List.set_cons_succ, List.set_cons_zero]
              rw [e12]
              go_wp2
              exact ⟨⟨_, rfl, hC'.out.size, by show (W'.heap.push _)[W'.heap.size]? = _; simp⟩, ba _ _⟩
            · obtain ⟨bk, e13, q0, q1⟩ : ∃ bk : Nat, vs 13 = .slice (some ⟨bk, 0, none⟩) 1 1 ∧ W1.heap.size ≤ bk ∧ NewAt W' bk #[.pointer (some ⟨B2, 0, none⟩), .slice none 0 0, .slice none 0 0, .int .i32 0, .int .u8 0, .bool false] 102 := hd { on := 13, ground := Ground.data } (by simp) rfl
              replace q1 := q1
              have hC' := Lib.hid hC
              clear hd hC
              simp only [QTail.putA, Nat.reduceAdd, Act.put, List.setIfInBounds_toArray, List.set_cons_succ, List.set_cons_zero]
              rw [e13]
              go_wp2
              exact ⟨⟨bk, rfl, q0, q1⟩, Below.refl _ _⟩
            · obtain ⟨bk, e14, q0, q1⟩ : ∃ bk : Nat, vs 14 = .agg #[.slice (some ⟨bk, 0, none⟩) 1 1] ∧ W1.heap.size ≤ bk ∧ NewAt W' bk #[.pointer (some ⟨B2, 0, none⟩), .slice none 0 0, .slice none 0 0, .int .i32 0, .int .u8 0, .bool false] 102 := hd { on := 14, ground := Ground.data } (by simp) rfl
              replace q1 := q1
              have hC' := Lib.hid hC
              clear hd hC
              simp only [QTail.putA, Nat.reduceAdd, Act.put, List.setIfInBounds_toArray, List.set_cons_succ, List.set_cons_zero]
              rw [e14]
              go_wp2
              exact ⟨⟨bk, _, rfl, q0, NewAt.after q1 (ba _ _), hC'.out.size, by show (W'.heap.push _)[W'.heap.size]? = _; simp⟩, ba _ _⟩
            · obtain ⟨bk, bY, e15, q0, q1, q2, q3⟩ : ∃ bk bY : Nat, vs 15 = .slice (some ⟨bY, 0, none⟩) 1 1 ∧ W1.heap.size ≤ bk ∧ NewAt W' bk #[.pointer (some ⟨B2, 0, none⟩), .slice none 0 0, .slice none 0 0, .int .i32 0, .int .u8 0, .bool false] 102 ∧ W1.heap.size ≤ bY ∧ NewAt W' bY #[.slice (some ⟨bk, 0, none⟩) 1 1] 32 := hd { on := 15, ground := Ground.data } (by simp) rfl
              replace q1 := q1
              have hC' := Lib.hid hC
              clear hd hC
              simp only [QTail.putA, Nat.reduceAdd, Act.put, List.setIfInBounds_toArray, List.set_cons_succ, List.set_cons_zero]
              rw [e15]
              go_wp2
              exact ⟨⟨bk, bY, rfl, q0, q1, q2, q3⟩, Below.refl _ _⟩
            · obtain ⟨bk, bY, e16, q0, q1, q2, q3⟩ : ∃ bk bY : Nat, vs 16 = .agg #[.slice (some ⟨bY, 0, none⟩) 1 1, .string ⟨#[]⟩, .string ⟨#[]⟩, .int .u8 2] ∧ W1.heap.size ≤ bk ∧ NewAt W' bk #[.pointer (some ⟨B2, 0, none⟩), .slice none 0 0, .slice none 0 0, .int .i32 0, .int .u8 0, .bool false] 102 ∧ W1.heap.size ≤ bY ∧ NewAt W' bY #[.slice (some ⟨bk, 0, none⟩) 1 1] 32 := hd { on := 16, ground := Ground.data } (by simp) rfl
              replace q1 := q1
              have hC' := Lib.hid hC
              clear hd hC
              simp only [QTail.putA, Nat.reduceAdd, Act.put, List.setIfInBounds_toArray, List.set_cons_succ, List.set_cons_zero]
              rw [e16]
              go_wp2
              exact ⟨⟨bk, bY, _, rfl, q0, NewAt.after q1 (ba _ _), q2, NewAt.after q3 (ba _ _), hC'.out.size, by show (W'.heap.push _)[W'.heap.size]? = _; simp⟩, ba _ _⟩
            · obtain ⟨bk, bY, Z, e17, q0, q1, q2, q3, q4, q5⟩ : ∃ bk bY Z : Nat, vs 17 = .pointer (some ⟨Z, 0, none⟩) ∧ W1.heap.size ≤ bk ∧ NewAt W' bk #[.pointer (some ⟨B2, 0, none⟩), .slice none 0 0, .slice none 0 0, .int .i32 0, .int .u8 0, .bool false] 102 ∧ W1.heap.size ≤ bY ∧ NewAt W' bY #[.slice (some ⟨bk, 0, none⟩) 1 1] 32 ∧ W1.heap.size ≤ Z ∧ NewAt W' Z #[.slice (some ⟨bY, 0, none⟩) 1 1, .string ⟨#[]⟩, .string ⟨#[]⟩, .int .u8 2] 133 := hd { on := 17, ground := Ground.data } (by simp) rfl
              replace q1 := q1
              have hC' := Lib.hid hC
              clear hd hC
              simp only [QTail.putA, Nat.reduceAdd, Act.put, List.setIfInBounds_toArray, List.set_cons_succ, List.set_cons_zero]
              rw [e17]
              go_wp2
              exact ⟨⟨bk, bY, Z, rfl, q0, q1, q2, q3, q4, q5⟩, Below.refl _ _⟩
            · have e9 : vs 9 = .agg #[.int .i32 0, .int .i32 0] := hd { on := 9, ground := Ground.data } (by simp) rfl
              obtain ⟨bk, bY, Z, e18, q0, q1, q2, q3, q4, q5⟩ : ∃ bk bY Z : Nat, vs 18 = .iface 128 (.pointer (some ⟨Z, 0, none⟩)) ∧ W1.heap.size ≤ bk ∧ NewAt W' bk #[.pointer (some ⟨B2, 0, none⟩), .slice none 0 0, .slice none 0 0, .int .i32 0, .int .u8 0, .bool false] 102 ∧ W1.heap.size ≤ bY ∧ NewAt W' bY #[.slice (some ⟨bk, 0, none⟩) 1 1] 32 ∧ W1.heap.size ≤ Z ∧ NewAt W' Z #[.slice (some ⟨bY, 0, none⟩) 1 1, .string ⟨#[]⟩, .string ⟨#[]⟩, .int .u8 2] 133 := hd { on := 18, ground := Ground.data } (by simp) rfl
              replace q1 := q1
              have hC' := Lib.hid hC
              clear hd hC
              simp only [QTail.putA, Nat.reduceAdd, Act.put, List.setIfInBounds_toArray, List.set_cons_succ, List.set_cons_zero]
              rw [e9]
              rw [e18]
              go_wp2
              exact ⟨⟨bk, bY, Z, rfl, q0, q1, q2, q3, q4, q5⟩, Below.refl _ _⟩
            · obtain ⟨bk, bY, Z, e19, q0, q1, q2, q3, q4, q5⟩ : ∃ bk bY Z : Nat, vs 19 = .agg #[.iface 128 (.pointer (some ⟨Z, 0, none⟩)), .int .i32 0, .int .i32 0] ∧ W1.heap.size ≤ bk ∧ NewAt W' bk #[.pointer (some ⟨B2, 0, none⟩), .slice none 0 0, .slice none 0 0, .int .i32 0, .int .u8 0, .bool false] 102 ∧ W1.heap.size ≤ bY ∧ NewAt W' bY #[.slice (some ⟨bk, 0, none⟩) 1 1] 32 ∧ W1.heap.size ≤ Z ∧ NewAt W' Z #[.slice (some ⟨bY, 0, none⟩) 1 1, .string ⟨#[]⟩, .string ⟨#[]⟩, .int .u8 2] 133 := hd { on := 19, ground := Ground.data } (by simp) rfl
              replace q1 := q1
              have hC' := Lib.hid hC
              clear hd hC
              simp only [QTail.putA, Nat.reduceAdd, Act.put, List.setIfInBounds_toArray, List.set_cons_succ, List.set_cons_zero]
              rw [e19]
              go_wp2
              exact ⟨⟨bk, bY, Z, _, rfl, q0, NewAt.after q1 (ba _ _), q2, NewAt.after q3 (ba _ _), q4, NewAt.after q5 (ba _ _), hC'.out.size, by show (W'.heap.push _)[W'.heap.size]? = _; simp⟩, ba _ _⟩
          · clear hps
            intro QL hQL vs W3 b3 hR
            have e0 : vs 0 = .pointer (some ⟨P, 0, none⟩) := hR 0 (by omega)
            have e4 : vs 4 = .slice sa n sc := hR 4 (by omega)
            obtain ⟨bk, bY, Z, bS, e20, q0, q1, q2, q3, q4, q5, q6, q7⟩ : ∃ bk bY Z bS : Nat, vs 20 = .slice (some ⟨bS, 0, none⟩) 1 1 ∧ W1.heap.size ≤ bk ∧ NewAt W3 bk #[.pointer (some ⟨B2, 0, none⟩), .slice none 0 0, .slice none 0 0, .int .i32 0, .int .u8 0, .bool false] 102 ∧ W1.heap.size ≤ bY ∧ NewAt W3 bY #[.slice (some ⟨bk, 0, none⟩) 1 1] 32 ∧ W1.heap.size ≤ Z ∧ NewAt W3 Z #[.slice (some ⟨bY, 0, none⟩) 1 1, .string ⟨#[]⟩, .string ⟨#[]⟩, .int .u8 2] 133 ∧ W1.heap.size ≤ bS ∧ NewAt W3 bS #[.iface 128 (.pointer (some ⟨Z, 0, none⟩)), .int .i32 0, .int .i32 0] 111 := hR 20 (by omega)
            replace b3 := Lib.hid b3
            clear hR
            simp only [List.take_succ_cons, List.take_zero, List.drop_succ_cons, List.drop_zero, QTail.putA, Nat.reduceAdd, Act.put, List.setIfInBounds_toArray, List.set_cons_succ, List.set_cons_zero]
            rw [e0]
            rw [e4]
            rw [e20]
            clear e0 e4 e20
            generalize vs 1 = zz1
            generalize vs 2 = zz2
            generalize vs 3 = zz3
            generalize vs 5 = zz5
            generalize vs 6 = zz6
            generalize vs 7 = zz7
            generalize vs 8 = zz8
            generalize vs 9 = zz9
            generalize vs 10 = zz10
            generalize vs 11 = zz11
            generalize vs 12 = zz12
            generalize vs 13 = zz13
            generalize vs 14 = zz14
            generalize vs 15 = zz15
            generalize vs 16 = zz16
            generalize vs 17 = zz17
            generalize vs 18 = zz18
            generalize vs 19 = zz19
            clear vs
            have zb3 := b3.out.size
            replace q1 := Lib.hid q1; replace q3 := Lib.hid q3; replace q5 := Lib.hid q5; replace q7 := Lib.hid q7
            have hNI : Hid (NewIs W1.heap.size B2 bk bY Z W3) := Lib.hid ⟨q0, q2, q4, q1.out, q3.out, q5.out⟩
            obtain ⟨h1, h2, ls, h3, h4, h5, h6, h7⟩ := hco1.out
            replace h1 := Lib.hid h1; replace h2 := Lib.hid h2; replace h3 := Lib.hid h3; replace h4 := Lib.hid h4; replace h5 := Lib.hid h5; replace h6 := Lib.hid h6; replace h7 := Lib.hid h7
            have hO3 := Lib.hid (own_below h4.out b3.out)
            obtain ⟨_, w1, f1⟩ := rP1.out 1 (by omega)
            have w1' := ac b3.out w1
            have f1' := af b3.out w1 f1
            clear w1 f1
            have hPn : Hid (¬ Ob (.slice sa n sc) P) := Lib.hid (fun q => h5.out P q hPO.out)
            go_wp2_with (at_builtin; go_loud (refine app1g (W := W3) (.tmp 38) (.tmp 54) 97 111 0 3 24 #[.nilIface, .int .i32 0, .int .i32 0] #[.iface 128 (.pointer (some ⟨Z, 0, none⟩)), .int .i32 0, .int .i32 0] bS _ n _ rfl rfl rfl rfl q7.out Try.underlying97 info111 rfl (by omega) hO3.out rfl (by simp [Value.oneCell']) (by omega) (by omega) (by omega) ?_); intro v' W5 hO5 hkp hnew; obtain ⟨a5, c5, hu⟩ := own_head hO5; subst hu; have w2' := hkp.cell w1' hPn.out; have f2' := hkp.froz w1' f1' hPn.out; replace hO5 := Lib.hid hO5; replace hkp := Lib.hid hkp; replace hnew := Lib.hid hnew)
            go_meet
            have z35 := hkp.out.size
            obtain ⟨t1, t2, t3⟩ := put1z (w := W5) (.slice a5 (n + 1) c5) (room_kept (rP1.out.after b3.out) hkp.out hPn.out) ((sP1.out.after b3.out).keep (Kc.of_kp hkp.out (fun _ _ q => q)) hPn.out) rfl
            have hB2' : ¬ (Ob (.slice sa n sc) B2 ∨ O B2) := fun q => hB2.out (hOs.out B2 q)
            have hg1 := NewIs.g1 (O := fun b => Ob (.slice sa n sc) b ∨ O b) hNI.out (fun b q => by
              rcases q with q | q
              · exact (h4.out.lt b q).2
              · have := hOl.out b q; have := hXw.out; omega) hB2' (hsB1.out.after b3.out)
            have hst := RCo.step (nn := N) (s := ⟨128, .pointer (some ⟨Z, 0, none⟩), isK s⟩) G1.keep h1.out h2.out h3.out h4.out h5.out h6.out b3.out hg1 hO5.out hkp.out hnew.out (fun b q => by have := hOl.out b q; have := hXw.out; omega)
            rw [h7.out] at hst
            refine ⟨_, a5, c5, n + 1, t1, t2, Nat.le_refl _, hst.keep G1.keep t3 (fun b _ e => by rw [show b = P from e]; exact hPO.out) (fun _ _ q => q), ((Kp.of b3.out).trans (hkp.out.wide (fun _ q => .inr q))).trans (t3.wide (fun _ q => .inl q)), fun b q => ?_⟩
            rcases hnew.out b q with q | q
            · exact .inl q
            · right; omega
    case rest =>
      obtain ⟨tv', sa', sc', n', sP2, rP2, hn', hco2, k2, hn2'⟩ := hcut
      obtain ⟨W2, rfl⟩ : ∃ y, y = wc := ⟨_, rfl⟩
      clear x0 x1 x2 x3 x4 x5 z0 z1 z2 z3 z4 z5 f0
      replace sP2 := Lib.hid sP2; replace rP2 := Lib.hid rP2; replace hco2 := Lib.hid hco2; replace k2 := Lib.hid k2; replace hn2' := Lib.hid hn2'
      have z2w := k2.out.size
      have hOsp : Hid (∀ b, Ob (.slice sa n sc) b → b < w.heap.size) := Lib.hid (fun b q => by obtain ⟨ls, -, h4, -⟩ := hco.out.2.2; exact (h4.lt b q).2)
      have hKw2 : Hid (Kp (fun b => b = P ∨ Ob (.slice sa n sc) b) w W2) := Lib.hid ((hKw1.out.wide (fun _ q => .inl q)).trans k2.out)
      have hOsS : Hid (∀ b, b < w.heap.size → (b = P ∨ Ob (.slice sa n sc) b) → Os b) := Lib.hid (fun b _ q => by
        rcases q with q | q
        · exact hOs.out b (.inr (by rw [q]; exact hPO.out))
        · exact hOs.out b (.inl q))
      have hXn : Hid (¬ (X = P ∨ Ob (.slice sa n sc) X)) := Lib.hid (fun q => by
        rcases q with q | q
        · exact hXP.out q
        · have := hOsp.out X q; have := hXw.out; omega)
      have sX2 := Lib.hid (sX1.out.keep (Kc.of_kp k2.out (fun _ _ q => q)) hXn.out)
      have hrO2 : Hid (W2.ownsRow 0 111 3 (.slice ra m rc) m (flat SubR.cells rls)) := Lib.hid (hKw2.out.own hrO.out (fun b q e => hrOb.out b q (hOsS.out b (hrO.out.lt b q).2 e)))
      have hrG2 : Hid (∀ s ∈ rls, Gn (fun b => Os b ∨ w.heap.size ≤ b) W2 s) := Lib.hid (fun s hs => Gn.keep _ _ _ _ _ _ (hrG.out s hs) hKw2.out hOsS.out (fun b hb q => by
        rcases q with q | q
        · exact q
        · omega))
      obtain ⟨h1, h2, ls, h3, h4, h5, h6, h7⟩ := hco2.out
      replace h1 := Lib.hid h1; replace h2 := Lib.hid h2; replace h3 := Lib.hid h3; replace h4 := Lib.hid h4; replace h5 := Lib.hid h5; replace h6 := Lib.hid h6; replace h7 := Lib.hid h7
      obtain ⟨x0, x1, x2, x3, x4, x5⟩ := segs6 sP2.out
      obtain ⟨z0, z1, z2, z3, z4, z5⟩ := segs6 sX2.out
      simp only [Nat.zero_add] at x0 x1 x2 x3 x4 x5 z0 z1 z2 z3 z4 z5
      go_upto_region 7 with fail
      have hps : PsOk [(fun v _ => v = .pointer (some ⟨P, 0, none⟩)), (fun v _ => v = .pointer (some ⟨P, 0, none⟩)), (fun v _ => v = .pointer (some ⟨P, 0, none⟩)), (fun v _ => v = .pointer (some ⟨P, 1, none⟩)), (fun v _ => v = .slice sa' n' sc'), (fun v _ => v = .pointer (some ⟨X, 1, none⟩)), (fun v _ => v = .slice ra m rc)] := PsOk.eq (PsOk.eq (PsOk.eq (PsOk.eq (PsOk.eq (PsOk.eq (PsOk.eq (PsOk.nil)))))))
      refine QTail.drawn_rel_late 7 0 (PsR [(fun v _ => v = .pointer (some ⟨P, 0, none⟩)), (fun v _ => v = .pointer (some ⟨P, 0, none⟩)), (fun v _ => v = .pointer (some ⟨P, 0, none⟩)), (fun v _ => v = .pointer (some ⟨P, 1, none⟩)), (fun v _ => v = .slice sa' n' sc'), (fun v _ => v = .pointer (some ⟨X, 1, none⟩)), (fun v _ => v = .slice ra m rc)]) (by kernel_rfl) (by kernel_rfl) (by kernel_rfl) (fun i v W W' h1 h2 => PsR.after hps i v W W' h1 h2) ?_ ?_
      · clear hps
        simp only [List.take_succ_cons, List.take_zero]
        refine ⟨?_, ?_, ?_, ?_, ?_, ?_, ?_, trivial⟩
        all_goals intro vs W' hC hd
        · clear hd hC
          simp only [QTail.putA, Nat.reduceAdd, Act.put, List.setIfInBounds_toArray, List.set_cons_succ, List.set_cons_zero]
          go_wp2
          exact ⟨rfl, Below.refl _ _⟩
        · clear hd hC
          simp only [QTail.putA, Nat.reduceAdd, Act.put, List.setIfInBounds_toArray, List.set_cons_succ, List.set_cons_zero]
          go_wp2
          exact ⟨rfl, Below.refl _ _⟩
        · have e1 : vs 1 = .pointer (some ⟨P, 0, none⟩) := hd { on := 1, ground := Ground.data } (by simp) rfl
          clear hd hC
          simp only [QTail.putA, Nat.reduceAdd, Act.put, List.setIfInBounds_toArray, List.set_cons_succ, List.set_cons_zero]
          rw [e1]
          go_wp2
          exact ⟨rfl, Below.refl _ _⟩
        · have e2 : vs 2 = .pointer (some ⟨P, 0, none⟩) := hd { on := 2, ground := Ground.data } (by simp) rfl
          clear hd hC
          simp only [QTail.putA, Nat.reduceAdd, Act.put, List.setIfInBounds_toArray, List.set_cons_succ, List.set_cons_zero]
          rw [e2]
          go_wp2
          exact ⟨rfl, Below.refl _ _⟩
        · have e3 : vs 3 = .pointer (some ⟨P, 1, none⟩) := hd { on := 3, ground := Ground.data } (by simp) rfl
          replace x1 := ac hC x1
          clear hd hC
          simp only [QTail.putA, Nat.reduceAdd, Act.put, List.setIfInBounds_toArray, List.set_cons_succ, List.set_cons_zero]
          rw [e3]
          go_wp2
          exact ⟨rfl, Below.refl _ _⟩
        · clear hd hC
          simp only [QTail.putA, Nat.reduceAdd, Act.put, List.setIfInBounds_toArray, List.set_cons_succ, List.set_cons_zero]
          go_wp2
          exact ⟨rfl, Below.refl _ _⟩
        · have e5 : vs 5 = .pointer (some ⟨X, 1, none⟩) := hd { on := 5, ground := Ground.data } (by simp) rfl
          replace z1 := ac hC z1
          clear hd hC
          simp only [QTail.putA, Nat.reduceAdd, Act.put, List.setIfInBounds_toArray, List.set_cons_succ, List.set_cons_zero]
          rw [e5]
          go_wp2
          exact ⟨rfl, Below.refl _ _⟩
      · clear hps
        intro QL hQL vs W3 b3 hR
        have e0 : vs 0 = .pointer (some ⟨P, 0, none⟩) := hR 0 (by omega)
        have e4 : vs 4 = .slice sa' n' sc' := hR 4 (by omega)
        have e6 : vs 6 = .slice ra m rc := hR 6 (by omega)
        replace b3 := Lib.hid b3
        clear hR
        simp only [List.take_succ_cons, List.take_zero, List.drop_succ_cons, List.drop_zero, QTail.putA, Nat.reduceAdd, Act.put, List.setIfInBounds_toArray, List.set_cons_succ, List.set_cons_zero]
        rw [e0]
        rw [e4]
        rw [e6]
        clear e0 e4 e6
        generalize vs 1 = zz1
        generalize vs 2 = zz2
        generalize vs 3 = zz3
        generalize vs 5 = zz5
        clear vs
        have zb3 := b3.out.size
        have hO3 : Hid (W3.ownsRow 0 111 3 (.slice sa' n' sc') n' (flat SubR.cells ls)) := Lib.hid (own_below h4.out b3.out)
        have x1' := ac b3.out x1
        have f1' : W3.frozen? ⟨P, 1, none⟩ = false := by obtain ⟨_, h1, h⟩ := rP2.out 1 (by omega); exact af b3.out h1 h
        have hPn : Hid (¬ Ob (.slice sa' n' sc') P) := Lib.hid (fun q => h5.out P q hPO.out)
        have hcells := Lib.hid (fun j u (hj : (flat SubR.cells rls)[j]? = some u) => ownSeg (own_below hrO2.out b3.out) j u hj)
        go_wp2_with (at_builtin; go_loud (refine appR (.tmp 62) (.tmp 64) 97 111 0 3 24 #[.nilIface, .int .i32 0, .int .i32 0] _ n' _ ra m rc (flat SubR.cells rls) rfl rfl rfl rfl Try.underlying97 info111 rfl (by omega) hO3.out (by rw [flat_len3, hm.out]) (fun j u hj => by obtain ⟨g, e1, e2⟩ := hcells.out j u hj; injection e1 with e1; exact ⟨g, e1, e2⟩) flat_one3 (by omega) (by omega) (by omega) ?_); intro v' W5 hO5 hkp hnew; obtain ⟨a5, c5, hu⟩ := own_head hO5; subst hu; have x1'' := hkp.cell x1' hPn.out; have f1'' := hkp.froz x1' f1' hPn.out; replace hO5 := Lib.hid hO5; replace hkp := Lib.hid hkp; replace hnew := Lib.hid hnew)
        have z35 := hkp.out.size
        refine bodyPost_end (v := .tuple #[]) (by simp [results, Try.results28, go_sem]) rfl ?_
        have zz := k1.out.size
        have zy := bW.out.size
        have hk12 : Hid (Kp (fun b => b = P ∨ Ob (.slice sa n sc) b) w W5) := Lib.hid ((hKw2.out.trans (Kp.of b3.out)).trans' hkp.out (fun b q hb => by
          rcases hn2'.out b q with q | q
          · exact .inr q
          · omega))
        obtain ⟨t1, t2, t3⟩ := put1z (w := W5) (.slice a5 (n' + m) c5) (room_kept (rP2.out.after b3.out) hkp.out hPn.out) ((sP2.out.after b3.out).keep (Kc.of_kp hkp.out (fun _ _ q => q)) hPn.out) rfl
        refine hCQ.out _ (.slice a5 (n' + m) c5) _ ?_ (hk12.out.trans (t3.wide (fun _ q => .inl q))) (fun b q => ?_)
        · have hE : mergeK ⟨kcb, kty, knn, kks⟩ ⟨xcb, xty, xnn, xks⟩ = ⟨kcb, mTy kty xty, N, (kks ++ mIs kty xty) ++ (rls.map upS).map SubR.k⟩ := by
            rw [← hN.out, ← hrk.out]
            simp only [mergeK, List.map_map]
            rfl
          rw [hE]
          have hst := RCo.stepR2 (nn := N) (m := m) (ns := rls.map upS) h1.out h2.out h3.out h4.out h5.out h6.out b3.out (by rw [List.length_map]; exact hm.out) (fun s hs => by
            obtain ⟨r, hr, rfl⟩ := List.mem_map.1 hs
            exact Gn.keep _ _ (fun _ => False) _ _ r (hrG2.out r hr) (Kp.of b3.out) (fun _ _ q => q.elim) (fun b hb q => by
              rcases q with q | q
              · rcases hn2'.out b q with q | q
                · exact .inl (hOs.out b (.inl q))
                · right; omega
              · exact .inl (hOs.out b (.inr q)))) (by rw [flat_upS]; exact hO5.out) hkp.out hnew.out (fun b q => by have := hOl.out b q; omega)
          rw [h7.out] at hst
          exact ⟨tv', .slice na' N nc', n' + m, t1, t2, hPO.out, hst.keep G1.keep t3 (fun b _ e => by rw [show b = P from e]; exact hPO.out) (fun _ _ q => q)⟩
        · rcases hnew.out b q with q | q
          · rcases hn2'.out b q with q | q
            · exact .inl q
            · right; omega
          · right; omega
  · have h1' : (0 : Int) < xnn := by omega
    have hz : Hid (mNn knn xnn = xnn) := Lib.hid (by unfold mNn; rw [if_pos h2])
    have q : ((knn : Int) == 0) = true := by simp [h2]
    clear h1 h2
    go_upto_region 3 with fail
    refine wp_gen (fun W1 hW1 => ?_)
    have hFF : ∃ na' nc', Seg W1 P 0 [.pointer qo, .slice sa n sc, .slice na' (mNn knn xnn) nc', .int .i32 0, .int .u8 kcb, .bool false] ∧ Room W1 P 6 ∧ RCo G1 0 O W1 (.pointer qo) (.slice sa n sc) (.slice na' (mNn knn xnn) nc') n kty (mNn knn xnn) kks ∧ Kp (fun b => b = P) W W1 := by
      rw [hz.out]
      obtain ⟨t1, t2, t3⟩ := put2cell (w := W) (.slice rna xnn rnc) rP.out sP.out hW1
      have h5 := hcoW.out.keep G1.keep (S := fun b => b = P) (O' := O) t3 (fun b _ e => by rw [show b = P from e]; exact hPO.out) (fun _ _ q => q)
      refine ⟨rna, rnc, t1, t2, ⟨h5.1, ?_, h5.2.2⟩, t3⟩
      have h6 : NnR Os W (.slice rna xnn rnc) xnn := hrN.out.keep (S := fun _ => False) (Kp.of bW.out) (fun _ _ q => q.elim) (fun _ _ q => q)
      exact h6.keep t3 (fun b _ e => hOs.out b (.inr (by rw [show b = P from e]; exact hPO.out))) (fun b _ q => hOs.out b q)
    clear hW1 hz h1' q hcoW
    obtain ⟨na', nc', sP1, rP1, hco1, k1⟩ := hFF
    clear x0 x1 x2 x3 x4 x5 z0 z1 z2 z3 z4 z5 f2 sP rP
    replace sP1 := Lib.hid sP1; replace rP1 := Lib.hid rP1; replace hco1 := Lib.hid hco1; replace k1 := Lib.hid k1
    have z1w := k1.out.size
    have hXP : Hid (¬ X = P) := Lib.hid (by omega)
    have sX1 := Lib.hid (sX.out.keep (Kc.of_kp k1.out (fun _ _ q => q)) hXP.out)
    obtain ⟨x0, x1, x2, x3, x4, x5⟩ := segs6 sP1.out
    obtain ⟨z0, z1, z2, z3, z4, z5⟩ := segs6 sX1.out
    simp only [Nat.zero_add] at x0 x1 x2 x3 x4 x5 z0 z1 z2 z3 z4 z5
    have f0 : W1.frozen? ⟨P, 0, none⟩ = false := by obtain ⟨_, _, h⟩ := rP1.out 0 (by omega); exact h
    obtain ⟨N, hN⟩ : ∃ y, mNn knn xnn = y := ⟨_, rfl⟩
    rw [hN] at x2
    replace hN := Lib.hid hN
    have hKw1 : Hid (Kp (fun b => b = P) w W1) := Lib.hid ((Kp.of bW.out).trans k1.out)
    go_upto_if 23 with fail
    go_cut [] (fun wx => ∃ tv' sa' sc' n', Seg wx P 0 [tv', .slice sa' n' sc', .slice na' N nc', .int .i32 0, .int .u8 kcb, .bool false] ∧ Room wx P 6 ∧ n' ≤ n + 1 ∧ RCo G1 0 O wx tv' (.slice sa' n' sc') (.slice na' N nc') n' (mTy kty xty) N (kks ++ mIs kty xty) ∧ Kp (fun b => b = P ∨ Ob (.slice sa n sc) b) W1 wx ∧ (∀ b, Ob (.slice sa' n' sc') b → Ob (.slice sa n sc) b ∨ W1.heap.size ≤ b))
    case first =>
      rw [hN.out] at hco1 sP1
      cases xty with
      | none =>
        have e1 : po = none := by have := hrT.out; injection this
        subst e1
        have hT : Hid (mTy kty none = kty ∧ kks ++ mIs kty none = kks) := Lib.hid (by cases kty <;> exact ⟨rfl, by simp [mTy, mIs]⟩)
        go_wp2
        go_meet
        rw [hT.out.1, hT.out.2]
        exact ⟨_, sa, sc, n, sP1.out, rP1.out, by omega, hco1.out, Kp.refl _, fun b q => .inl q⟩
      | some s =>
        obtain ⟨B2, e1, hB2, hsB⟩ := hrT.out
        injection e1 with e1
        subst e1
        have hsB1 : Hid (Seg W1 B2 0 (tyL s)) := Lib.hid (hsB.keep (Kc.of_kp hKw1.out (fun b _ e => hOs.out b (.inr (by rw [show b = P from e]; exact hPO.out)))) hB2)
        replace hB2 := Lib.hid hB2
        clear hsB
        cases kty with
        | none =>
          have e2 : qo = none := by have := hco1.out.1; injection this
          subst e2
          go_wp2
          go_meet
          obtain ⟨t1, t2, t3⟩ := put0z (w := W1) (.pointer (some ⟨B2, 0, none⟩)) rP1.out sP1.out rfl
          have h5 := hco1.out.keep G1.keep (S := fun b => b = P) (O' := O) t3 (fun b _ e => by rw [show b = P from e]; exact hPO.out) (fun _ _ q => q)
          refine ⟨_, sa, sc, n, t1, t2, by omega, ⟨⟨B2, rfl, fun q => hB2.out (hOs.out B2 q), hsB1.out.keep (Kc.of_kp t3 (fun b _ e => e)) (fun e => hB2.out (hOs.out B2 (.inr (by rw [show B2 = P from e]; exact hPO.out))))⟩, h5.2.1, ?_⟩, t3.wide (fun _ q => .inl q), fun b q => .inl q⟩
          rw [show kks ++ mIs none (some s) = kks by simp [mIs]]
          exact h5.2.2
        | some t0 =>
          obtain ⟨B1, e2, -⟩ := hco1.out.1
          injection e2 with e2
          subst e2
          obtain ⟨y0, y1, y2, y3, y4⟩ := segs5 (show Seg W1 B2 0 [.pointer none, .string s, .int .i32 0, .int .i32 0, .int .u8 0] from hsB1.out)
          simp only [Nat.zero_add] at y0 y1 y2 y3 y4
          go_upto_region 6 with fail
          have hps : PsOk [(fun v _ => v = .pointer (some ⟨P, 0, none⟩)), (fun v _ => v = .pointer (some ⟨P, 0, none⟩)), (fun v _ => v = .pointer (some ⟨P, 0, none⟩)), (fun v _ => v = .pointer (some ⟨P, 1, none⟩)), (fun v _ => v = .slice sa n sc), (fun v _ => v = .pointer (some ⟨X, 0, none⟩)), (fun v _ => v = .pointer (some ⟨B2, 0, none⟩)), (fun v _ => v = .pointer (some ⟨B2, 0, none⟩)), (fun v _ => v = .agg #[.pointer none, .string s, .int .i32 0, .int .i32 0, .int .u8 0]), (fun v _ => v = .agg #[.int .i32 0, .int .i32 0]), (fun v _ => v = .pointer (some ⟨X, 0, none⟩)), (fun v _ => v = .pointer (some ⟨B2, 0, none⟩)), (fun v _ => v = .agg #[.pointer (some ⟨B2, 0, none⟩), .slice none 0 0, .slice none 0 0, .int .i32 0, .int .u8 0, .bool false]), (fun v W => ∃ bk : Nat, v = .slice (some ⟨bk, 0, none⟩) 1 1 ∧ W1.heap.size ≤ bk ∧ NewAt W bk #[.pointer (some ⟨B2, 0, none⟩), .slice none 0 0, .slice none 0 0, .int .i32 0, .int .u8 0, .bool false] 102), (fun v W => ∃ bk : Nat, v = .agg #[.slice (some ⟨bk, 0, none⟩) 1 1] ∧ W1.heap.size ≤ bk ∧ NewAt W bk #[.pointer (some ⟨B2, 0, none⟩), .slice none 0 0, .slice none 0 0, .int .i32 0, .int .u8 0, .bool false] 102), (fun v W => ∃ bk bY : Nat, v = .slice (some ⟨bY, 0, none⟩) 1 1 ∧ W1.heap.size ≤ bk ∧ NewAt W bk #[.pointer (some ⟨B2, 0, none⟩), .slice none 0 0, .slice none 0 0, .int .i32 0, .int .u8 0, .bool false] 102 ∧ W1.heap.size ≤ bY ∧ NewAt W bY #[.slice (some ⟨bk, 0, none⟩) 1 1] 32), (fun v W => ∃ bk bY : Nat, v = .agg #[.slice (some ⟨bY, 0, none⟩) 1 1, .string ⟨#[]⟩, .string ⟨#[]⟩, .int .u8 2] ∧ W1.heap.size ≤ bk ∧ NewAt W bk #[.pointer (some ⟨B2, 0, none⟩), .slice none 0 0, .slice none 0 0, .int .i32 0, .int .u8 0, .bool false] 102 ∧ W1.heap.size ≤ bY ∧ NewAt W bY #[.slice (some ⟨bk, 0, none⟩) 1 1] 32), (fun v W => ∃ bk bY Z : Nat, v = .pointer (some ⟨Z, 0, none⟩) ∧ W1.heap.size ≤ bk ∧ NewAt W bk #[.pointer (some ⟨B2, 0, none⟩), .slice none 0 0, .slice none 0 0, .int .i32 0, .int .u8 0, .bool false] 102 ∧ W1.heap.size ≤ bY ∧ NewAt W bY #[.slice (some ⟨bk, 0, none⟩) 1 1] 32 ∧ W1.heap.size ≤ Z ∧ NewAt W Z #[.slice (some ⟨bY, 0, none⟩) 1 1, .string ⟨#[]⟩, .string ⟨#[]⟩, .int .u8 2] 133), (fun v W => ∃ bk bY Z : Nat, v = .iface 128 (.pointer (some ⟨Z, 0, none⟩)) ∧ W1.heap.size ≤ bk ∧ NewAt W bk #[.pointer (some ⟨B2, 0, none⟩), .slice none 0 0, .slice none 0 0, .int .i32 0, .int .u8 0, .bool false] 102 ∧ W1.heap.size ≤ bY ∧ NewAt W bY #[.slice (some ⟨bk, 0, none⟩) 1 1] 32 ∧ W1.heap.size ≤ Z ∧ NewAt W Z #[.slice (some ⟨bY, 0, none⟩) 1 1, .string ⟨#[]⟩, .string ⟨#[]⟩, .int .u8 2] 133), (fun v W => ∃ bk bY Z : Nat, v = .agg #[.iface 128 (.pointer (some ⟨Z, 0, none⟩)), .int .i32 0, .int .i32 0] ∧ W1.heap.size ≤ bk ∧ NewAt W bk #[.pointer (some ⟨B2, 0, none⟩), .slice none 0 0, .slice none 0 0, .int .i32 0, .int .u8 0, .bool false] 102 ∧ W1.heap.size ≤ bY ∧ NewAt W bY #[.slice (some ⟨bk, 0, none⟩) 1 1] 32 ∧ W1.heap.size ≤ Z ∧ NewAt W Z #[.slice (some ⟨bY, 0, none⟩) 1 1, .string ⟨#[]⟩, .string ⟨#[]⟩, .int .u8 2] 133), (fun v W => ∃ bk bY Z bS : Nat, v = .slice (some ⟨bS, 0, none⟩) 1 1 ∧ W1.heap.size ≤ bk ∧ NewAt W bk #[.pointer (some ⟨B2, 0, none⟩), .slice none 0 0, .slice none 0 0, .int .i32 0, .int .u8 0, .bool false] 102 ∧ W1.heap.size ≤ bY ∧ NewAt W bY #[.slice (some ⟨bk, 0, none⟩) 1 1] 32 ∧ W1.heap.size ≤ Z ∧ NewAt W Z #[.slice (some ⟨bY, 0, none⟩) 1 1, .string ⟨#[]⟩, .string ⟨#[]⟩, .int .u8 2] 133 ∧ W1.heap.size ≤ bS ∧ NewAt W bS #[.iface 128 (.pointer (some ⟨Z, 0, none⟩)), .int .i32 0, .int .i32 0] 111)] := PsOk.eq (PsOk.eq (PsOk.eq (PsOk.eq (PsOk.eq (PsOk.eq (PsOk.eq (PsOk.eq (PsOk.eq (PsOk.eq (PsOk.eq (PsOk.eq (PsOk.eq (PsOk.cons (fun v W W' hb ⟨bk, e, f0, f1⟩ => ⟨bk, e, f0, NewAt.after f1 hb⟩) (PsOk.cons (fun v W W' hb ⟨bk, e, f0, f1⟩ => ⟨bk, e, f0, NewAt.after f1 hb⟩) (PsOk.cons (fun v W W' hb ⟨bk, bY, e, f0, f1, f2, f3⟩ => ⟨bk, bY, e, f0, NewAt.after f1 hb, f2, NewAt.after f3 hb⟩) (PsOk.cons (fun v W W' hb ⟨bk, bY, e, f0, f1, f2, f3⟩ => ⟨bk, bY, e, f0, NewAt.after f1 hb, f2, NewAt.after f3 hb⟩) (PsOk.cons (fun v W W' hb ⟨bk, bY, Z, e, f0, f1, f2, f3, f4, f5⟩ => ⟨bk, bY, Z, e, f0, NewAt.after f1 hb, f2, NewAt.after f3 hb, f4, NewAt.after f5 hb⟩) (PsOk.cons (fun v W W' hb ⟨bk, bY, Z, e, f0, f1, f2, f3, f4, f5⟩ => ⟨bk, bY, Z, e, f0, NewAt.after f1 hb, f2, NewAt.after f3 hb, f4, NewAt.after f5 hb⟩) (PsOk.cons (fun v W W' hb ⟨bk, bY, Z, e, f0, f1, f2, f3, f4, f5⟩ => ⟨bk, bY, Z, e, f0, NewAt.after f1 hb, f2, NewAt.after f3 hb, f4, NewAt.after f5 hb⟩) (PsOk.cons (fun v W W' hb ⟨bk, bY, Z, bS, e, f0, f1, f2, f3, f4, f5, f6, f7⟩ => ⟨bk, bY, Z, bS, e, f0, NewAt.after f1 hb, f2, NewAt.after f3 hb, f4, NewAt.after f5 hb, f6, NewAt.after f7 hb⟩) (PsOk.nil)))))))))))))))))))))
          refine QTail.drawn_rel_late 21 0 (PsR [(fun v _ => v = .pointer (some ⟨P, 0, none⟩)), (fun v _ => v = .pointer (some ⟨P, 0, none⟩)), (fun v _ => v = .pointer (some ⟨P, 0, none⟩)), (fun v _ => v = .pointer (some ⟨P, 1, none⟩)), (fun v _ => v = .slice sa n sc), (fun v _ => v = .pointer (some ⟨X, 0, none⟩)), (fun v _ => v = .pointer (some ⟨B2, 0, none⟩)), (fun v _ => v = .pointer (some ⟨B2, 0, none⟩)), (fun v _ => v = .agg #[.pointer none, .string s, .int .i32 0, .int .i32 0, .int .u8 0]), (fun v _ => v = .agg #[.int .i32 0, .int .i32 0]), (fun v _ => v = .pointer (some ⟨X, 0, none⟩)), (fun v _ => v = .pointer (some ⟨B2, 0, none⟩)), (fun v _ => v = .agg #[.pointer (some ⟨B2, 0, none⟩), .slice none 0 0, .slice none 0 0, .int .i32 0, .int .u8 0, .bool false]), (fun v W => ∃ bk : Nat, v = .slice (some ⟨bk, 0, none⟩) 1 1 ∧ W1.heap.size ≤ bk ∧ NewAt W bk #[.pointer (some ⟨B2, 0, none⟩), .slice none 0 0, .slice none 0 0, .int .i32 0, .int .u8 0, .bool false] 102), (fun v W => ∃ bk : Nat, v = .agg #[.slice (some ⟨bk, 0, none⟩) 1 1] ∧ W1.heap.size ≤ bk ∧ NewAt W bk #[.pointer (some ⟨B2, 0, none⟩), .slice none 0 0, .slice none 0 0, .int .i32 0, .int .u8 0, .bool false] 102), (fun v W => ∃ bk bY : Nat, v = .slice (some ⟨bY, 0, none⟩) 1 1 ∧ W1.heap.size ≤ bk ∧ NewAt W bk #[.pointer (some ⟨B2, 0, none⟩), .slice none 0 0, .slice none 0 0, .int .i32 0, .int .u8 0, .bool false] 102 ∧ W1.heap.size ≤ bY ∧ NewAt W bY #[.slice (some ⟨bk, 0, none⟩) 1 1] 32), (fun v W => ∃ bk bY : Nat, v = .agg #[.slice (some ⟨bY, 0, none⟩) 1 1, .string ⟨#[]⟩, .string ⟨#[]⟩, .int .u8 2] ∧ W1.heap.size ≤ bk ∧ NewAt W bk #[.pointer (some ⟨B2, 0, none⟩), .slice none 0 0, .slice none 0 0, .int .i32 0, .int .u8 0, .bool false] 102 ∧ W1.heap.size ≤ bY ∧ NewAt W bY #[.slice (some ⟨bk, 0, none⟩) 1 1] 32), (fun v W => ∃ bk bY Z : Nat, v = .pointer (some ⟨Z, 0, none⟩) ∧ W1.heap.size ≤ bk ∧ NewAt W bk #[.pointer (some ⟨B2, 0, none⟩), .slice none 0 0, .slice none 0 0, .int .i32 0, .int .u8 0, .bool false] 102 ∧ W1.heap.size ≤ bY ∧ NewAt W bY #[.slice (some ⟨bk, 0, none⟩) 1 1] 32 ∧ W1.heap.size ≤ Z ∧ NewAt W Z #[.slice (some ⟨bY, 0, none⟩) 1 1, .string ⟨#[]⟩, .string ⟨#[]⟩, .int .u8 2] 133), (fun v W => ∃ bk bY Z : Nat, v = .iface 128 (.pointer (some ⟨Z, 0, none⟩)) ∧ W1.heap.size ≤ bk ∧ NewAt W bk #[.pointer (some ⟨B2, 0, none⟩), .slice none 0 0, .slice none 0 0, .int .i32 0, .int .u8 0, .bool false] 102 ∧ W1.heap.size ≤ bY ∧ NewAt W bY #[.slice (some ⟨bk, 0, none⟩) 1 1] 32 ∧ W1.heap.size ≤ Z ∧ NewAt W Z #[.slice (some ⟨bY, 0, none⟩) 1 1, .string ⟨#[]⟩, .string ⟨#[]⟩, .int .u8 2] 133), (fun v W => ∃ bk bY Z : Nat, v = .agg #[.iface 128 (.pointer (some ⟨Z, 0, none⟩)), .int .i32 0, .int .i32 0] ∧ W1.heap.size ≤ bk ∧ NewAt W bk #[.pointer (some ⟨B2, 0, none⟩), .slice none 0 0, .slice none 0 0, .int .i32 0, .int .u8 0, .bool false] 102 ∧ W1.heap.size ≤ bY ∧ NewAt W bY #[.slice (some ⟨bk, 0, none⟩) 1 1] 32 ∧ W1.heap.size ≤ Z ∧ NewAt W Z #[.slice (some ⟨bY, 0, none⟩) 1 1, .string ⟨#[]⟩, .string ⟨#[]⟩, .int .u8 2] 133), (fun v W => ∃ bk bY Z bS : Nat, v = .slice (some ⟨bS, 0, none⟩) 1 1 ∧ W1.heap.size ≤ bk ∧ NewAt W bk #[.pointer (some ⟨B2, 0, none⟩), .slice none 0 0, .slice none 0 0, .int .i32 0, .int .u8 0, .bool false] 102 ∧ W1.heap.size ≤ bY ∧ NewAt W bY #[.slice (some ⟨bk, 0, none⟩) 1 1] 32 ∧ W1.heap.size ≤ Z ∧ NewAt W Z #[.slice (some ⟨bY, 0, none⟩) 1 1, .string ⟨#[]⟩, .string ⟨#[]⟩, .int .u8 2] 133 ∧ W1.heap.size ≤ bS ∧ NewAt W bS #[.iface 128 (.pointer (some ⟨Z, 0, none⟩)), .int .i32 0, .int .i32 0] 111)]) (by kernel_rfl) (by kernel_rfl) (by kernel_rfl) (fun i v W W' h1 h2 => PsR.after hps i v W W' h1 h2) ?_ ?_
          · clear hps
            simp only [List.take_succ_cons, List.take_zero]
            refine ⟨?_, ?_, ?_, ?_, ?_, ?_, ?_, ?_, ?_, ?_, ?_, ?_, ?_, ?_, ?_, ?_, ?_, ?_, ?_, ?_, ?_, trivial⟩
            all_goals intro vs W' hC hd
            · clear hd hC
              simp only [QTail.putA, Nat.reduceAdd, Act.put, List.setIfInBounds_toArray, List.set_cons_succ, List.set_cons_zero]
              go_wp2
              exact ⟨rfl, Below.refl _ _⟩
            · clear hd hC
              simp only [QTail.putA, Nat.reduceAdd, Act.put, List.setIfInBounds_toArray, List.set_cons_succ, List.set_cons_zero]
              go_wp2
              exact ⟨rfl, Below.refl _ _⟩
            · have e1 : vs 1 = .pointer (some ⟨P, 0, none⟩) := hd { on := 1, ground := Ground.data } (by simp) rfl
              clear hd hC
              simp only [QTail.putA, Nat.reduceAdd, Act.put, List.setIfInBounds_toArray, List.set_cons_succ, List.set_cons_zero]
              rw [e1]
              go_wp2
              exact ⟨rfl, Below.refl _ _⟩
            · have e2 : vs 2 = .pointer (some ⟨P, 0, none⟩) := hd { on := 2, ground := Ground.data } (by simp) rfl
              clear hd hC
              simp only [QTail.putA, Nat.reduceAdd, Act.put, List.setIfInBounds_toArray, List.set_cons_succ, List.set_cons_zero]
              rw [e2]
              go_wp2
              exact ⟨rfl, Below.refl _ _⟩
            · have e3 : vs 3 = .pointer (some ⟨P, 1, none⟩) := hd { on := 3, ground := Ground.data } (by simp) rfl
              replace x1 := ac hC x1
              clear hd hC
              simp only [QTail.putA, Nat.reduceAdd, Act.put, List.setIfInBounds_toArray, List.set_cons_succ, List.set_cons_zero]
              rw [e3]
              go_wp2
              exact ⟨rfl, Below.refl _ _⟩
            · clear hd hC
              simp only [QTail.putA, Nat.reduceAdd, Act.put, List.setIfInBounds_toArray, List.set_cons_succ, List.set_cons_zero]
              go_wp2
              exact ⟨rfl, Below.refl _ _⟩
            · have e5 : vs 5 = .pointer (some ⟨X, 0, none⟩) := hd { on := 5, ground := Ground.data } (by simp) rfl
              replace z0 := ac hC z0
              clear hd hC
              simp only [QTail.putA, Nat.reduceAdd, Act.put, List.setIfInBounds_toArray, List.set_cons_succ, List.set_cons_zero]
              rw [e5]
              go_wp2
              exact ⟨rfl, Below.refl _ _⟩
            · have e6 : vs 6 = .pointer (some ⟨B2, 0, none⟩) := hd { on := 6, ground := Ground.data } (by simp) rfl
              clear hd hC
              simp only [QTail.putA, Nat.reduceAdd, Act.put, List.setIfInBounds_toArray, List.set_cons_succ, List.set_cons_zero]
              rw [e6]
              go_wp2
              exact ⟨rfl, Below.refl _ _⟩
            · have e7 : vs 7 = .pointer (some ⟨B2, 0, none⟩) := hd { on := 7, ground := Ground.data } (by simp) rfl
              replace y0 := ac hC y0
              replace y1 := ac hC y1
              replace y2 := ac hC y2
              replace y3 := ac hC y3
              replace y4 := ac hC y4
              clear hd hC
              simp only [QTail.putA, Nat.reduceAdd, Act.put, List.setIfInBounds_toArray, List.set_cons_succ, List.set_cons_zero]
              rw [e7]
              go_wp2
              exact ⟨rfl, Below.refl _ _⟩
            · have e8 : vs 8 = .agg #[.pointer none, .string s, .int .i32 0, .int .i32 0, .int .u8 0] := hd { on := 8, ground := Ground.data } (by simp) rfl
              have C38 := Lib.hid (rng38_c s W')
              clear hd hC
              simp only [QTail.putA, Nat.reduceAdd, Act.put, List.setIfInBounds_toArray, List.set_cons_succ, List.set_cons_zero]
              rw [e8]
              go_wp2_with (go_at_call 38; (with_reducible refine C38.out.mono ?_); rintro e w5 ⟨rfl, tb⟩; replace tb := Lib.hid tb)
              exact ⟨rfl, tb.out⟩
            · clear hd hC
              simp only [QTail.putA, Nat.reduceAdd, Act.put, List.setIfInBounds_toArray, List.set_cons_succ, List.set_cons_zero]
              go_wp2
              exact ⟨rfl, Below.refl _ _⟩
            · have e10 : vs 10 = .pointer (some ⟨X, 0, none⟩) := hd { on := 10, ground := Ground.data } (by simp) rfl
              replace z0 := ac hC z0
              clear hd hC
              simp only [QTail.putA, Nat.reduceAdd, Act.put, List.setIfInBounds_toArray, List.set_cons_succ, List.set_cons_zero]
              rw [e10]
              go_wp2
              exact ⟨rfl, Below.refl _ _⟩
            · have e11 : vs 11 = .pointer (some ⟨B2, 0, none⟩) := hd { on := 11, ground := Ground.data } (by simp) rfl
              clear hd hC
              simp only [QTail.putA, Nat.reduceAdd, Act.put, List.setIfInBounds_toArray, List.set_cons_succ, List.set_cons_zero]
              rw [e11]
              go_wp2
              exact ⟨rfl, Below.refl _ _⟩
            · have e12 : vs 12 = .agg #[.pointer (some ⟨B2, 0, none⟩), .slice none 0 0, .slice none 0 0, .int .i32 0, .int .u8 0, .bool false] := hd { on := 12, ground := Ground.data } (by simp) rfl
              have hC' := Lib.hid hC
              clear hd hC
              simp only [QTail.putA, Nat.reduceAdd, Act.put, List.setIfInBounds_toArray, List.set_cons_succ, List.set_cons_zero]
              rw [e12]
              go_wp2
              exact ⟨⟨_, rfl, hC'.out.size, by show (W'.heap.push _)[W'.heap.size]? = _; simp⟩, ba _ _⟩
            · obtain ⟨bk, e13, q0, q1⟩ : ∃ bk : Nat, vs 13 = .slice (some ⟨bk, 0, none⟩) 1 1 ∧ W1.heap.size ≤ bk ∧ NewAt W' bk #[.pointer (some ⟨B2, 0, none⟩), .slice none 0 0, .slice none 0 0, .int .i32 0, .int .u8 0, .bool false] 102 := hd { on := 13, ground := Ground.data } (by simp) rfl
              replace q1 := q1
              have hC' := Lib.hid hC
              clear hd hC
              simp only [QTail.putA, Nat.reduceAdd, Act.put, List.setIfInBounds_toArray, List.set_cons_succ, List.set_cons_zero]
              rw [e13]
              go_wp2
              exact ⟨⟨bk, rfl, q0, q1⟩, Below.refl _ _⟩
            · obtain ⟨bk, e14, q0, q1⟩ : ∃ bk : Nat, vs 14 = .agg #[.slice (some ⟨bk, 0, none⟩) 1 1] ∧ W1.heap.size ≤ bk ∧ NewAt W' bk #[.pointer (some ⟨B2, 0, none⟩), .slice none 0 0, .slice none 0 0, .int .i32 0, .int .u8 0, .bool false] 102 := hd { on := 14, ground := Ground.data } (by simp) rfl
              replace q1 := q1
              have hC' := Lib.hid hC
              clear hd hC
              simp only [QTail.putA, Nat.reduceAdd, Act.put, List.setIfInBounds_toArray, List.set_cons_succ, List.set_cons_zero]
              rw [e14]
              go_wp2
              exact ⟨⟨bk, _, rfl, q0, NewAt.after q1 (ba _ _), hC'.out.size, by show (W'.heap.push _)[W'.heap.size]? = _; simp⟩, ba _ _⟩
            · obtain ⟨bk, bY, e15, q0, q1, q2, q3⟩ : ∃ bk bY : Nat, vs 15 = .slice (some ⟨bY, 0, none⟩) 1 1 ∧ W1.heap.size ≤ bk ∧ NewAt W' bk #[.pointer (some ⟨B2, 0, none⟩), .slice none 0 0, .slice none 0 0, .int .i32 0, .int .u8 0, .bool false] 102 ∧ W1.heap.size ≤ bY ∧ NewAt W' bY #[.slice (some ⟨bk, 0, none⟩) 1 1] 32 := hd { on := 15, ground := Ground.data } (by simp) rfl
              replace q1 := q1
              have hC' := Lib.hid hC
              clear hd hC
              simp only [QTail.putA, Nat.reduceAdd, Act.put, List.setIfInBounds_toArray, List.set_cons_succ, List.set_cons_zero]
              rw [e15]
              go_wp2
              exact ⟨⟨bk, bY, rfl, q0, q1, q2, q3⟩, Below.refl _ _⟩
            · obtain ⟨bk, bY, e16, q0, q1, q2, q3⟩ : ∃ bk bY : Nat, vs 16 = .agg #[.slice (some ⟨bY, 0, none⟩) 1 1, .string ⟨#[]⟩, .string ⟨#[]⟩, .int .u8 2] ∧ W1.heap.size ≤ bk ∧ NewAt W' bk #[.pointer (some ⟨B2, 0, none⟩), .slice none 0 0, .slice none 0 0, .int .i32 0, .int .u8 0, .bool false] 102 ∧ W1.heap.size ≤ bY ∧ NewAt W' bY #[.slice (some ⟨bk, 0, none⟩) 1 1] 32 := hd { on := 16, ground := Ground.data } (by simp) rfl
              replace q1 := q1
              have hC' := Lib.hid hC
              clear hd hC
              simp only [QTail.putA, Nat.reduceAdd, Act.put, List.setIfInBounds_toArray, List.set_cons_succ, List.set_cons_zero]
              rw [e16]
              go_wp2
              exact ⟨⟨bk, bY, _, rfl, q0, NewAt.after q1 (ba _ _), q2, NewAt.after q3 (ba _ _), hC'.out.size, by show (W'.heap.push _)[W'.heap.size]? = _; simp⟩, ba _ _⟩
            · obtain ⟨bk, bY, Z, e17, q0, q1, q2, q3, q4, q5⟩ : ∃ bk bY Z : Nat, vs 17 = .pointer (some ⟨Z, 0, none⟩) ∧ W1.heap.size ≤ bk ∧ NewAt W' bk #[.pointer (some ⟨B2, 0, none⟩), .slice none 0 0, .slice none 0 0, .int .i32 0, .int .u8 0, .bool false] 102 ∧ W1.heap.size ≤ bY ∧ NewAt W' bY #[.slice (some ⟨bk, 0, none⟩) 1 1] 32 ∧ W1.heap.size ≤ Z ∧ NewAt W' Z #[.slice (some ⟨bY, 0, none⟩) 1 1, .string ⟨#[]⟩, .string ⟨#[]⟩, .int .u8 2] 133 := hd { on := 17, ground := Ground.data } (by simp) rfl
              replace q1 := q1
              have hC' := Lib.hid hC
              clear hd hC
              simp only [QTail.putA, Nat.reduceAdd, Act.put, List.setIfInBounds_toArray, List.set_cons_succ, List.set_cons_zero]
              rw [e17]
              go_wp2
              exact ⟨⟨bk, bY, Z, rfl, q0, q1, q2, q3, q4, q5⟩, Below.refl _ _⟩
            · have e9 : vs 9 = .agg #[.int .i32 0, .int .i32 0] := hd { on := 9, ground := Ground.data } (by simp) rfl
              obtain ⟨bk, bY, Z, e18, q0, q1, q2, q3, q4, q5⟩ : ∃ bk bY Z : Nat, vs 18 = .iface 128 (.pointer (some ⟨Z, 0, none⟩)) ∧ W1.heap.size ≤ bk ∧ NewAt W' bk #[.pointer (some ⟨B2, 0, none⟩), .slice none 0 0, .slice none 0 0, .int .i32 0, .int .u8 0, .bool false] 102 ∧ W1.heap.size ≤ bY ∧ NewAt W' bY #[.slice (some ⟨bk, 0, none⟩) 1 1] 32 ∧ W1.heap.size ≤ Z ∧ NewAt W' Z #[.slice (some ⟨bY, 0, none⟩) 1 1, .string ⟨#[]⟩, .string ⟨#[]⟩, .int .u8 2] 133 := hd { on := 18, ground := Ground.data } (by simp) rfl
              replace q1 := q1
              have hC' := Lib.hid hC
              clear hd hC
              simp only [QTail.putA, Nat.reduceAdd, Act.put, List.setIfInBounds_toArray, List.set_cons_succ, List.set_cons_zero]
              rw [e9]
              rw [e18]
              go_wp2
              exact ⟨⟨bk, bY, Z, rfl, q0, q1, q2, q3, q4, q5⟩, Below.refl _ _⟩
            · obtain ⟨bk, bY, Z, e19, q0, q1, q2, q3, q4, q5⟩ : ∃ bk bY Z : Nat, vs 19 = .agg #[.iface 128 (.pointer (some ⟨Z, 0, none⟩)), .int .i32 0, .int .i32 0] ∧ W1.heap.size ≤ bk ∧ NewAt W' bk #[.pointer (some ⟨B2, 0, none⟩), .slice none 0 0, .slice none 0 0, .int .i32 0, .int .u8 0, .bool false] 102 ∧ W1.heap.size ≤ bY ∧ NewAt W' bY #[.slice (some ⟨bk, 0, none⟩) 1 1] 32 ∧ W1.heap.size ≤ Z ∧ NewAt W' Z #[.slice (some ⟨bY, 0, none⟩) 1 1, .string ⟨#[]⟩, .string ⟨#[]⟩, .int .u8 2] 133 := hd { on := 19, ground := Ground.data } (by simp) rfl
              replace q1 := q1
              have hC' := Lib.hid hC
              clear hd hC
              simp only [QTail.putA, Nat.reduceAdd, Act.put, List.setIfInBounds_toArray, List.set_cons_succ, List.set_cons_zero]
              rw [e19]
              go_wp2
              exact ⟨⟨bk, bY, Z, _, rfl, q0, NewAt.after q1 (ba _ _), q2, NewAt.after q3 (ba _ _), q4, NewAt.after q5 (ba _ _), hC'.out.size, by show (W'.heap.push _)[W'.heap.size]? = _; simp⟩, ba _ _⟩
          · clear hps
            intro QL hQL vs W3 b3 hR
            have e0 : vs 0 = .pointer (some ⟨P, 0, none⟩) := hR 0 (by omega)
            have e4 : vs 4 = .slice sa n sc := hR 4 (by omega)
            obtain ⟨bk, bY, Z, bS, e20, q0, q1, q2, q3, q4, q5, q6, q7⟩ : ∃ bk bY Z bS : Nat, vs 20 = .slice (some ⟨bS, 0, none⟩) 1 1 ∧ W1.heap.size ≤ bk ∧ NewAt W3 bk #[.pointer (some ⟨B2, 0, none⟩), .slice none 0 0, .slice none 0 0, .int .i32 0, .int .u8 0, .bool false] 102 ∧ W1.heap.size ≤ bY ∧ NewAt W3 bY #[.slice (some ⟨bk, 0, none⟩) 1 1] 32 ∧ W1.heap.size ≤ Z ∧ NewAt W3 Z #[.slice (some ⟨bY, 0, none⟩) 1 1, .string ⟨#[]⟩, .string ⟨#[]⟩, .int .u8 2] 133 ∧ W1.heap.size ≤ bS ∧ NewAt W3 bS #[.iface 128 (.pointer (some ⟨Z, 0, none⟩)), .int .i32 0, .int .i32 0] 111 := hR 20 (by omega)
            replace b3 := Lib.hid b3
            clear hR
            simp only [List.take_succ_cons, List.take_zero, List.drop_succ_cons, List.drop_zero, QTail.putA, Nat.reduceAdd, Act.put, List.setIfInBounds_toArray, List.set_cons_succ, List.set_cons_zero]
            rw [e0]
            rw [e4]
            rw [e20]
            clear e0 e4 e20
            generalize vs 1 = zz1
            generalize vs 2 = zz2
            generalize vs 3 = zz3
            generalize vs 5 = zz5
            generalize vs 6 = zz6
            generalize vs 7 = zz7
            generalize vs 8 = zz8
            generalize vs 9 = zz9
            generalize vs 10 = zz10
            generalize vs 11 = zz11
            generalize vs 12 = zz12
            generalize vs 13 = zz13
            generalize vs 14 = zz14
            generalize vs 15 = zz15
            generalize vs 16 = zz16
            generalize vs 17 = zz17
            generalize vs 18 = zz18
            generalize vs 19 = zz19
            clear vs
            have zb3 := b3.out.size
            replace q1 := Lib.hid q1; replace q3 := Lib.hid q3; replace q5 := Lib.hid q5; replace q7 := Lib.hid q7
            have hNI : Hid (NewIs W1.heap.size B2 bk bY Z W3) := Lib.hid ⟨q0, q2, q4, q1.out, q3.out, q5.out⟩
            obtain ⟨h1, h2, ls, h3, h4, h5, h6, h7⟩ := hco1.out
            replace h1 := Lib.hid h1; replace h2 := Lib.hid h2; replace h3 := Lib.hid h3; replace h4 := Lib.hid h4; replace h5 := Lib.hid h5; replace h6 := Lib.hid h6; replace h7 := Lib.hid h7
            have hO3 := Lib.hid (own_below h4.out b3.out)
            obtain ⟨_, w1, f1⟩ := rP1.out 1 (by omega)
            have w1' := ac b3.out w1
            have f1' := af b3.out w1 f1
            clear w1 f1
            have hPn : Hid (¬ Ob (.slice sa n sc) P) := Lib.hid (fun q => h5.out P q hPO.out)
            go_wp2_with (at_builtin; go_loud (refine app1g (W := W3) (.tmp 38) (.tmp 54) 97 111 0 3 24 #[.nilIface, .int .i32 0, .int .i32 0] #[.iface 128 (.pointer (some ⟨Z, 0, none⟩)), .int .i32 0, .int .i32 0] bS _ n _ rfl rfl rfl rfl q7.out Try.underlying97 info111 rfl (by omega) hO3.out rfl (by simp [Value.oneCell']) (by omega) (by omega) (by omega) ?_); intro v' W5 hO5 hkp hnew; obtain ⟨a5, c5, hu⟩ := own_head hO5; subst hu; have w2' := hkp.cell w1' hPn.out; have f2' := hkp.froz w1' f1' hPn.out; replace hO5 := Lib.hid hO5; replace hkp := Lib.hid hkp; replace hnew := Lib.hid hnew)
            go_meet
            have z35 := hkp.out.size
            obtain ⟨t1, t2, t3⟩ := put1z (w := W5) (.slice a5 (n + 1) c5) (room_kept (rP1.out.after b3.out) hkp.out hPn.out) ((sP1.out.after b3.out).keep (Kc.of_kp hkp.out (fun _ _ q => q)) hPn.out) rfl
            have hB2' : ¬ (Ob (.slice sa n sc) B2 ∨ O B2) := fun q => hB2.out (hOs.out B2 q)
            have hg1 := NewIs.g1 (O := fun b => Ob (.slice sa n sc) b ∨ O b) hNI.out (fun b q => by
              rcases q with q | q
              · exact (h4.out.lt b q).2
              · have := hOl.out b q; have := hXw.out; omega) hB2' (hsB1.out.after b3.out)
            have hst := RCo.step (nn := N) (s := ⟨128, .pointer (some ⟨Z, 0, none⟩), isK s⟩) G1.keep h1.out h2.out h3.out h4.out h5.out h6.out b3.out hg1 hO5.out hkp.out hnew.out (fun b q => by have := hOl.out b q; have := hXw.out; omega)
            rw [h7.out] at hst
            refine ⟨_, a5, c5, n + 1, t1, t2, Nat.le_refl _, hst.keep G1.keep t3 (fun b _ e => by rw [show b = P from e]; exact hPO.out) (fun _ _ q => q), ((Kp.of b3.out).trans (hkp.out.wide (fun _ q => .inr q))).trans (t3.wide (fun _ q => .inl q)), fun b q => ?_⟩
            rcases hnew.out b q with q | q
            · exact .inl q
            · right; omega
    case rest =>
      obtain ⟨tv', sa', sc', n', sP2, rP2, hn', hco2, k2, hn2'⟩ := hcut
      obtain ⟨W2, rfl⟩ : ∃ y, y = wc := ⟨_, rfl⟩
      clear x0 x1 x2 x3 x4 x5 z0 z1 z2 z3 z4 z5 f0
      replace sP2 := Lib.hid sP2; replace rP2 := Lib.hid rP2; replace hco2 := Lib.hid hco2; replace k2 := Lib.hid k2; replace hn2' := Lib.hid hn2'
      have z2w := k2.out.size
      have hOsp : Hid (∀ b, Ob (.slice sa n sc) b → b < w.heap.size) := Lib.hid (fun b q => by obtain ⟨ls, -, h4, -⟩ := hco.out.2.2; exact (h4.lt b q).2)
      have hKw2 : Hid (Kp (fun b => b = P ∨ Ob (.slice sa n sc) b) w W2) := Lib.hid ((hKw1.out.wide (fun _ q => .inl q)).trans k2.out)
      have hOsS : Hid (∀ b, b < w.heap.size → (b = P ∨ Ob (.slice sa n sc) b) → Os b) := Lib.hid (fun b _ q => by
        rcases q with q | q
        · exact hOs.out b (.inr (by rw [q]; exact hPO.out))
        · exact hOs.out b (.inl q))
      have hXn : Hid (¬ (X = P ∨ Ob (.slice sa n sc) X)) := Lib.hid (fun q => by
        rcases q with q | q
        · exact hXP.out q
        · have := hOsp.out X q; have := hXw.out; omega)
      have sX2 := Lib.hid (sX1.out.keep (Kc.of_kp k2.out (fun _ _ q => q)) hXn.out)
      have hrO2 : Hid (W2.ownsRow 0 111 3 (.slice ra m rc) m (flat SubR.cells rls)) := Lib.hid (hKw2.out.own hrO.out (fun b q e => hrOb.out b q (hOsS.out b (hrO.out.lt b q).2 e)))
      have hrG2 : Hid (∀ s ∈ rls, Gn (fun b => Os b ∨ w.heap.size ≤ b) W2 s) := Lib.hid (fun s hs => Gn.keep _ _ _ _ _ _ (hrG.out s hs) hKw2.out hOsS.out (fun b hb q => by
        rcases q with q | q
        · exact q
        · omega))
      obtain ⟨h1, h2, ls, h3, h4, h5, h6, h7⟩ := hco2.out
      replace h1 := Lib.hid h1; replace h2 := Lib.hid h2; replace h3 := Lib.hid h3; replace h4 := Lib.hid h4; replace h5 := Lib.hid h5; replace h6 := Lib.hid h6; replace h7 := Lib.hid h7
      obtain ⟨x0, x1, x2, x3, x4, x5⟩ := segs6 sP2.out
      obtain ⟨z0, z1, z2, z3, z4, z5⟩ := segs6 sX2.out
      simp only [Nat.zero_add] at x0 x1 x2 x3 x4 x5 z0 z1 z2 z3 z4 z5
      go_upto_region 7 with fail
      have hps : PsOk [(fun v _ => v = .pointer (some ⟨P, 0, none⟩)), (fun v _ => v = .pointer (some ⟨P, 0, none⟩)), (fun v _ => v = .pointer (some ⟨P, 0, none⟩)), (fun v _ => v = .pointer (some ⟨P, 1, none⟩)), (fun v _ => v = .slice sa' n' sc'), (fun v _ => v = .pointer (some ⟨X, 1, none⟩)), (fun v _ => v = .slice ra m rc)] := PsOk.eq (PsOk.eq (PsOk.eq (PsOk.eq (PsOk.eq (PsOk.eq (PsOk.eq (PsOk.nil)))))))
      refine QTail.drawn_rel_late 7 0 (PsR [(fun v _ => v = .pointer (some ⟨P, 0, none⟩)), (fun v _ => v = .pointer (some ⟨P, 0, none⟩)), (fun v _ => v = .pointer (some ⟨P, 0, none⟩)), (fun v _ => v = .pointer (some ⟨P, 1, none⟩)), (fun v _ => v = .slice sa' n' sc'), (fun v _ => v = .pointer (some ⟨X, 1, none⟩)), (fun v _ => v = .slice ra m rc)]) (by kernel_rfl) (by kernel_rfl) (by kernel_rfl) (fun i v W W' h1 h2 => PsR.after hps i v W W' h1 h2) ?_ ?_
      · clear hps
        simp only [List.take_succ_cons, List.take_zero]
        refine ⟨?_, ?_, ?_, ?_, ?_, ?_, ?_, trivial⟩
        all_goals intro vs W' hC hd
        · clear hd hC
          simp only [QTail.putA, Nat.reduceAdd, Act.put, List.setIfInBounds_toArray, List.set_cons_succ, List.set_cons_zero]
          go_wp2
          exact ⟨rfl, Below.refl _ _⟩
        · clear hd hC
          simp only [QTail.putA, Nat.reduceAdd, Act.put, List.setIfInBounds_toArray, List.set_cons_succ, List.set_cons_zero]
          go_wp2
          exact ⟨rfl, Below.refl _ _⟩
        · have e1 : vs 1 = .pointer (some ⟨P, 0, none⟩) := hd { on := 1, ground := Ground.data } (by simp) rfl
          clear hd hC
          simp only [QTail.putA, Nat.reduceAdd, Act.put, List.setIfInBounds_toArray, List.set_cons_succ, List.set_cons_zero]
          rw [e1]
          go_wp2
          exact ⟨rfl, Below.refl _ _⟩
        · have e2 : vs 2 = .pointer (some ⟨P, 0, none⟩) := hd { on := 2, ground := Ground.data } (by simp) rfl
          clear hd hC
          simp only [QTail.putA, Nat.reduceAdd, Act.put, List.setIfInBounds_toArray, List.set_cons_succ, List.set_cons_zero]
          rw [e2]
          go_wp2
          exact ⟨rfl, Below.refl _ _⟩
        · have e3 : vs 3 = .pointer (some ⟨P, 1, none⟩) := hd { on := 3, ground := Ground.data } (by simp) rfl
          replace x1 := ac hC x1
          clear hd hC
          simp only [QTail.putA, Nat.reduceAdd, Act.put, List.setIfInBounds_toArray, List.set_cons_succ, List.set_cons_zero]
          rw [e3]
          go_wp2
          exact ⟨rfl, Below.refl _ _⟩
        · clear hd hC
          simp only [QTail.putA, Nat.reduceAdd, Act.put, List.setIfInBounds_toArray, List.set_cons_succ, List.set_cons_zero]
          go_wp2
          exact ⟨rfl, Below.refl _ _⟩
        · have e5 : vs 5 = .pointer (some ⟨X, 1, none⟩) := hd { on := 5, ground := Ground.data } (by simp) rfl
          replace z1 := ac hC z1
          clear hd hC
          simp only [QTail.putA, Nat.reduceAdd, Act.put, List.setIfInBounds_toArray, List.set_cons_succ, List.set_cons_zero]
          rw [e5]
          go_wp2
          exact ⟨rfl, Below.refl _ _⟩
      · clear hps
        intro QL hQL vs W3 b3 hR
        have e0 : vs 0 = .pointer (some ⟨P, 0, none⟩) := hR 0 (by omega)
        have e4 : vs 4 = .slice sa' n' sc' := hR 4 (by omega)
        have e6 : vs 6 = .slice ra m rc := hR 6 (by omega)
        replace b3 := Lib.hid b3
        clear hR
        simp only [List.take_succ_cons, List.take_zero, List.drop_succ_cons, List.drop_zero, QTail.putA, Nat.reduceAdd, Act.put, List.setIfInBounds_toArray, List.set_cons_succ, List.set_cons_zero]
        rw [e0]
        rw [e4]
        rw [e6]
        clear e0 e4 e6
        generalize vs 1 = zz1
        generalize vs 2 = zz2
        generalize vs 3 = zz3
        generalize vs 5 = zz5
        clear vs
        have zb3 := b3.out.size
        have hO3 : Hid (W3.ownsRow 0 111 3 (.slice sa' n' sc') n' (flat SubR.cells ls)) := Lib.hid (own_below h4.out b3.out)
        have x1' := ac b3.out x1
        have f1' : W3.frozen? ⟨P, 1, none⟩ = false := by obtain ⟨_, h1, h⟩ := rP2.out 1 (by omega); exact af b3.out h1 h
        have hPn : Hid (¬ Ob (.slice sa' n' sc') P) := Lib.hid (fun q => h5.out P q hPO.out)
        have hcells := Lib.hid (fun j u (hj : (flat SubR.cells rls)[j]? = some u) => ownSeg (own_below hrO2.out b3.out) j u hj)
        go_wp2_with (at_builtin; go_loud (refine appR (.tmp 62) (.tmp 64) 97 111 0 3 24 #[.nilIface, .int .i32 0, .int .i32 0] _ n' _ ra m rc (flat SubR.cells rls) rfl rfl rfl rfl Try.underlying97 info111 rfl (by omega) hO3.out (by rw [flat_len3, hm.out]) (fun j u hj => by obtain ⟨g, e1, e2⟩ := hcells.out j u hj; injection e1 with e1; exact ⟨g, e1, e2⟩) flat_one3 (by omega) (by omega) (by omega) ?_); intro v' W5 hO5 hkp hnew; obtain ⟨a5, c5, hu⟩ := own_head hO5; subst hu; have x1'' := hkp.cell x1' hPn.out; have f1'' := hkp.froz x1' f1' hPn.out; replace hO5 := Lib.hid hO5; replace hkp := Lib.hid hkp; replace hnew := Lib.hid hnew)
        have z35 := hkp.out.size
        refine bodyPost_end (v := .tuple #[]) (by simp [results, Try.results28, go_sem]) rfl ?_
        have zz := k1.out.size
        have zy := bW.out.size
        have hk12 : Hid (Kp (fun b => b = P ∨ Ob (.slice sa n sc) b) w W5) := Lib.hid ((hKw2.out.trans (Kp.of b3.out)).trans' hkp.out (fun b q hb => by
          rcases hn2'.out b q with q | q
          · exact .inr q
          · omega))
        obtain ⟨t1, t2, t3⟩ := put1z (w := W5) (.slice a5 (n' + m) c5) (room_kept (rP2.out.after b3.out) hkp.out hPn.out) ((sP2.out.after b3.out).keep (Kc.of_kp hkp.out (fun _ _ q => q)) hPn.out) rfl
        refine hCQ.out _ (.slice a5 (n' + m) c5) _ ?_ (hk12.out.trans (t3.wide (fun _ q => .inl q))) (fun b q => ?_)
        · have hE : mergeK ⟨kcb, kty, knn, kks⟩ ⟨xcb, xty, xnn, xks⟩ = ⟨kcb, mTy kty xty, N, (kks ++ mIs kty xty) ++ (rls.map upS).map SubR.k⟩ := by
            rw [← hN.out, ← hrk.out]
            simp only [mergeK, List.map_map]
            rfl
          rw [hE]
          have hst := RCo.stepR2 (nn := N) (m := m) (ns := rls.map upS) h1.out h2.out h3.out h4.out h5.out h6.out b3.out (by rw [List.length_map]; exact hm.out) (fun s hs => by
            obtain ⟨r, hr, rfl⟩ := List.mem_map.1 hs
            exact Gn.keep _ _ (fun _ => False) _ _ r (hrG2.out r hr) (Kp.of b3.out) (fun _ _ q => q.elim) (fun b hb q => by
              rcases q with q | q
              · rcases hn2'.out b q with q | q
                · exact .inl (hOs.out b (.inl q))
                · right; omega
              · exact .inl (hOs.out b (.inr q)))) (by rw [flat_upS]; exact hO5.out) hkp.out hnew.out (fun b q => by have := hOl.out b q; omega)
          rw [h7.out] at hst
          exact ⟨tv', .slice na' N nc', n' + m, t1, t2, hPO.out, hst.keep G1.keep t3 (fun b _ e => by rw [show b = P from e]; exact hPO.out) (fun _ _ q => q)⟩
        · rcases hnew.out b q with q | q
          · rcases hn2'.out b q with q | q
            · exact .inl q
            · right; omega
          · right; omega
  · have h1' : (0 : Int) < xnn := by omega
    have hz : Hid (mNn knn xnn = knn) := Lib.hid (by unfold mNn; rw [if_neg h2])
    have q : ((knn : Int) == 0) = false := by simp; omega
    clear h1 h2
    go_upto_region 3 with fail
    refine wp_gen (fun W1 hW1 => ?_)
    have hFF : ∃ na' nc', Seg W1 P 0 [.pointer qo, .slice sa n sc, .slice na' (mNn knn xnn) nc', .int .i32 0, .int .u8 kcb, .bool false] ∧ Room W1 P 6 ∧ RCo G1 0 O W1 (.pointer qo) (.slice sa n sc) (.slice na' (mNn knn xnn) nc') n kty (mNn knn xnn) kks ∧ Kp (fun b => b = P) W W1 := by
      rw [hz.out, hW1]
      exact ⟨na, nc, sP.out, rP.out, hcoW.out, Kp.refl _⟩
    clear hW1 hz h1' q hcoW
    obtain ⟨na', nc', sP1, rP1, hco1, k1⟩ := hFF
    clear x0 x1 x2 x3 x4 x5 z0 z1 z2 z3 z4 z5 f2 sP rP
    replace sP1 := Lib.hid sP1; replace rP1 := Lib.hid rP1; replace hco1 := Lib.hid hco1; replace k1 := Lib.hid k1
    have z1w := k1.out.size
    have hXP : Hid (¬ X = P) := Lib.hid (by omega)
    have sX1 := Lib.hid (sX.out.keep (Kc.of_kp k1.out (fun _ _ q => q)) hXP.out)
    obtain ⟨x0, x1, x2, x3, x4, x5⟩ := segs6 sP1.out
    obtain ⟨z0, z1, z2, z3, z4, z5⟩ := segs6 sX1.out
    simp only [Nat.zero_add] at x0 x1 x2 x3 x4 x5 z0 z1 z2 z3 z4 z5
    have f0 : W1.frozen? ⟨P, 0, none⟩ = false := by obtain ⟨_, _, h⟩ := rP1.out 0 (by omega); exact h
    obtain ⟨N, hN⟩ : ∃ y, mNn knn xnn = y := ⟨_, rfl⟩
    rw [hN] at x2
    replace hN := Lib.hid hN
    have hKw1 : Hid (Kp (fun b => b = P) w W1) := Lib.hid ((Kp.of bW.out).trans k1.out)
    go_upto_if 23 with fail
    go_cut [] (fun wx => ∃ tv' sa' sc' n', Seg wx P 0 [tv', .slice sa' n' sc', .slice na' N nc', .int .i32 0, .int .u8 kcb, .bool false] ∧ Room wx P 6 ∧ n' ≤ n + 1 ∧ RCo G1 0 O wx tv' (.slice sa' n' sc') (.slice na' N nc') n' (mTy kty xty) N (kks ++ mIs kty xty) ∧ Kp (fun b => b = P ∨ Ob (.slice sa n sc) b) W1 wx ∧ (∀ b, Ob (.slice sa' n' sc') b → Ob (.slice sa n sc) b ∨ W1.heap.size ≤ b))
    case first =>
      rw [hN.out] at hco1 sP1
      cases xty with
      | none =>
        have e1 : po = none := by have := hrT.out; injection this
        subst e1
        have hT : Hid (mTy kty none = kty ∧ kks ++ mIs kty none = kks) := Lib.hid (by cases kty <;> exact ⟨rfl, by simp [mTy, mIs]⟩)
        go_wp2
        go_meet
        rw [hT.out.1, hT.out.2]
        exact ⟨_, sa, sc, n, sP1.out, rP1.out, by omega, hco1.out, Kp.refl _, fun b q => .inl q⟩
      | some s =>
        obtain ⟨B2, e1, hB2, hsB⟩ := hrT.out
        injection e1 with e1
        subst e1
        have hsB1 : Hid (Seg W1 B2 0 (tyL s)) := Lib.hid (hsB.keep (Kc.of_kp hKw1.out (fun b _ e => hOs.out b (.inr (by rw [show b = P from e]; exact hPO.out)))) hB2)
        replace hB2 := Lib.hid hB2
        clear hsB
        cases kty with
        | none =>
          have e2 : qo = none := by have := hco1.out.1; injection this
          subst e2
          go_wp2
          go_meet
          obtain ⟨t1, t2, t3⟩ := put0z (w := W1) (.pointer (some ⟨B2, 0, none⟩)) rP1.out sP1.out rfl
          have h5 := hco1.out.keep G1.keep (S := fun b => b = P) (O' := O) t3 (fun b _ e => by rw [show b = P from e]; exact hPO.out) (fun _ _ q => q)
          refine ⟨_, sa, sc, n, t1, t2, by omega, ⟨⟨B2, rfl, fun q => hB2.out (hOs.out B2 q), hsB1.out.keep (Kc.of_kp t3 (fun b _ e => e)) (fun e => hB2.out (hOs.out B2 (.inr (by rw [show B2 = P from e]; exact hPO.out))))⟩, h5.2.1, ?_⟩, t3.wide (fun _ q => .inl q), fun b q => .inl q⟩
          rw [show kks ++ mIs none (some s) = kks by simp [mIs]]
          exact h5.2.2
        | some t0 =>
          obtain ⟨B1, e2, -⟩ := hco1.out.1
          injection e2 with e2
          subst e2
          obtain ⟨y0, y1, y2, y3, y4⟩ := segs5 (show Seg W1 B2 0 [.pointer none, .string s, .int .i32 0, .int .i32 0, .int .u8 0] from hsB1.out)
          simp only [Nat.zero_add] at y0 y1 y2 y3 y4
          go_upto_region 6 with fail
          have hps : PsOk [(fun v _ => v = .pointer (some ⟨P, 0, none⟩)), (fun v _ => v = .pointer (some ⟨P, 0, none⟩)), (fun v _ => v = .pointer (some ⟨P, 0, none⟩)), (fun v _ => v = .pointer (some ⟨P, 1, none⟩)), (fun v _ => v = .slice sa n sc), (fun v _ => v = .pointer (some ⟨X, 0, none⟩)), (fun v _ => v = .pointer (some ⟨B2, 0, none⟩)), (fun v _ => v = .pointer (some ⟨B2, 0, none⟩)), (fun v _ => v = .agg #[.pointer none, .string s, .int .i32 0, .int .i32 0, .int .u8 0]), (fun v _ => v = .agg #[.int .i32 0, .int .i32 0]), (fun v _ => v = .pointer (some ⟨X, 0, none⟩)), (fun v _ => v = .pointer (some ⟨B2, 0, none⟩)), (fun v _ => v = .agg #[.pointer (some ⟨B2, 0, none⟩), .slice none 0 0, .slice none 0 0, .int .i32 0, .int .u8 0, .bool false]), (fun v W => ∃ bk : Nat, v = .slice (some ⟨bk, 0, none⟩) 1 1 ∧ W1.heap.size ≤ bk ∧ NewAt W bk #[.pointer (some ⟨B2, 0, none⟩), .slice none 0 0, .slice none 0 0, .int .i32 0, .int .u8 0, .bool false] 102), (fun v W => ∃ bk : Nat, v = .agg #[.slice (some ⟨bk, 0, none⟩) 1 1] ∧ W1.heap.size ≤ bk ∧ NewAt W bk #[.pointer (some ⟨B2, 0, none⟩), .slice none 0 0, .slice none 0 0, .int .i32 0, .int .u8 0, .bool false] 102), (fun v W => ∃ bk bY : Nat, v = .slice (some ⟨bY, 0, none⟩) 1 1 ∧ W1.heap.size ≤ bk ∧ NewAt W bk #[.pointer (some ⟨B2, 0, none⟩), .slice none 0 0, .slice none 0 0, .int .i32 0, .int .u8 0, .bool false] 102 ∧ W1.heap.size ≤ bY ∧ NewAt W bY #[.slice (some ⟨bk, 0, none⟩) 1 1] 32), (fun v W => ∃ bk bY : Nat, v = .agg #[.slice (some ⟨bY, 0, none⟩) 1 1, .string ⟨#[]⟩, .string ⟨#[]⟩, .int .u8 2] ∧ W1.heap.size ≤ bk ∧ NewAt W bk #[.pointer (some ⟨B2, 0, none⟩), .slice none 0 0, .slice none 0 0, .int .i32 0, .int .u8 0, .bool false] 102 ∧ W1.heap.size ≤ bY ∧ NewAt W bY #[.slice (some ⟨bk, 0, none⟩) 1 1] 32), (fun v W => ∃ bk bY Z : Nat, v = .pointer (some ⟨Z, 0, none⟩) ∧ W1.heap.size ≤ bk ∧ NewAt W bk #[.pointer (some ⟨B2, 0, none⟩), .slice none 0 0, .slice none 0 0, .int .i32 0, .int .u8 0, .bool false] 102 ∧ W1.heap.size ≤ bY ∧ NewAt W bY #[.slice (some ⟨bk, 0, none⟩) 1 1] 32 ∧ W1.heap.size ≤ Z ∧ NewAt W Z #[.slice (some ⟨bY, 0, none⟩) 1 1, .string ⟨#[]⟩, .string ⟨#[]⟩, .int .u8 2] 133), (fun v W => ∃ bk bY Z : Nat, v = .iface 128 (.pointer (some ⟨Z, 0, none⟩)) ∧ W1.heap.size ≤ bk ∧ NewAt W bk #[.pointer (some ⟨B2, 0, none⟩), .slice none 0 0, .slice none 0 0, .int .i32 0, .int .u8 0, .bool false] 102 ∧ W1.heap.size ≤ bY ∧ NewAt W bY #[.slice (some ⟨bk, 0, none⟩) 1 1] 32 ∧ W1.heap.size ≤ Z ∧ NewAt W Z #[.slice (some ⟨bY, 0, none⟩) 1 1, .string ⟨#[]⟩, .string ⟨#[]⟩, .int .u8 2] 133), (fun v W => ∃ bk bY Z : Nat, v = .agg #[.iface 128 (.pointer (some ⟨Z, 0, none⟩)), .int .i32 0, .int .i32 0] ∧ W1.heap.size ≤ bk ∧ NewAt W bk #[.pointer (some ⟨B2, 0, none⟩), .slice none 0 0, .slice none 0 0, .int .i32 0, .int .u8 0, .bool false] 102 ∧ W1.heap.size ≤ bY ∧ NewAt W bY #[.slice (some ⟨bk, 0, none⟩) 1 1] 32 ∧ W1.heap.size ≤ Z ∧ NewAt W Z #[.slice (some ⟨bY, 0, none⟩) 1 1, .string ⟨#[]⟩, .string ⟨#[]⟩, .int .u8 2] 133), (fun v W => ∃ bk bY Z bS : Nat, v = .slice (some ⟨bS, 0, none⟩) 1 1 ∧ W1.heap.size ≤ bk ∧ NewAt W bk #[.pointer (some ⟨B2, 0, none⟩), .slice none 0 0, .slice none 0 0, .int .i32 0, .int .u8 0, .bool false] 102 ∧ W1.heap.size ≤ bY ∧ NewAt W bY #[.slice (some ⟨bk, 0, none⟩) 1 1] 32 ∧ W1.heap.size ≤ Z ∧ NewAt W Z #[.slice (some ⟨bY, 0, none⟩) 1 1, .string ⟨#[]⟩, .string ⟨#[]⟩, .int .u8 2] 133 ∧ W1.heap.size ≤ bS ∧ NewAt W bS #[.iface 128 (.pointer (some ⟨Z, 0, none⟩)), .int .i32 0, .int .i32 0] 111)] := PsOk.eq (PsOk.eq (PsOk.eq (PsOk.eq (PsOk.eq (PsOk.eq (PsOk.eq (PsOk.eq (PsOk.eq (PsOk.eq (PsOk.eq (PsOk.eq (PsOk.eq (PsOk.cons (fun v W W' hb ⟨bk, e, f0, f1⟩ => ⟨bk, e, f0, NewAt.after f1 hb⟩) (PsOk.cons (fun v W W' hb ⟨bk, e, f0, f1⟩ => ⟨bk, e, f0, NewAt.after f1 hb⟩) (PsOk.cons (fun v W W' hb ⟨bk, bY, e, f0, f1, f2, f3⟩ => ⟨bk, bY, e, f0, NewAt.after f1 hb, f2, NewAt.after f3 hb⟩) (PsOk.cons (fun v W W' hb ⟨bk, bY, e, f0, f1, f2, f3⟩ => ⟨bk, bY, e, f0, NewAt.after f1 hb, f2, NewAt.after f3 hb⟩) (PsOk.cons (fun v W W' hb ⟨bk, bY, Z, e, f0, f1, f2, f3, f4, f5⟩ => ⟨bk, bY, Z, e, f0, NewAt.after f1 hb, f2, NewAt.after f3 hb, f4, NewAt.after f5 hb⟩) (PsOk.cons (fun v W W' hb ⟨bk, bY, Z, e, f0, f1, f2, f3, f4, f5⟩ => ⟨bk, bY, Z, e, f0, NewAt.after f1 hb, f2, NewAt.after f3 hb, f4, NewAt.after f5 hb⟩) (PsOk.cons (fun v W W' hb ⟨bk, bY, Z, e, f0, f1, f2, f3, f4, f5⟩ => ⟨bk, bY, Z, e, f0, NewAt.after f1 hb, f2, NewAt.after f3 hb, f4, NewAt.after f5 hb⟩) (PsOk.cons (fun v W W' hb ⟨bk, bY, Z, bS, e, f0, f1, f2, f3, f4, f5, f6, f7⟩ => ⟨bk, bY, Z, bS, e, f0, NewAt.after f1 hb, f2, NewAt.after f3 hb, f4, NewAt.after f5 hb, f6, NewAt.after f7 hb⟩) (PsOk.nil)))))))))))))))))))))
          refine QTail.drawn_rel_late 21 0 (PsR [(fun v _ => v = .pointer (some ⟨P, 0, none⟩)), (fun v _ => v = .pointer (some ⟨P, 0, none⟩)), (fun v _ => v = .pointer (some ⟨P, 0, none⟩)), (fun v _ => v = .pointer (some ⟨P, 1, none⟩)), (fun v _ => v = .slice sa n sc), (fun v _ => v = .pointer (some ⟨X, 0, none⟩)), (fun v _ => v = .pointer (some ⟨B2, 0, none⟩)), (fun v _ => v = .pointer (some ⟨B2, 0, none⟩)), (fun v _ => v = .agg #[.pointer none, .string s, .int .i32 0, .int .i32 0, .int .u8 0]), (fun v _ => v = .agg #[.int .i32 0, .int .i32 0]), (fun v _ => v = .pointer (some ⟨X, 0, none⟩)), (fun v _ => v = .pointer (some ⟨B2, 0, none⟩)), (fun v _ => v = .agg #[.pointer (some ⟨B2, 0, none⟩), .slice none 0 0, .slice none 0 0, .int .i32 0, .int .u8 0, .bool false]), (fun v W => ∃ bk : Nat, v = .slice (some ⟨bk, 0, none⟩) 1 1 ∧ W1.heap.size ≤ bk ∧ NewAt W bk #[.pointer (some ⟨B2, 0, none⟩), .slice none 0 0, .slice none 0 0, .int .i32 0, .int .u8 0, .bool false] 102), (fun v W => ∃ bk : Nat, v = .agg #[.slice (some ⟨bk, 0, none⟩) 1 1] ∧ W1.heap.size ≤ bk ∧ NewAt W bk #[.pointer (some ⟨B2, 0, none⟩), .slice none 0 0, .slice none 0 0, .int .i32 0, .int .u8 0, .bool false] 102), (fun v W => ∃ bk bY : Nat, v = .slice (some ⟨bY, 0, none⟩) 1 1 ∧ W1.heap.size ≤ bk ∧ NewAt W bk #[.pointer (some ⟨B2, 0, none⟩), .slice none 0 0, .slice none 0 0, .int .i32 0, .int .u8 0, .bool false] 102 ∧ W1.heap.size ≤ bY ∧ NewAt W bY #[.slice (some ⟨bk, 0, none⟩) 1 1] 32), (fun v W => ∃ bk bY : Nat, v = .agg #[.slice (some ⟨bY, 0, none⟩) 1 1, .string ⟨#[]⟩, .string ⟨#[]⟩, .int .u8 2] ∧ W1.heap.size ≤ bk ∧ NewAt W bk #[.pointer (some ⟨B2, 0, none⟩), .slice none 0 0, .slice none 0 0, .int .i32 0, .int .u8 0, .bool false] 102 ∧ W1.heap.size ≤ bY ∧ NewAt W bY #[.slice (some ⟨bk, 0, none⟩) 1 1] 32), (fun v W => ∃ bk bY Z : Nat, v = .pointer (some ⟨Z, 0, none⟩) ∧ W1.heap.size ≤ bk ∧ NewAt W bk #[.pointer (some ⟨B2, 0, none⟩), .slice none 0 0, .slice none 0 0, .int .i32 0, .int .u8 0, .bool false] 102 ∧ W1.heap.size ≤ bY ∧ NewAt W bY #[.slice (some ⟨bk, 0, none⟩) 1 1] 32 ∧ W1.heap.size ≤ Z ∧ NewAt W Z #[.slice (some ⟨bY, 0, none⟩) 1 1, .string ⟨#[]⟩, .string ⟨#[]⟩, .int .u8 2] 133), (fun v W => ∃ bk bY Z : Nat, v = .iface 128 (.pointer (some ⟨Z, 0, none⟩)) ∧ W1.heap.size ≤ bk ∧ NewAt W bk #[.pointer (some ⟨B2, 0, none⟩), .slice none 0 0, .slice none 0 0, .int .i32 0, .int .u8 0, .bool false] 102 ∧ W1.heap.size ≤ bY ∧ NewAt W bY #[.slice (some ⟨bk, 0, none⟩) 1 1] 32 ∧ W1.heap.size ≤ Z ∧ NewAt W Z #[.slice (some ⟨bY, 0, none⟩) 1 1, .string ⟨#[]⟩, .string ⟨#[]⟩, .int .u8 2] 133), (fun v W => ∃ bk bY Z : Nat, v = .agg #[.iface 128 (.pointer (some ⟨Z, 0, none⟩)), .int .i32 0, .int .i32 0] ∧ W1.heap.size ≤ bk ∧ NewAt W bk #[.pointer (some ⟨B2, 0, none⟩), .slice none 0 0, .slice none 0 0, .int .i32 0, .int .u8 0, .bool false] 102 ∧ W1.heap.size ≤ bY ∧ NewAt W bY #[.slice (some ⟨bk, 0, none⟩) 1 1] 32 ∧ W1.heap.size ≤ Z ∧ NewAt W Z #[.slice (some ⟨bY, 0, none⟩) 1 1, .string ⟨#[]⟩, .string ⟨#[]⟩, .int .u8 2] 133), (fun v W => ∃ bk bY Z bS : Nat, v = .slice (some ⟨bS, 0, none⟩) 1 1 ∧ W1.heap.size ≤ bk ∧ NewAt W bk #[.pointer (some ⟨B2, 0, none⟩), .slice none 0 0, .slice none 0 0, .int .i32 0, .int .u8 0, .bool false] 102 ∧ W1.heap.size ≤ bY ∧ NewAt W bY #[.slice (some ⟨bk, 0, none⟩) 1 1] 32 ∧ W1.heap.size ≤ Z ∧ NewAt W Z #[.slice (some ⟨bY, 0, none⟩) 1 1, .string ⟨#[]⟩, .string ⟨#[]⟩, .int .u8 2] 133 ∧ W1.heap.size ≤ bS ∧ NewAt W bS #[.iface 128 (.pointer (some ⟨Z, 0, none⟩)), .int .i32 0, .int .i32 0] 111)]) (by kernel_rfl) (by kernel_rfl) (by kernel_rfl) (fun i v W W' h1 h2 => PsR.after hps i v W W' h1 h2) ?_ ?_
          · clear hps
            simp only [List.take_succ_cons, List.take_zero]
            refine ⟨?_, ?_, ?_, ?_, ?_, ?_, ?_, ?_, ?_, ?_, ?_, ?_, ?_, ?_, ?_, ?_, ?_, ?_, ?_, ?_, ?_, trivial⟩
            all_goals intro vs W' hC hd
            · clear hd hC
              simp only [QTail.putA, Nat.reduceAdd, Act.put, List.setIfInBounds_toArray, List.set_cons_succ, List.set_cons_zero]
              go_wp2
              exact ⟨rfl, Below.refl _ _⟩
            · clear hd hC
              simp only [QTail.putA, Nat.reduceAdd, Act.put, List.setIfInBounds_toArray, List.set_cons_succ, List.set_cons_zero]
              go_wp2
              exact ⟨rfl, Below.refl _ _⟩
            · have e1 : vs 1 = .pointer (some ⟨P, 0, none⟩) := hd { on := 1, ground := Ground.data } (by simp) rfl
              clear hd hC
              simp only [QTail.putA, Nat.reduceAdd, Act.put, List.setIfInBounds_toArray, List.set_cons_succ, List.set_cons_zero]
              rw [e1]
              go_wp2
              exact ⟨rfl, Below.refl _ _⟩
            · have e2 : vs 2 = .pointer (some ⟨P, 0, none⟩) := hd { on := 2, ground := Ground.data } (by simp) rfl
              clear hd hC
              simp only [QTail.putA, Nat.reduceAdd, Act.put, List.setIfInBounds_toArray, List.set_cons_succ, List.set_cons_zero]
              rw [e2]
              go_wp2
              exact ⟨rfl, Below.refl _ _⟩
            · have e3 : vs 3 = .pointer (some ⟨P, 1, none⟩) := hd { on := 3, ground := Ground.data } (by simp) rfl
              replace x1 := ac hC x1
              clear hd hC
              simp only [QTail.putA, Nat.reduceAdd, Act.put, List.setIfInBounds_toArray, List.set_cons_succ, List.set_cons_zero]
              rw [e3]
              go_wp2
              exact ⟨rfl, Below.refl _ _⟩
            · clear hd hC
              simp only [QTail.putA, Nat.reduceAdd, Act.put, List.setIfInBounds_toArray, List.set_cons_succ, List.set_cons_zero]
              go_wp2
              exact ⟨rfl, Below.refl _ _⟩
            · have e5 : vs 5 = .pointer (some ⟨X, 0, none⟩) := hd { on := 5, ground := Ground.data } (by simp) rfl
              replace z0 := ac hC z0
              clear hd hC
              simp only [QTail.putA, Nat.reduceAdd, Act.put, List.setIfInBounds_toArray, List.set_cons_succ, List.set_cons_zero]
              rw [e5]
              go_wp2
              exact ⟨rfl, Below.refl _ _⟩
            · have e6 : vs 6 = .pointer (some ⟨B2, 0, none⟩) := hd { on := 6, ground := Ground.data } (by simp) rfl
              clear hd hC
              simp only [QTail.putA, Nat.reduceAdd, Act.put, List.setIfInBounds_toArray, List.set_cons_succ, List.set_cons_zero]
              rw [e6]
              go_wp2
              exact ⟨rfl, Below.refl _ _⟩
            · have e7 : vs 7 = .pointer (some ⟨B2, 0, none⟩) := hd { on := 7, ground := Ground.data } (by simp) rfl
              replace y0 := ac hC y0
              replace y1 := ac hC y1
              replace y2 := ac hC y2
              replace y3 := ac hC y3
              replace y4 := ac hC y4
              clear hd hC
              simp only [QTail.putA, Nat.reduceAdd, Act.put, List.setIfInBounds_toArray, List.set_cons_succ, List.set_cons_zero]
              rw [e7]
              go_wp2
              exact ⟨rfl, Below.refl _ _⟩
            · have e8 : vs 8 = .agg #[.pointer none, .string s, .int .i32 0, .int .i32 0, .int .u8 0] := hd { on := 8, ground := Ground.data } (by simp) rfl
              have C38 := Lib.hid (rng38_c s W')
              clear hd hC
              simp only [QTail.putA, Nat.reduceAdd, Act.put, List.setIfInBounds_toArray, List.set_cons_succ, List.set_cons_zero]
              rw [e8]
              go_wp2_with (go_at_call 38; (with_reducible refine C38.out.mono ?_); rintro e w5 ⟨rfl, tb⟩; replace tb := Lib.hid tb)
              exact ⟨rfl, tb.out⟩
            · clear hd hC
              simp only [QTail.putA, Nat.reduceAdd, Act.put, List.setIfInBounds_toArray, List.set_cons_succ, List.set_cons_zero]
              go_wp2
              exact ⟨rfl, Below.refl _ _⟩
            · have e10 : vs 10 = .pointer (some ⟨X, 0, none⟩) := hd { on := 10, ground := Ground.data } (by simp) rfl
              replace z0 := ac hC z0
              clear hd hC
              simp only [QTail.putA, Nat.reduceAdd, Act.put, List.setIfInBounds_toArray, List.set_cons_succ, List.set_cons_zero]
              rw [e10]
              go_wp2
              exact ⟨rfl, Below.refl _ _⟩
            · have e11 : vs 11 = .pointer (some ⟨B2, 0, none⟩) := hd { on := 11, ground := Ground.data } (by simp) rfl
              clear hd hC
              simp only [QTail.putA, Nat.reduceAdd, Act.put, List.setIfInBounds_toArray, List.set_cons_succ, List.set_cons_zero]
              rw [e11]
              go_wp2
              exact ⟨rfl, Below.refl _ _⟩
            · have e12 : vs 12 = .agg #[.pointer (some ⟨B2, 0, none⟩), .slice none 0 0, .slice none 0 0, .int .i32 0, .int .u8 0, .bool false] := hd { on := 12, ground := Ground.data } (by simp) rfl
              have hC' := Lib.hid hC
              clear hd hC
              simp only [QTail.putA, Nat.reduceAdd, Act.put, List.setIfInBounds_toArray, List.set_cons_succ, List.set_cons_zero]
              rw [e12]
              go_wp2
              exact ⟨⟨_, rfl, hC'.out.size, by show (W'.heap.push _)[W'.heap.size]? = _; simp⟩, ba _ _⟩
            · obtain ⟨bk, e13, q0, q1⟩ : ∃ bk : Nat, vs 13 = .slice (some ⟨bk, 0, none⟩) 1 1 ∧ W1.heap.size ≤ bk ∧ NewAt W' bk #[.pointer (some ⟨B2, 0, none⟩), .slice none 0 0, .slice none 0 0, .int .i32 0, .int .u8 0, .bool false] 102 := hd { on := 13, ground := Ground.data } (by simp) rfl
              replace q1 := q1
              have hC' := Lib.hid hC
              clear hd hC
              simp only [QTail.putA, Nat.reduceAdd, Act.put, List.setIfInBounds_toArray, List.set_cons_succ, List.set_cons_zero]
              rw [e13]
              go_wp2
              exact ⟨⟨bk, rfl, q0, q1⟩, Below.refl _ _⟩
            · obtain ⟨bk, e14, q0, q1⟩ : ∃ bk : Nat, vs 14 = .agg #[.slice (some ⟨bk, 0, none⟩) 1 1] ∧ W1.heap.size ≤ bk ∧ NewAt W' bk #[.pointer (some ⟨B2, 0, none⟩), .slice none 0 0, .slice none 0 0, .int .i32 0, .int .u8 0, .bool false] 102 := hd { on := 14, ground := Ground.data } (by simp) rfl
              replace q1 := q1
              have hC' := Lib.hid hC
              clear hd hC
              simp only [QTail.putA, Nat.reduceAdd, Act.put, List.setIfInBounds_toArray, List.set_cons_succ, List.set_cons_zero]
              rw [e14]
              go_wp2
              exact ⟨⟨bk, _, rfl, q0, NewAt.after q1 (ba _ _), hC'.out.size, by show (W'.heap.push _)[W'.heap.size]? = _; simp⟩, ba _ _⟩
            · obtain ⟨bk, bY, e15, q0, q1, q2, q3⟩ : ∃ bk bY : Nat, vs 15 = .slice (some ⟨bY, 0, none⟩) 1 1 ∧ W1.heap.size ≤ bk ∧ NewAt W' bk #[.pointer (some ⟨B2, 0, none⟩), .slice none 0 0, .slice none 0 0, .int .i32 0, .int .u8 0, .bool false] 102 ∧ W1.heap.size ≤ bY ∧ NewAt W' bY #[.slice (some ⟨bk, 0, none⟩) 1 1] 32 := hd { on := 15, ground := Ground.data } (by simp) rfl
              replace q1 := q1
              have hC' := Lib.hid hC
              clear hd hC
              simp only [QTail.putA, Nat.reduceAdd, Act.put, List.setIfInBounds_toArray, List.set_cons_succ, List.set_cons_zero]
              rw [e15]
              go_wp2
              exact ⟨⟨bk, bY, rfl, q0, q1, q2, q3⟩, Below.refl _ _⟩
            · obtain ⟨bk, bY, e16, q0, q1, q2, q3⟩ : ∃ bk bY : Nat, vs 16 = .agg #[.slice (some ⟨bY, 0, none⟩) 1 1, .string ⟨#[]⟩, .string ⟨#[]⟩, .int .u8 2] ∧ W1.heap.size ≤ bk ∧ NewAt W' bk #[.pointer (some ⟨B2, 0, none⟩), .slice none 0 0, .slice none 0 0, .int .i32 0, .int .u8 0, .bool false] 102 ∧ W1.heap.size ≤ bY ∧ NewAt W' bY #[.slice (some ⟨bk, 0, none⟩) 1 1] 32 := hd { on := 16, ground := Ground.data } (by simp) rfl
              replace q1 := q1
              have hC' := Lib.hid hC
              clear hd hC
              simp only [QTail.putA, Nat.reduceAdd, Act.put, List.setIfInBounds_toArray, List.set_cons_succ, List.set_cons_zero]
              rw [e16]
              go_wp2
              exact ⟨⟨bk, bY, _, rfl, q0, NewAt.after q1 (ba _ _), q2, NewAt.after q3 (ba _ _), hC'.out.size, by show (W'.heap.push _)[W'.heap.size]? = _; simp⟩, ba _ _⟩
            · obtain ⟨bk, bY, Z, e17, q0, q1, q2, q3, q4, q5⟩ : ∃ bk bY Z : Nat, vs 17 = .pointer (some ⟨Z, 0, none⟩) ∧ W1.heap.size ≤ bk ∧ NewAt W' bk #[.pointer (some ⟨B2, 0, none⟩), .slice none 0 0, .slice none 0 0, .int .i32 0, .int .u8 0, .bool false] 102 ∧ W1.heap.size ≤ bY ∧ NewAt W' bY #[.slice (some ⟨bk, 0, none⟩) 1 1] 32 ∧ W1.heap.size ≤ Z ∧ NewAt W' Z #[.slice (some ⟨bY, 0, none⟩) 1 1, .string ⟨#[]⟩, .string ⟨#[]⟩, .int .u8 2] 133 := hd { on := 17, ground := Ground.data } (by simp) rfl
              replace q1 := q1
              have hC' := Lib.hid hC
              clear hd hC
              simp only [QTail.putA, Nat.reduceAdd, Act.put, List.setIfInBounds_toArray, List.set_cons_succ, List.set_cons_zero]
              rw [e17]
              go_wp2
              exact ⟨⟨bk, bY, Z, rfl, q0, q1, q2, q3, q4, q5⟩, Below.refl _ _⟩
            · have e9 : vs 9 = .agg #[.int .i32 0, .int .i32 0] := hd { on := 9, ground := Ground.data } (by simp) rfl
              obtain ⟨bk, bY, Z, e18, q0, q1, q2, q3, q4, q5⟩ : ∃ bk bY Z : Nat, vs 18 = .iface 128 (.pointer (some ⟨Z, 0, none⟩)) ∧ W1.heap.size ≤ bk ∧ NewAt W' bk #[.pointer (some ⟨B2, 0, none⟩), .slice none 0 0, .slice none 0 0, .int .i32 0, .int .u8 0, .bool false] 102 ∧ W1.heap.size ≤ bY ∧ NewAt W' bY #[.slice (some ⟨bk, 0, none⟩) 1 1] 32 ∧ W1.heap.size ≤ Z ∧ NewAt W' Z #[.slice (some ⟨bY, 0, none⟩) 1 1, .string ⟨#[]⟩, .string ⟨#[]⟩, .int .u8 2] 133 := hd { on := 18, ground := Ground.data } (by simp) rfl
              replace q1 := q1
              have hC' := Lib.hid hC
              clear hd hC
              simp only [QTail.putA, Nat.reduceAdd, Act.put, List.setIfInBounds_toArray, List.set_cons_succ, List.set_cons_zero]
              rw [e9]
              rw [e18]
              go_wp2
              exact ⟨⟨bk, bY, Z, rfl, q0, q1, q2, q3, q4, q5⟩, Below.refl _ _⟩
            · obtain ⟨bk, bY, Z, e19, q0, q1, q2, q3, q4, q5⟩ : ∃ bk bY Z : Nat, vs 19 = .agg #[.iface 128 (.pointer (some ⟨Z, 0, none⟩)), .int .i32 0, .int .i32 0] ∧ W1.heap.size ≤ bk ∧ NewAt W' bk #[.pointer (some ⟨B2, 0, none⟩), .slice none 0 0, .slice none 0 0, .int .i32 0, .int .u8 0, .bool false] 102 ∧ W1.heap.size ≤ bY ∧ NewAt W' bY #[.slice (some ⟨bk, 0, none⟩) 1 1] 32 ∧ W1.heap.size ≤ Z ∧ NewAt W' Z #[.slice (some ⟨bY, 0, none⟩) 1 1, .string ⟨#[]⟩, .string ⟨#[]⟩, .int .u8 2] 133 := hd { on := 19, ground := Ground.data } (by simp) rfl
              replace q1 := q1
              have hC' := Lib.hid hC
              clear hd hC
              simp only [QTail.putA, Nat.reduceAdd, Act.put, List.setIfInBounds_toArray, List.set_cons_succ, List.set_cons_zero]
              rw [e19]
              go_wp2
              exact ⟨⟨bk, bY, Z, _, rfl, q0, NewAt.after q1 (ba _ _), q2, NewAt.after q3 (ba _ _), q4, NewAt.after q5 (ba _ _), hC'.out.size, by show (W'.heap.push _)[W'.heap.size]? = _; simp⟩, ba _ _⟩
          · clear hps
            intro QL hQL vs W3 b3 hR
            have e0 : vs 0 = .pointer (some ⟨P, 0, none⟩) := hR 0 (by omega)
            have e4 : vs 4 = .slice sa n sc := hR 4 (by omega)
            obtain ⟨bk, bY, Z, bS, e20, q0, q1, q2, q3, q4, q5, q6, q7⟩ : ∃ bk bY Z bS : Nat, vs 20 = .slice (some ⟨bS, 0, none⟩) 1 1 ∧ W1.heap.size ≤ bk ∧ NewAt W3 bk #[.pointer (some ⟨B2, 0, none⟩), .slice none 0 0, .slice none 0 0, .int .i32 0, .int .u8 0, .bool false] 102 ∧ W1.heap.size ≤ bY ∧ NewAt W3 bY #[.slice (some ⟨bk, 0, none⟩) 1 1] 32 ∧ W1.heap.size ≤ Z ∧ NewAt W3 Z #[.slice (some ⟨bY, 0, none⟩) 1 1, .string ⟨#[]⟩, .string ⟨#[]⟩, .int .u8 2] 133 ∧ W1.heap.size ≤ bS ∧ NewAt W3 bS #[.iface 128 (.pointer (some ⟨Z, 0, none⟩)), .int .i32 0, .int .i32 0] 111 := hR 20 (by omega)
            replace b3 := Lib.hid b3
            clear hR
            simp only [List.take_succ_cons, List.take_zero, List.drop_succ_cons, List.drop_zero, QTail.putA, Nat.reduceAdd, Act.put, List.setIfInBounds_toArray, List.set_cons_succ, List.set_cons_zero]
            rw [e0]
            rw [e4]
            rw [e20]
            clear e0 e4 e20
            generalize vs 1 = zz1
            generalize vs 2 = zz2
            generalize vs 3 = zz3
            generalize vs 5 = zz5
            generalize vs 6 = zz6
            generalize vs 7 = zz7
            generalize vs 8 = zz8
            generalize vs 9 = zz9
            generalize vs 10 = zz10
            generalize vs 11 = zz11
            generalize vs 12 = zz12
            generalize vs 13 = zz13
            generalize vs 14 = zz14
            generalize vs 15 = zz15
            generalize vs 16 = zz16
            generalize vs 17 = zz17
            generalize vs 18 = zz18
            generalize vs 19 = zz19
            clear vs
            have zb3 := b3.out.size
            replace q1 := Lib.hid q1; replace q3 := Lib.hid q3; replace q5 := Lib.hid q5; replace q7 := Lib.hid q7
            have hNI : Hid (NewIs W1.heap.size B2 bk bY Z W3) := Lib.hid ⟨q0, q2, q4, q1.out, q3.out, q5.out⟩
            obtain ⟨h1, h2, ls, h3, h4, h5, h6, h7⟩ := hco1.out
            replace h1 := Lib.hid h1; replace h2 := Lib.hid h2; replace h3 := Lib.hid h3; replace h4 := Lib.hid h4; replace h5 := Lib.hid h5; replace h6 := Lib.hid h6; replace h7 := Lib.hid h7
            have hO3 := Lib.hid (own_below h4.out b3.out)
            obtain ⟨_, w1, f1⟩ := rP1.out 1 (by omega)
            have w1' := ac b3.out w1
            have f1' := af b3.out w1 f1
            clear w1 f1
            have hPn : Hid (¬ Ob (.slice sa n sc) P) := Lib.hid (fun q => h5.out P q hPO.out)
            go_wp2_with (at_builtin; go_loud (refine app1g (W := W3) (.tmp 38) (.tmp 54) 97 111 0 3 24 #[.nilIface, .int .i32 0, .int .i32 0] #[.iface 128 (.pointer (some ⟨Z, 0, none⟩)), .int .i32 0, .int .i32 0] bS _ n _ rfl rfl rfl rfl q7.out Try.underlying97 info111 rfl (by omega) hO3.out rfl (by simp [Value.oneCell']) (by omega) (by omega) (by omega) ?_); intro v' W5 hO5 hkp hnew; obtain ⟨a5, c5, hu⟩ := own_head hO5; subst hu; have w2' := hkp.cell w1' hPn.out; have f2' := hkp.froz w1' f1' hPn.out; replace hO5 := Lib.hid hO5; replace hkp := Lib.hid hkp; replace hnew := Lib.hid hnew)
            go_meet
            have z35 := hkp.out.size
            obtain ⟨t1, t2, t3⟩ := put1z (w := W5) (.slice a5 (n + 1) c5) (room_kept (rP1.out.after b3.out) hkp.out hPn.out) ((sP1.out.after b3.out).keep (Kc.of_kp hkp.out (fun _ _ q => q)) hPn.out) rfl
            have hB2' : ¬ (Ob (.slice sa n sc) B2 ∨ O B2) := fun q => hB2.out (hOs.out B2 q)
            have hg1 := NewIs.g1 (O := fun b => Ob (.slice sa n sc) b ∨ O b) hNI.out (fun b q => by
              rcases q with q | q
              · exact (h4.out.lt b q).2
              · have := hOl.out b q; have := hXw.out; omega) hB2' (hsB1.out.after b3.out)
            have hst := RCo.step (nn := N) (s := ⟨128, .pointer (some ⟨Z, 0, none⟩), isK s⟩) G1.keep h1.out h2.out h3.out h4.out h5.out h6.out b3.out hg1 hO5.out hkp.out hnew.out (fun b q => by have := hOl.out b q; have := hXw.out; omega)
            rw [h7.out] at hst
            refine ⟨_, a5, c5, n + 1, t1, t2, Nat.le_refl _, hst.keep G1.keep t3 (fun b _ e => by rw [show b = P from e]; exact hPO.out) (fun _ _ q => q), ((Kp.of b3.out).trans (hkp.out.wide (fun _ q => .inr q))).trans (t3.wide (fun _ q => .inl q)), fun b q => ?_⟩
            rcases hnew.out b q with q | q
            · exact .inl q
            · right; omega
    case rest =>
      obtain ⟨tv', sa', sc', n', sP2, rP2, hn', hco2, k2, hn2'⟩ := hcut
      obtain ⟨W2, rfl⟩ : ∃ y, y = wc := ⟨_, rfl⟩
      clear x0 x1 x2 x3 x4 x5 z0 z1 z2 z3 z4 z5 f0
      replace sP2 := Lib.hid sP2; replace rP2 := Lib.hid rP2; replace hco2 := Lib.hid hco2; replace k2 := Lib.hid k2; replace hn2' := Lib.hid hn2'
      have z2w := k2.out.size
      have hOsp : Hid (∀ b, Ob (.slice sa n sc) b → b < w.heap.size) := Lib.hid (fun b q => by obtain ⟨ls, -, h4, -⟩ := hco.out.2.2; exact (h4.lt b q).2)
      have hKw2 : Hid (Kp (fun b => b = P ∨ Ob (.slice sa n sc) b) w W2) := Lib.hid ((hKw1.out.wide (fun _ q => .inl q)).trans k2.out)
      have hOsS : Hid (∀ b, b < w.heap.size → (b = P ∨ Ob (.slice sa n sc) b) → Os b) := Lib.hid (fun b _ q => by
        rcases q with q | q
        · exact hOs.out b (.inr (by rw [q]; exact hPO.out))
        · exact hOs.out b (.inl q))
      have hXn : Hid (¬ (X = P ∨ Ob (.slice sa n sc) X)) := Lib.hid (fun q => by
        rcases q with q | q
        · exact hXP.out q
        · have := hOsp.out X q; have := hXw.out; omega)
      have sX2 := Lib.hid (sX1.out.keep (Kc.of_kp k2.out (fun _ _ q => q)) hXn.out)
      have hrO2 : Hid (W2.ownsRow 0 111 3 (.slice ra m rc) m (flat SubR.cells rls)) := Lib.hid (hKw2.out.own hrO.out (fun b q e => hrOb.out b q (hOsS.out b (hrO.out.lt b q).2 e)))
      have hrG2 : Hid (∀ s ∈ rls, Gn (fun b => Os b ∨ w.heap.size ≤ b) W2 s) := Lib.hid (fun s hs => Gn.keep _ _ _ _ _ _ (hrG.out s hs) hKw2.out hOsS.out (fun b hb q => by
        rcases q with q | q
        · exact q
        · omega))
      obtain ⟨h1, h2, ls, h3, h4, h5, h6, h7⟩ := hco2.out
      replace h1 := Lib.hid h1; replace h2 := Lib.hid h2; replace h3 := Lib.hid h3; replace h4 := Lib.hid h4; replace h5 := Lib.hid h5; replace h6 := Lib.hid h6; replace h7 := Lib.hid h7
      obtain ⟨x0, x1, x2, x3, x4, x5⟩ := segs6 sP2.out
      obtain ⟨z0, z1, z2, z3, z4, z5⟩ := segs6 sX2.out
      simp only [Nat.zero_add] at x0 x1 x2 x3 x4 x5 z0 z1 z2 z3 z4 z5
      go_upto_region 7 with fail
      have hps : PsOk [(fun v _ => v = .pointer (some ⟨P, 0, none⟩)), (fun v _ => v = .pointer (some ⟨P, 0, none⟩)), (fun v _ => v = .pointer (some ⟨P, 0, none⟩)), (fun v _ => v = .pointer (some ⟨P, 1, none⟩)), (fun v _ => v = .slice sa' n' sc'), (fun v _ => v = .pointer (some ⟨X, 1, none⟩)), (fun v _ => v = .slice ra m rc)] := PsOk.eq (PsOk.eq (PsOk.eq (PsOk.eq (PsOk.eq (PsOk.eq (PsOk.eq (PsOk.nil)))))))
      refine QTail.drawn_rel_late 7 0 (PsR [(fun v _ => v = .pointer (some ⟨P, 0, none⟩)), (fun v _ => v = .pointer (some ⟨P, 0, none⟩)), (fun v _ => v = .pointer (some ⟨P, 0, none⟩)), (fun v _ => v = .pointer (some ⟨P, 1, none⟩)), (fun v _ => v = .slice sa' n' sc'), (fun v _ => v = .pointer (some ⟨X, 1, none⟩)), (fun v _ => v = .slice ra m rc)]) (by kernel_rfl) (by kernel_rfl) (by kernel_rfl) (fun i v W W' h1 h2 => PsR.after hps i v W W' h1 h2) ?_ ?_
      · clear hps
        simp only [List.take_succ_cons, List.take_zero]
        refine ⟨?_, ?_, ?_, ?_, ?_, ?_, ?_, trivial⟩
        all_goals intro vs W' hC hd
        · clear hd hC
          simp only [QTail.putA, Nat.reduceAdd, Act.put, List.setIfInBounds_toArray, List.set_cons_succ, List.set_cons_zero]
          go_wp2
          exact ⟨rfl, Below.refl _ _⟩
        · clear hd hC
          simp only [QTail.putA, Nat.reduceAdd, Act.put, List.setIfInBounds_toArray, List.set_cons_succ, List.set_cons_zero]
          go_wp2
          exact ⟨rfl, Below.refl _ _⟩
        · have e1 : vs 1 = .pointer (some ⟨P, 0, none⟩) := hd { on := 1, ground := Ground.data } (by simp) rfl
          clear hd hC
          simp only [QTail.putA, Nat.reduceAdd, Act.put, List.setIfInBounds_toArray, List.set_cons_succ, List.set_cons_zero]
          rw [e1]
          go_wp2
          exact ⟨rfl, Below.refl _ _⟩
        · have e2 : vs 2 = .pointer (some ⟨P, 0, none⟩) := hd { on := 2, ground := Ground.data } (by simp) rfl
          clear hd hC
          simp only [QTail.putA, Nat.reduceAdd, Act.put, List.setIfInBounds_toArray, List.set_cons_succ, List.set_cons_zero]
          rw [e2]
          go_wp2
          exact ⟨rfl, Below.refl _ _⟩
        · have e3 : vs 3 = .pointer (some ⟨P, 1, none⟩) := hd { on := 3, ground := Ground.data } (by simp) rfl
          replace x1 := ac hC x1
          clear hd hC
          simp only [QTail.putA, Nat.reduceAdd, Act.put, List.setIfInBounds_toArray, List.set_cons_succ, List.set_cons_zero]
          rw [e3]
          go_wp2
          exact ⟨rfl, Below.refl _ _⟩
        · clear hd hC
          simp only [QTail.putA, Nat.reduceAdd, Act.put, List.setIfInBounds_toArray, List.set_cons_succ, List.set_cons_zero]
          go_wp2
          exact ⟨rfl, Below.refl _ _⟩
        · have e5 : vs 5 = .pointer (some ⟨X, 1, none⟩) := hd { on := 5, ground := Ground.data } (by simp) rfl
          replace z1 := ac hC z1
          clear hd hC
          simp only [QTail.putA, Nat.reduceAdd, Act.put, List.setIfInBounds_toArray, List.set_cons_succ, List.set_cons_zero]
          rw [e5]
          go_wp2
          exact ⟨rfl, Below.refl _ _⟩
      · clear hps
        intro QL hQL vs W3 b3 hR
        have e0 : vs 0 = .pointer (some ⟨P, 0, none⟩) := hR 0 (by omega)
        have e4 : vs 4 = .slice sa' n' sc' := hR 4 (by omega)
        have e6 : vs 6 = .slice ra m rc := hR 6 (by omega)
        replace b3 := Lib.hid b3
        clear hR
        simp only [List.take_succ_cons, List.take_zero, List.drop_succ_cons, List.drop_zero, QTail.putA, Nat.reduceAdd, Act.put, List.setIfInBounds_toArray, List.set_cons_succ, List.set_cons_zero]
        rw [e0]
        rw [e4]
        rw [e6]
        clear e0 e4 e6
        generalize vs 1 = zz1
        generalize vs 2 = zz2
        generalize vs 3 = zz3
        generalize vs 5 = zz5
        clear vs
        have zb3 := b3.out.size
        have hO3 : Hid (W3.ownsRow 0 111 3 (.slice sa' n' sc') n' (flat SubR.cells ls)) := Lib.hid (own_below h4.out b3.out)
        have x1' := ac b3.out x1
        have f1' : W3.frozen? ⟨P, 1, none⟩ = false := by obtain ⟨_, h1, h⟩ := rP2.out 1 (by omega); exact af b3.out h1 h
        have hPn : Hid (¬ Ob (.slice sa' n' sc') P) := Lib.hid (fun q => h5.out P q hPO.out)
        have hcells := Lib.hid (fun j u (hj : (flat SubR.cells rls)[j]? = some u) => ownSeg (own_below hrO2.out b3.out) j u hj)
        go_wp2_with (at_builtin; go_loud (refine appR (.tmp 62) (.tmp 64) 97 111 0 3 24 #[.nilIface, .int .i32 0, .int .i32 0] _ n' _ ra m rc (flat SubR.cells rls) rfl rfl rfl rfl Try.underlying97 info111 rfl (by omega) hO3.out (by rw [flat_len3, hm.out]) (fun j u hj => by obtain ⟨g, e1, e2⟩ := hcells.out j u hj; injection e1 with e1; exact ⟨g, e1, e2⟩) flat_one3 (by omega) (by omega) (by omega) ?_); intro v' W5 hO5 hkp hnew; obtain ⟨a5, c5, hu⟩ := own_head hO5; subst hu; have x1'' := hkp.cell x1' hPn.out; have f1'' := hkp.froz x1' f1' hPn.out; replace hO5 := Lib.hid hO5; replace hkp := Lib.hid hkp; replace hnew := Lib.hid hnew)
        have z35 := hkp.out.size
        refine bodyPost_end (v := .tuple #[]) (by simp [results, Try.results28, go_sem]) rfl ?_
        have zz := k1.out.size
        have zy := bW.out.size
        have hk12 : Hid (Kp (fun b => b = P ∨ Ob (.slice sa n sc) b) w W5) := Lib.hid ((hKw2.out.trans (Kp.of b3.out)).trans' hkp.out (fun b q hb => by
          rcases hn2'.out b q with q | q
          · exact .inr q
          · omega))
        obtain ⟨t1, t2, t3⟩ := put1z (w := W5) (.slice a5 (n' + m) c5) (room_kept (rP2.out.after b3.out) hkp.out hPn.out) ((sP2.out.after b3.out).keep (Kc.of_kp hkp.out (fun _ _ q => q)) hPn.out) rfl
        refine hCQ.out _ (.slice a5 (n' + m) c5) _ ?_ (hk12.out.trans (t3.wide (fun _ q => .inl q))) (fun b q => ?_)
        · have hE : mergeK ⟨kcb, kty, knn, kks⟩ ⟨xcb, xty, xnn, xks⟩ = ⟨kcb, mTy kty xty, N, (kks ++ mIs kty xty) ++ (rls.map upS).map SubR.k⟩ := by
            rw [← hN.out, ← hrk.out]
            simp only [mergeK, List.map_map]
            rfl
          rw [hE]
          have hst := RCo.stepR2 (nn := N) (m := m) (ns := rls.map upS) h1.out h2.out h3.out h4.out h5.out h6.out b3.out (by rw [List.length_map]; exact hm.out) (fun s hs => by
            obtain ⟨r, hr, rfl⟩ := List.mem_map.1 hs
            exact Gn.keep _ _ (fun _ => False) _ _ r (hrG2.out r hr) (Kp.of b3.out) (fun _ _ q => q.elim) (fun b hb q => by
              rcases q with q | q
              · rcases hn2'.out b q with q | q
                · exact .inl (hOs.out b (.inl q))
                · right; omega
              · exact .inl (hOs.out b (.inr q)))) (by rw [flat_upS]; exact hO5.out) hkp.out hnew.out (fun b q => by have := hOl.out b q; omega)
          rw [h7.out] at hst
          exact ⟨tv', .slice na' N nc', n' + m, t1, t2, hPO.out, hst.keep G1.keep t3 (fun b _ e => by rw [show b = P from e]; exact hPO.out) (fun _ _ q => q)⟩
        · rcases hnew.out b q with q | q
          · rcases hn2'.out b q with q | q
            · exact .inl q
            · right; omega
          · right; omega
end Go.Proofs.Ytjigljpodkfchad
