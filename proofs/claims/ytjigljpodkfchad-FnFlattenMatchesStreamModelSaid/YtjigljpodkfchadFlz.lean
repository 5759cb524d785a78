/- FnFlattenMatchesStreamModel: the observer's encoding of a subclass selector. -/
import Derived.Test.YtjigljpodkfchadFly
set_option linter.unusedVariables false
set_option linter.unusedSimpArgs false
namespace Go.Proofs.Ytjigljpodkfchad
open Go.RowKit
set_option maxRecDepth 100000
set_option maxHeartbeats 40000000
/-- blocks that hold no bytes stay as they are -/
def NewK (W w' : World) : Prop := ∀ (b : Nat) (cs : Array Value) (ty : TypeId), ty ≠ 5 → NewAt W b cs ty → NewAt w' b cs ty
theorem NewK.of_below {W w' : World} (h : Below W.heap.size W w') : NewK W w' := fun b cs ty _ hn => hn.after h
theorem NewK.trans {W w1 w2 : World} (h : NewK W w1) (h' : NewK w1 w2) : NewK W w2 := fun b cs ty ht hn => h' b cs ty ht (h b cs ty ht hn)
theorem NewK.of_kp {W w' : World} {B z n : Nat} {v : Value} {xs : List Value} (hown : W.ownsRow B 5 z v n xs) (hk : Kp (Ob v) W w') : NewK W w' := fun b cs ty ht hn => by
  unfold NewAt at *
  rw [hk.block b (Array.getElem?_eq_some_iff.1 hn).1 (fun q => ?_)]
  · exact hn
  · obtain ⟨-, -, cur, fr, e⟩ := own_ty hown q
    rw [hn] at e
    injection e with e
    injection e with _ e
    exact ht e
theorem bufL2 {W W' : World} {ops : Array Oper} {rest : List Oper} {o : Oper} {act : Act} {Q : Exit → Act → World → Prop} (s x : Operand) (v : Value) (l : List Int) (W0 : World) (news : List Int)
    (ho : o.op = .call { callee := .builtin .append, args := #[s, x], argTypes := #[147, 147] }) (hgd : o.guard = none) (hs : act.eval s = v) (hx : act.eval x = .slice (some ⟨W.heap.size, 0, none⟩) news.length news.length) (hb : Bu v l W0 W) (hn : l.length + news.length ≤ 30000000) (hW : W' = W.alloc (.cells (u8s news).toArray 5))
    (h : ∀ a' c' n' w', n' = (l ++ news).length → Bu (.slice a' n' c') (l ++ news) W0 w' → NewK W w' → wpList Try.prog ops Q rest (act.put o.dst (.slice a' n' c')) w') : wpList Try.prog ops Q (o :: rest) act W' := by
  subst hW
  have hb' : Bu v l W0 (W.alloc (.cells (u8s news).toArray 5)) := hb.after (ba _ _)
  have hz := hb'.2.size
  refine appQ s x 147 5 W0.heap.size 1 1 #[.int .u8 0] v l.length (u8s l) W.heap.size 0 news.length news.length (u8s news) ho hgd hs hx Try.underlying147 info5 rfl (by omega) hb'.1 (by simp [u8s]) (fun j u hj => ?_) (u8s_one _) (by omega) (by omega) hz (fun v' w' h1 h2 h3 => ?_)
  · rw [Nat.zero_add]
    exact (Seg.new W (u8s news) 5) j u hj |> fun q => by rw [Nat.zero_add] at q; exact q
  · have hb2 : Bu v' (l ++ news) W0 w' := hb'.grow (by rw [List.length_append, u8s, List.map_append]; exact h1) h2
    obtain ⟨a', c', rfl⟩ := hb2.head
    exact h a' c' _ w' rfl hb2 ((NewK.of_below (ba _ _)).trans (NewK.of_kp hb'.1 h2))
theorem bufS2 {W : World} {ops : Array Oper} {rest : List Oper} {o : Oper} {act : Act} {Q : Exit → Act → World → Prop} (sl x : Operand) (v : Value) (l : List Int) (W0 : World) (s : ByteArray)
    (ho : o.op = .call { callee := .builtin .append, args := #[sl, x], argTypes := #[147, 9] }) (hgd : o.guard = none) (hs : act.eval sl = v) (hx : act.eval x = .string s) (hb : Bu v l W0 W) (hn : l.length + s.size ≤ 30000000)
    (h : ∀ a' c' n' w', n' = (l ++ byt s).length → Bu (.slice a' n' c') (l ++ byt s) W0 w' → NewK W w' → wpList Try.prog ops Q rest (act.put o.dst (.slice a' n' c')) w') : wpList Try.prog ops Q (o :: rest) act W := by
  refine appStr sl x W0.heap.size v l.length (u8s l) s ho hgd hs hx hb.1 (by omega) hb.2.size (fun v' w' h1 h2 => ?_)
  have hb2 : Bu v' (l ++ byt s) W0 w' := hb.grow (by rw [List.length_append, byt_len, u8s, List.map_append]; exact h1) h2
  obtain ⟨a', c', rfl⟩ := hb2.head
  exact h a' c' _ w' rfl hb2 (NewK.of_kp hb.1 h2)
theorem dec_bu2 {v : Value} {l : List Int} {n : Nat} {W0 W : World} (hn : n ≤ 1048576) (hl : l.length ≤ 30000000) (hb : Bu v l W0 W) : Calls Try.prog 41 #[v, .int .i64 n] W (fun e w' => ∃ a' c' n', e = .returned (.slice a' n' c') ∧ n' = (l ++ dec n).length ∧ Bu (.slice a' n' c') (l ++ dec n) W0 w' ∧ NewK W w') := by
  refine (dec41_c v W0.heap.size l n hn hl W hb.2.size hb.1).mono ?_
  rintro e w' ⟨v', rfl, h1, h2⟩
  have hb2 : Bu v' (l ++ dec n) W0 w' := hb.grow h1 h2
  obtain ⟨a', c', rfl⟩ := hb2.head
  exact ⟨a', c', _, rfl, rfl, hb2, NewK.of_kp hb.1 h2⟩
theorem new_segs6 {W : World} {C : Nat} {v0 v1 v2 v3 v4 v5 : Value} {ty : TypeId} (h : NewAt W C #[v0, v1, v2, v3, v4, v5] ty) : W.cell? ⟨C, 0, none⟩ = some v0 ∧ W.cell? ⟨C, 1, none⟩ = some v1 ∧ W.cell? ⟨C, 2, none⟩ = some v2 ∧ W.cell? ⟨C, 3, none⟩ = some v3 ∧ W.cell? ⟨C, 4, none⟩ = some v4 ∧ W.cell? ⟨C, 5, none⟩ = some v5 := ⟨h.cell rfl, h.cell rfl, h.cell rfl, h.cell rfl, h.cell rfl, h.cell rfl⟩
theorem newA (w : World) (cs : Array Value) (ty : TypeId) : NewAt (w.alloc (.cells cs ty)) w.heap.size cs ty := by
  unfold NewAt; exact Array.getElem?_push_size
def KdOk (k : Int) : Prop := k = 0 ∨ k = 3 ∨ k = 2 ∨ k = 4 ∨ k = 9 ∨ k = 1
/-- sizes of a subclass selector, that the observer wants -/
def SkSz (k : SK) : Prop := match k with
  | .inl nm => nm.size ≤ 1048576
  | .inr (kd, l) => KdOk kd ∧ (encL l).length ≤ 20000000 ∧ ∀ y ∈ l, y.nn ≤ 1048576
theorem lenC (l : List (Ck ByteArray)) : l.length ≤ (l.flatMap encC).length := by
  induction l with
  | nil => exact Nat.le_refl _
  | cons x r ih => simp only [List.flatMap_cons, List.length_append, encC, List.length_cons]; omega
theorem flatC_take {l : List (Ck ByteArray)} {k : Nat} {x : Ck ByteArray} (h : l[k]? = some x) : (l.take (k + 1)).flatMap encC = (l.take k).flatMap encC ++ encC x := by
  rw [List.take_add_one, h]; simp
theorem Seg.cellAt {w : World} {b o : Nat} {vs : List Value} (h : Seg w b o vs) {j : Nat} {v : Value} (hj : vs[j]? = some v) : w.cell? ⟨b, o + j, none⟩ = some v := h j v hj
/-- an inner compound as the observer reads it -/
def InRd (w : World) (r : MR) (x : Ck ByteArray) : Prop := ∃ (po sa na : Option Addr) (m sc nc : Nat), r = ⟨.pointer po, .slice sa m sc, .slice na x.nn nc, x.cb⟩ ∧ x.ks.length = m ∧ (match x.ty with
  | none => po = none
  | some s => ∃ B, po = some ⟨B, 0, none⟩ ∧ Seg w B 0 (tyL s)) ∧ ∀ (j : Nat) nm, x.ks[j]? = some nm → ∃ g B, sa = some ⟨g, 0, none⟩ ∧ Seg w g (j * 3) [.iface 124 (.pointer (some ⟨B, 0, none⟩)), .int .i32 0, .int .i32 0] ∧ w.cell? ⟨B, 0, none⟩ = some (.string nm)
theorem RCk.rd {O : Nat → Prop} {w : World} {r : MR} {x : Ck ByteArray} (h : RCk Gn O w r x) : InRd w r x := by
  obtain ⟨po, sa, sc, na, nc, er⟩ := h.shape
  obtain ⟨h1, h2, h3, ls, h4, h5, h6, h7⟩ := h
  subst er
  simp only at h2 h4
  have hl : ls.length = x.ks.length := by rw [← h7, List.length_map]
  refine ⟨po, sa, na, _, sc, nc, rfl, rfl, ?_, fun j nm hj => ?_⟩
  · cases ht : x.ty with
    | none => rw [ht] at h2; injection h2
    | some s =>
      rw [ht] at h2
      obtain ⟨B, e, -, hs⟩ := h2
      injection e with e
      exact ⟨B, e, hs⟩
  · rw [← h7, List.getElem?_map] at hj
    cases hs : ls[j]? with
    | none => rw [hs] at hj; cases hj
    | some s =>
      rw [hs] at hj
      injection hj with hj
      subst hj
      have hjl := (List.getElem?_eq_some_iff.1 hs).1
      obtain ⟨g, c', e, -⟩ := own_some h4 (by omega)
      injection e with e
      subst e
      obtain ⟨ht, B, hp, -, hsg, -⟩ := h6 s (List.mem_of_getElem? hs)
      refine ⟨g, B, rfl, ?_, by simpa using hsg 0 _ rfl⟩
      have hq : Seg w g (j * 3) s.cells := own_seg (by rw [hl] at h4; exact h4) (fun i v hi => by
        have hj6 : i < 3 := by have := (List.getElem?_eq_some_iff.1 hi).1; simpa [SubR.cells] using this
        rw [flat_at SubR.cells 3 (fun _ => rfl) ls j i s hs hj6]
        exact hi)
      have e2 : s.cells = [.iface 124 (.pointer (some ⟨B, 0, none⟩)), .int .i32 0, .int .i32 0] := by
        show [Value.iface s.t s.p, _, _] = _
        rw [ht, hp]
      rw [e2] at hq
      exact hq
/-- a subclass selector as the observer reads it -/
def SubRd (w : World) (t : TypeId) (p : Value) (k : SK) : Prop := match k with
  | .inl nm => t = 124 ∧ ∃ B, p = .pointer (some ⟨B, 0, none⟩) ∧ w.cell? ⟨B, 0, none⟩ = some (.string nm)
  | .inr (kd, l) => t = 128 ∧ ∃ (Z Y c1 g c : Nat) (v1 v2 : Value), p = .pointer (some ⟨Z, 0, none⟩) ∧ Seg w Z 0 [.slice (some ⟨Y, 0, none⟩) 1 c1, v1, v2, .int .u8 kd] ∧ w.cell? ⟨Y, 0, none⟩ = some (.slice (some ⟨g, 0, none⟩) l.length c) ∧ ∀ (j : Nat) x, l[j]? = some x → ∃ r, Seg w g (j * 6) r.cells ∧ InRd w r x
theorem G1.rd {O : Nat → Prop} {w : World} {s : SubR SK} (h : G1 O w s) : SubRd w s.t s.p s.k := by
  obtain ⟨t, p, k⟩ := s
  cases k with
  | inl nm =>
    obtain ⟨h1, B, h2, -, h3, -⟩ := h
    exact ⟨h1, B, h2, by simpa using h3 0 _ rfl⟩
  | inr q =>
    obtain ⟨kd, l⟩ := q
    obtain ⟨h1, Z, Y, c1, g, c, ms, rs, h2, h3, h4, h5, h6, h7, h8, h9, h10, h11, h12⟩ := h
    refine ⟨h1, Z, Y, c1, g, c, _, _, h2, h6, h7, fun j x hx => ?_⟩
    have hj := (List.getElem?_eq_some_iff.1 hx).1
    obtain ⟨r, hr⟩ : ∃ r, rs[j]? = some r := ⟨_, List.getElem?_eq_getElem (by omega)⟩
    obtain ⟨e1, e2⟩ := h12 j r x hr hx
    exact ⟨r, e1, e2.rd⟩
theorem InRd.after {w w' : World} {r : MR} {x : Ck ByteArray} (h : InRd w r x) (hb : Below w.heap.size w w') : InRd w' r x := by
  obtain ⟨po, sa, na, m, sc, nc, h1, h2, h3, h4⟩ := h
  refine ⟨po, sa, na, m, sc, nc, h1, h2, ?_, fun j nm hj => ?_⟩
  · cases ht : x.ty with
    | none => rw [ht] at h3; exact h3
    | some s => rw [ht] at h3; obtain ⟨B, e, hs⟩ := h3; exact ⟨B, e, hs.after hb⟩
  · obtain ⟨g, B, e1, e2, e3⟩ := h4 j nm hj
    exact ⟨g, B, e1, e2.after hb, ac hb e3⟩
theorem SubRd.after {w w' : World} {t : TypeId} {p : Value} {k : SK} (h : SubRd w t p k) (hb : Below w.heap.size w w') : SubRd w' t p k := by
  cases k with
  | inl nm => obtain ⟨h1, B, h2, h3⟩ := h; exact ⟨h1, B, h2, ac hb h3⟩
  | inr q =>
    obtain ⟨kd, l⟩ := q
    obtain ⟨h1, Z, Y, c1, g, c, v1, v2, h2, h3, h4, h5⟩ := h
    refine ⟨h1, Z, Y, c1, g, c, v1, v2, h2, h3.after hb, ac hb h4, fun j x hx => ?_⟩
    obtain ⟨r, e1, e2⟩ := h5 j x hx
    exact ⟨r, e1.after hb, e2.after hb⟩
theorem enc37_c (t : TypeId) (p : Value) (k : SK) (hsz : SkSz k) (w : World) (h : SubRd w t p k) : Calls Try.prog 37 #[.agg #[.iface t p, .int .i32 0, .int .i32 0]] w (RetV (.string (enc k)) w) := by
  cases k with
  | inl nm =>
    have q1 : ¬ (9223372036854775807 < 1 + nm.size) := by have : nm.size ≤ 1048576 := hsz; omega
    have C42 := Lib.hid (fun W (hb : Below w.heap.size w W) => name42_c t p (.inl nm) W (h.after hb))
    show Calls Try.prog 37 _ w (RetV (.string (⟨#[46]⟩ ++ nm)) w)
    clear h
    have hb0 := fun o => ba w o
    go_enter Try.func37, Try.ntmps37
    go_wp2_with (go_at_call 42; (with_reducible refine (C42.out _ (hb0 _)).mono ?_); rintro e w7 ⟨rfl, b7⟩; unfold nameOf; replace b7 := Lib.hid b7)
    exact bodyPost_ret (v := .string (⟨#[46]⟩ ++ nm)) (by simp [results, Try.results37, go_sem]) rfl ⟨rfl, (hb0 _).trans (b7.out.mono (hb0 _).size)⟩
  | inr q =>
    obtain ⟨kd, l⟩ := q
    have C42 := Lib.hid (fun W (hb : Below w.heap.size w W) => name42_c t p (.inr (kd, l)) W (by
      obtain ⟨h1, Z, Y, c1, g, c, v1, v2, h2, h3, -⟩ := h.after hb
      exact ⟨h1, Z, h2, by have := h3 3 _ rfl; rw [Nat.zero_add] at this; exact this⟩))
    obtain ⟨rfl, Z, Y, c1, g, c, v1, v2, rfl, hZ, hY, hI⟩ := h
    have C43 := Lib.hid (fun W (hb : Below w.heap.size w W) => wrap43_c Z Y c1 kd v1 v2 W (hZ.after hb))
    obtain ⟨hkd, hE, hnn⟩ := hsz
    have C35 := Lib.hid (fun W => (dig35_c kd hkd W).mono (fun _ _ h => h.retV))
    have hDs := digZ_size kd
    show Calls Try.prog 37 _ w (RetV (.string (bs (119 :: byt (digZ kd) ++ encL l))) w)
    obtain ⟨D, hD⟩ : ∃ y, digZ kd = y := ⟨_, rfl⟩
    rw [hD] at hDs C35 ⊢
    have hEl : Hid (3 + (l.flatMap encC).length ≤ 20000100) := Lib.hid (by rw [encL, List.length_cons] at hE; omega)
    obtain ⟨n, hn⟩ : ∃ y, l.length = y := ⟨_, rfl⟩
    have hn3 : n ≤ 20000100 := by have := lenC l; have := hEl.out; omega
    rw [hn] at hY
    replace hn := Lib.hid hn; replace hY := Lib.hid hY; replace hI := Lib.hid hI; replace hnn := Lib.hid hnn
    clear hD hZ hE hkd
    go_enter Try.func37, Try.ntmps37
    go_upto_region 1 with fail
    refine wp_gen (fun W0 hW => ?_)
    have hB0 : Hid (Below w.heap.size w W0) := Lib.hid (by rw [hW]; exact ba _ _)
    have hS0 : Hid (Seg W0 w.heap.size 0 [.iface 128 (.pointer (some ⟨Z, 0, none⟩)), .int .i32 0, .int .i32 0]) := Lib.hid (by rw [hW]; exact Seg.new _ _ _)
    clear hW
    obtain ⟨T, hT⟩ : ∃ y, w.heap.size = y := ⟨_, rfl⟩
    rw [hT] at hS0 ⊢
    clear hT
    obtain ⟨x0, x1, x2⟩ := segs3' hS0.out
    go_upto_region 4 with (go_at_call 42; (with_reducible refine (C42.out _ hB0.out).mono ?_); rintro e W1 ⟨rfl, b7⟩; unfold nameOf; replace b7 := Lib.hid b7)
    have hB1 := Lib.hid (hB0.out.trans (b7.out.mono hB0.out.size))
    have hS1 := Lib.hid (hS0.out.after b7.out)
    clear hS0 x0 x1 x2 hB0 b7
    obtain ⟨x0, x1, x2⟩ := segs3' hS1.out
    go_upto_region 7 with (go_at_call 43; (with_reducible refine (C43.out _ hB1.out).mono ?_); rintro e W2 ⟨rfl, b7⟩; replace b7 := Lib.hid b7)
    have hB2 := Lib.hid (hB1.out.trans (b7.out.mono hB1.out.size))
    clear hS1 x0 x1 x2 hB1 b7 C42 C43
    go_upto_region 8 with fail
    refine wp_gen (fun W3 hW => ?_)
    have hB3 : Hid (Bu (.slice (some ⟨W2.heap.size, 0, none⟩) 1 1) [119] W2 W3) := Lib.hid (Bu.lit W2 [119] (by simp) hW)
    clear hW
    obtain ⟨g0, hg0⟩ : ∃ y, W2.heap.size = y := ⟨_, rfl⟩
    rw [hg0] at hB3 ⊢
    clear hg0
    go_upto_region 9 with first | (go_at_call 35; (with_reducible refine (C35.out _).mono ?_); rintro e w7 ⟨rfl, b7⟩; have hB3' := Lib.hid (hB3.out.after b7)) | (at_builtin; go_loud (refine bufS (.tmp 32) (.tmp 34) _ _ W2 D rfl rfl rfl rfl hB3'.out (by rw [hDs]; simp) ?_); intro a4 c4 n4 W4 hn4 hB4; replace hB4 := Lib.hid hB4; replace hn4 := Lib.hid hn4)
    obtain ⟨P0, hP0⟩ : ∃ y, ([119] : List Int) ++ byt D = y := ⟨_, rfl⟩
    rw [hP0] at hB4 hn4
    have hP0l : Hid (P0.length = 2) := Lib.hid (by rw [← hP0, List.length_append, byt_len, hDs]; rfl)
    replace hP0 := Lib.hid hP0
    clear hB3 C35 hB3' b7
    go_wp2
    go_loopw [8, 9] (fun bv i wr => ∃ (ii n5 : Nat) (a5 : Option Addr) (c5 : Nat), ii ≤ 1 ∧ i = .int .i64 ii ∧ bv = .slice a5 n5 c5 ∧ n5 = (P0 ++ (if ii = 0 then [] else encL l)).length ∧ Bu (.slice a5 n5 c5) (P0 ++ (if ii = 0 then [] else encL l)) W2 wr) (fun _ i _ => 1 - (intOf i).toNat)
    case atStart => exact ⟨0, n4, a4, c4, by omega, rfl, rfl, by simpa using hn4.out, by simpa using hB4.out⟩
    case round =>
      clear hB4 hn4
      obtain ⟨ii, n5, a5, c5, hii, rfl, rfl, hn5, hB5⟩ := hrel
      obtain ⟨W5, rfl⟩ : ∃ y, y = wr := ⟨_, rfl⟩
      by_cases h0 : ii = 0
      · subst h0
        simp only [if_true, List.append_nil] at hn5 hB5
        replace hB5 := Lib.hid hB5; replace hn5 := Lib.hid hn5
        go_upto_region 13 with (at_builtin; go_loud (refine bufL (W := W5) (.tmp 42) (.tmp 43) _ P0 W2 [124] rfl rfl rfl rfl hB5.out (by rw [hP0l.out]; simp) rfl ?_); intro a6 c6 n6 W6 hn6 hB6; replace hB6 := Lib.hid hB6; replace hn6 := Lib.hid hn6)
        clear hB5 hn5
        obtain ⟨P1, hP1⟩ : ∃ y, P0 ++ [124] = y := ⟨_, rfl⟩
        rw [hP1] at hB6 hn6
        have hP1l : Hid (P1.length = 3) := Lib.hid (by rw [← hP1, List.length_append, hP0l.out]; rfl)
        replace hP1 := Lib.hid hP1
        go_wp2
        go_loopw [8, 10] (fun bv i wr => ∃ (j n7 : Nat) (a7 : Option Addr) (c7 : Nat), j ≤ n ∧ i = .int .i64 j ∧ bv = .slice a7 n7 c7 ∧ n7 = (P1 ++ (l.take j).flatMap encC).length ∧ Bu (.slice a7 n7 c7) (P1 ++ (l.take j).flatMap encC) W2 wr) (fun _ i _ => n - (intOf i).toNat)
        case atStart => exact ⟨0, n6, a6, c6, by omega, rfl, rfl, by simpa using hn6.out, by simpa using hB6.out⟩
        case round =>
          clear hB6 hn6
          obtain ⟨j, n7, a7, c7, hj, rfl, rfl, hn7, hB7⟩ := hrel
          obtain ⟨W7, rfl⟩ : ∃ y, y = wr := ⟨_, rfl⟩
          obtain ⟨L0, hL0⟩ : ∃ y, P1 ++ (l.take j).flatMap encC = y := ⟨_, rfl⟩
          rw [hL0] at hB7 hn7
          have hBw7 : Hid (Below w.heap.size w W7) := Lib.hid (hB2.out.trans (hB7.2.mono hB2.out.size))
          replace hB7 := Lib.hid hB7; replace hn7 := Lib.hid hn7; replace hL0 := Lib.hid hL0
          have e0 := ac hBw7.out hY.out
          by_cases hlt : j < n
          · obtain ⟨x, hx⟩ : ∃ x, l[j]? = some x := ⟨_, List.getElem?_eq_getElem (by rw [hn.out]; exact hlt)⟩
            obtain ⟨r, hrs, po, sa, na, m, sc, nc, rfl, hm, hty, hnm⟩ := hI.out j x hx
            have htk := Lib.hid (flatC_take hx)
            have hxn := hnn.out x (List.mem_of_getElem? hx)
            have hlen : L0.length + (encC x).length ≤ 20000103 := by
              have h1 := flat_le encC l (j + 1)
              rw [htk.out, List.length_append] at h1
              have h2 := hEl.out
              have h3 := hP1l.out
              rw [← hL0.out, List.length_append]
              omega
            have hlen' : Hid (L0.length + 2 + (encT x.ty).length + 1 + (dec x.nn).length + (x.ks.flatMap encN).length + 1 ≤ 20000103) := Lib.hid (by
              simp only [encC, List.length_append, List.length_cons, List.length_nil] at hlen
              omega)
            have hm3 : m ≤ 20000103 := by have := lenN x.ks; have := hlen'.out; omega
            obtain ⟨xcb, xty, xnn, xks⟩ := x
            simp only at hrs hm hty hnm hxn hlen'
            obtain ⟨d0, d1, d2, d3, d4, d5⟩ := segs6 (show Seg W7 g (j * 6) [.pointer po, .slice sa m sc, .slice na xnn nc, .int .i32 0, .int .u8 xcb, .bool false] from hrs.after hBw7.out)
            replace hx := Lib.hid hx; replace hm := Lib.hid hm; replace hnm := Lib.hid hnm; replace hty := Lib.hid hty
            clear hlen hrs
            have C40 := Lib.hid (fun W => cb40_c xcb W)
            have i0 : (0 : Int) ≤ j := by omega
            have i1 : (j : Int) < n := by omega
            go_upto_region 17 with fail
            refine wp_gen (fun W8 hW => ?_)
            have b8 : Hid (Below W7.heap.size W7 W8) := Lib.hid (by rw [hW]; exact ba _ _)
            have hS8 : Hid (NewAt W8 W7.heap.size #[.pointer po, .slice sa m sc, .slice na xnn nc, .int .i32 0, .int .u8 xcb, .bool false] 102) := Lib.hid (by rw [hW]; exact newA _ _ _)
            clear hW d0 d1 d2 d3 d4 d5 e0
            have hB8 := Lib.hid (hB7.out.after b8.out)
            obtain ⟨C, hC⟩ : ∃ y, W7.heap.size = y := ⟨_, rfl⟩
            rw [hC] at hS8 ⊢
            clear hC b8 hB7
            obtain ⟨d0, d1, d2, d3, d4, d5⟩ := new_segs6 hS8.out
            go_upto_region 18 with first | (go_at_call 40; (with_reducible refine (C40.out _).mono ?_); rintro e w7 ⟨rfl, rfl⟩) | (at_builtin; go_loud (refine bufL2 (W := W8) (.tmp 63) (.tmp 68) _ L0 W2 [40, cbZ xcb] rfl rfl rfl rfl hB8.out (by have := hlen'.out; simp only [List.length_cons, List.length_nil]; omega) rfl ?_); intro a9 c9 n9 W9 hn9 hB9 hK9; have hS9 := Lib.hid (hK9 _ _ _ (by decide) hS8.out); replace hB9 := Lib.hid hB9; replace hn9 := Lib.hid hn9; clear hK9)
            clear d0 d1 d2 d3 d4 d5 hS8 hB8
            obtain ⟨d0, d1, d2, d3, d4, d5⟩ := new_segs6 hS9.out
            go_upto_if 72 with fail
            go_cut [8] (fun v wx => ∃ (n3 : Nat) (a3 : Option Addr) (c3 : Nat), v = .slice a3 n3 c3 ∧ n3 = (L0 ++ [40, cbZ xcb] ++ encT xty).length ∧ Bu (.slice a3 n3 c3) (L0 ++ [40, cbZ xcb] ++ encT xty) W2 wx ∧ NewAt wx C #[.pointer po, .slice sa m sc, .slice na xnn nc, .int .i32 0, .int .u8 xcb, .bool false] 102)
            case first =>
              cases xty with
              | none =>
                obtain rfl : po = none := hty.out
                go_wp2_with (at_builtin; go_loud (refine bufL2 (W := W9) (.tmp 73) (.tmp 74) _ _ W2 [45] rfl rfl rfl rfl hB9.out (by have := hlen'.out; simp only [List.length_cons, List.length_nil, List.length_append]; omega) rfl ?_); intro a3 c3 n3 W3 hn3' hB3 hK3; replace hK3 := Lib.hid hK3; replace hB3 := Lib.hid hB3; replace hn3' := Lib.hid hn3')
                go_meet
                exact ⟨n3, a3, c3, rfl, hn3'.out, hB3.out, hK3.out _ _ _ (by decide) hS9.out⟩
              | some s =>
                obtain ⟨B, rfl, hsB⟩ := hty.out
                have hBw9 := hB2.out.trans (hB9.out.2.mono hB2.out.size)
                have y1 : W9.cell? ⟨B, 1, none⟩ = some (.string s) := by have := (hsB.after hBw9) 1 _ rfl; rw [Nat.zero_add] at this; exact this
                clear hsB hBw9
                go_wp2_with (at_builtin; go_loud (refine bufS2 (.tmp 76) (.tmp 82) _ _ W2 s rfl rfl rfl rfl hB9.out (by have := hlen'.out; simp only [encT, byt_len] at this; simp only [List.length_cons, List.length_nil, List.length_append]; omega) ?_); intro a3 c3 n3 W3 hn3' hB3 hK3; replace hK3 := Lib.hid hK3; replace hB3 := Lib.hid hB3; replace hn3' := Lib.hid hn3')
                go_meet
                exact ⟨n3, a3, c3, rfl, hn3'.out, hB3.out, hK3.out _ _ _ (by decide) hS9.out⟩
            case rest =>
              clear d0 d1 d2 d3 d4 d5 hB9 hn9 hS9
              obtain ⟨n3, a3, c3, rfl, hn3', hB3, hS3⟩ := hcut
              obtain ⟨W3', rfl⟩ : ∃ y, y = wc := ⟨_, rfl⟩
              obtain ⟨L3, hL3⟩ : ∃ y, L0 ++ [40, cbZ xcb] ++ encT xty = y := ⟨_, rfl⟩
              rw [hL3] at hB3 hn3'
              have hl3 : Hid (L3.length + 1 + (dec xnn).length + (xks.flatMap encN).length + 1 ≤ 20000103) := Lib.hid (by rw [← hL3]; have := hlen'.out; simp only [List.length_cons, List.length_nil, List.length_append]; omega)
              replace hL3 := Lib.hid hL3; replace hB3 := Lib.hid hB3; replace hn3' := Lib.hid hn3'; replace hS3 := Lib.hid hS3
              go_upto_region 22 with (at_builtin; go_loud (refine bufL2 (W := W3') (.tmp 84) (.tmp 85) _ L3 W2 [35] rfl rfl rfl rfl hB3.out (by have := hl3.out; simp only [List.length_cons, List.length_nil]; omega) rfl ?_); intro a4' c4' n4' W4' hn4' hB4' hK4; have hS4 := Lib.hid (hK4 _ _ _ (by decide) hS3.out); replace hB4' := Lib.hid hB4'; replace hn4' := Lib.hid hn4'; clear hK4)
              clear hB3 hn3' hS3
              obtain ⟨d0, d1, d2, d3, d4, d5⟩ := new_segs6 hS4.out
              have C41 := Lib.hid (dec_bu2 (n := xnn) hxn (by have := hl3.out; simp only [List.length_cons, List.length_nil, List.length_append]; omega) hB4'.out)
              go_upto_region 23 with (go_at_call 41; (with_reducible refine C41.out.mono ?_); rintro e W5' ⟨a5', c5', n5', rfl, hn5', hB5', hK5⟩; have hS5 := Lib.hid (hK5 _ _ _ (by decide) hS4.out); replace hB5' := Lib.hid hB5'; replace hn5' := Lib.hid hn5'; clear hK5)
              clear C41 hB4' hn4' d0 d1 d2 d3 d4 d5 hS4
              obtain ⟨L5, hL5⟩ : ∃ y, L3 ++ [35] ++ dec xnn = y := ⟨_, rfl⟩
              rw [hL5] at hB5' hn5'
              have hl5 : Hid (L5.length + (xks.flatMap encN).length + 1 ≤ 20000103) := Lib.hid (by rw [← hL5]; have := hl3.out; simp only [List.length_cons, List.length_nil, List.length_append]; omega)
              replace hL5 := Lib.hid hL5
              obtain ⟨d0, d1, d2, d3, d4, d5⟩ := new_segs6 hS5.out
              go_wp2
              clear d0 d1 d2 d3 d4 d5
              go_loopw [8, 12] (fun bv i wr => ∃ (q n6 : Nat) (a6 : Option Addr) (c6 : Nat), q ≤ m ∧ i = .int .i64 q ∧ bv = .slice a6 n6 c6 ∧ n6 = (L5 ++ (xks.take q).flatMap encN).length ∧ Bu (.slice a6 n6 c6) (L5 ++ (xks.take q).flatMap encN) W2 wr ∧ NewAt wr C #[.pointer po, .slice sa m sc, .slice na xnn nc, .int .i32 0, .int .u8 xcb, .bool false] 102) (fun _ i _ => m - (intOf i).toNat)
              case atStart => exact ⟨0, n5', a5', c5', by omega, rfl, rfl, by simpa using hn5'.out, by simpa using hB5'.out, hS5.out⟩
              case round =>
                clear hB5' hn5' hS5
                obtain ⟨q, n6, a6, c6, hq, rfl, rfl, hn6, hB6, hS6⟩ := hrel
                obtain ⟨W6, rfl⟩ : ∃ y, y = wr := ⟨_, rfl⟩
                obtain ⟨L6, hL6⟩ : ∃ y, L5 ++ (xks.take q).flatMap encN = y := ⟨_, rfl⟩
                rw [hL6] at hB6 hn6
                have hBw6 : Hid (Below w.heap.size w W6) := Lib.hid (hB2.out.trans (hB6.2.mono hB2.out.size))
                replace hB6 := Lib.hid hB6; replace hn6 := Lib.hid hn6; replace hL6 := Lib.hid hL6; replace hS6 := Lib.hid hS6
                obtain ⟨d0, d1, d2, d3, d4, d5⟩ := new_segs6 hS6.out
                by_cases hltq : q < m
                · obtain ⟨s, hsq⟩ : ∃ s, xks[q]? = some s := ⟨_, List.getElem?_eq_getElem (by rw [hm.out]; exact hltq)⟩
                  obtain ⟨gs, Bs, rfl, hsg, hcs⟩ := hnm.out q s hsq
                  have hft := Lib.hid (flatN_take hsq)
                  have hl6 : Hid (L6.length + 1 + s.size ≤ 20000103) := Lib.hid (by
                    have h1 := flat_le encN xks (q + 1)
                    rw [hft.out, List.length_append, encN, List.length_cons, byt_len] at h1
                    have h2 := hl5.out
                    rw [← hL6.out, List.length_append]
                    omega)
                  have C42 := Lib.hid (fun W (hb : Below w.heap.size w W) => name42_c 124 (.pointer (some ⟨Bs, 0, none⟩)) (.inl s) W ⟨rfl, Bs, rfl, ac hb hcs⟩)
                  obtain ⟨y0, y1, y2⟩ := segs3 (hsg.after hBw6.out)
                  clear hsg hcs hsq
                  have j0 : (0 : Int) ≤ q := by omega
                  have j1 : (q : Int) < m := by omega
                  have hjn : q ≤ 20000103 := by omega
                  go_upto_region 28 with (go_at_call 42; (with_reducible refine (C42.out _ hBw6.out).mono ?_); rintro e w7 ⟨rfl, b7⟩; unfold nameOf; have hB6' := Lib.hid (hB6.out.after b7); have hS6' := Lib.hid (hS6.out.after b7); clear b7)
                  clear d0 d1 d2 d3 d4 d5 y0 y1 y2 hS6 hB6 hBw6
                  go_upto_region 29 with (at_builtin; go_loud (refine bufL2 (W := w7) (.tmp 109) (.tmp 110) _ L6 W2 [46] rfl rfl rfl rfl hB6'.out (by have := hl6.out; simp only [List.length_cons, List.length_nil]; omega) rfl ?_); intro a8 c8 n8 W8' hn8 hB8 hK8; have hS8 := Lib.hid (hK8 _ _ _ (by decide) hS6'.out); replace hB8 := Lib.hid hB8; replace hn8 := Lib.hid hn8; clear hK8)
                  go_wp2_with (at_builtin; go_loud (refine bufS2 (.tmp 112) (.tmp 113) _ _ W2 s rfl rfl rfl rfl hB8.out (by have := hl6.out; simp only [List.length_cons, List.length_nil, List.length_append]; omega) ?_); intro a10 c10 n10 W10 hn10 hB10 hK10; have hS10 := Lib.hid (hK10 _ _ _ (by decide) hS8.out); replace hB10 := Lib.hid hB10; replace hn10 := Lib.hid hn10; clear hK10)
                  go_roundw
                  case rel => exact ⟨q + 1, n10, a10, c10, by omega, by go_num, rfl, by rw [hn10.out, hft.out, ← hL6.out]; simp [encN], by rw [hft.out, ← List.append_assoc, hL6.out]; simpa [encN] using hB10.out, hS10.out⟩
                  case measure => simp [intOf]; omega
                · obtain rfl : q = m := by omega
                  have hall : Hid (L6 = L5 ++ xks.flatMap encN) := Lib.hid (by rw [← hL6.out, List.take_of_length_le (by rw [hm.out]; exact Nat.le_refl _)])
                  go_upto_region 31 with fail
                  have hfin : Hid (L6 ++ [41] = P1 ++ (l.take (j + 1)).flatMap encC) := Lib.hid (by rw [htk.out, ← List.append_assoc, hL0.out, hall.out, ← hL5.out, ← hL3.out]; simp [encC])
                  go_wp2_with (at_builtin; go_loud (refine bufL2 (W := W6) (.tmp 118) (.tmp 119) _ L6 W2 [41] rfl rfl rfl rfl hB6.out (by have := hl5.out; rw [hall.out]; simp only [List.length_cons, List.length_nil, List.length_append]; omega) rfl ?_); intro a9' c9' n9' W9' hn9' hB9' hK9'; rw [hfin.out] at hn9' hB9'; replace hB9' := Lib.hid hB9'; replace hn9' := Lib.hid hn9'; clear hK9')
                  go_roundw
                  case rel => exact ⟨j + 1, n9', a9', c9', by omega, by go_num, rfl, hn9'.out, hB9'.out⟩
                  case measure => simp [intOf]; omega
          · obtain rfl : j = n := by omega
            have hall : P1 ++ l.flatMap encC = L0 := by rw [← hL0.out, List.take_of_length_le (by rw [hn.out]; exact Nat.le_refl _)]
            have hfin : Hid (P0 ++ encL l = L0) := Lib.hid (by rw [← hall, ← hP1.out]; simp [encL])
            go_wp2
            go_roundw
            case rel => exact ⟨1, n7, a7, c7, by omega, by go_num, rfl, by simp only [Nat.one_ne_zero, if_false]; rw [hfin.out]; exact hn7.out, by simp only [Nat.one_ne_zero, if_false]; rw [hfin.out]; exact hB7.out⟩
            case measure => simp [intOf]
      · obtain rfl : ii = 1 := by omega
        simp only [Nat.one_ne_zero, if_false] at hn5 hB5
        replace hB5 := Lib.hid hB5; replace hn5 := Lib.hid hn5
        have hcv := bu_str hB5.out hn5.out (by simp [encL])
        rw [← hP0.out] at hcv
        go_wp2
        exact bodyPost_ret (v := .string (bs (119 :: byt D ++ encL l))) (by simp [results, Try.results37, go_sem]) rfl ⟨rfl, hB2.out.trans (hB5.out.2.mono hB2.out.size)⟩
end Go.Proofs.Ytjigljpodkfchad
