/- FnFlattenMatchesStreamModel: the observer of a compound. -/
import Derived.Test.YtjigljpodkfchadFlz
set_option linter.unusedVariables false
set_option linter.unusedSimpArgs false
namespace Go.Proofs.Ytjigljpodkfchad
open Go.RowKit
set_option maxRecDepth 100000
set_option maxHeartbeats 40000000
theorem info9 : (Try.prog.info? 9).map (fun i => (i.zero.map (·.cells), i.size, i.bytes)) = some (some #[.string ⟨#[]⟩], 1, 16) := by kernel_rfl
theorem info114 : (Try.prog.info? 114).map (fun i => (i.zero.map (·.cells), i.size, i.bytes)) = some (some #[.int .u8 0, .string ⟨#[]⟩, .int .i64 0, .slice none 0 0, .bool false], 5, 64) := by kernel_rfl
/-- a group as it lies -/
structure GR where
  cb : Int
  ty : ByteArray
  nn : Nat
  sv : Value
  we : Bool
abbrev GR.arr (r : GR) : Array Value := #[.int .u8 r.cb, .string r.ty, .int .i64 r.nn, r.sv, .bool r.we]
def GR.cells (r : GR) : List Value := r.arr.toList
theorem GR.len (r : GR) : r.cells.length = 5 := rfl
abbrev strs (l : List ByteArray) : List Value := l.map Value.string
def GRd (w : World) (B : Nat) (r : GR) (g : Gp) : Prop := r.cb = g.cb ∧ r.ty = g.ty ∧ r.nn = g.nn ∧ r.we = g.we ∧ w.ownsRow B 9 1 r.sv g.ks.length (strs g.ks)
theorem GRd.keep {S : Nat → Prop} {w w' : World} {B : Nat} {r : GR} {g : Gp} (h : GRd w B r g) (hk : Kp S w w') (hs : ∀ b, Ob r.sv b → ¬ S b) : GRd w' B r g := ⟨h.1, h.2.1, h.2.2.1, h.2.2.2.1, hk.own h.2.2.2.2 hs⟩
theorem GRd.after {w w' : World} {B : Nat} {r : GR} {g : Gp} (h : GRd w B r g) (hb : Below w.heap.size w w') : GRd w' B r g := ⟨h.1, h.2.1, h.2.2.1, h.2.2.2.1, own_below h.2.2.2.2 hb⟩
/-- a compound as the observer reads it -/
def CpRd (w : World) (tv sv nv : Value) (k : Ck SK) : Prop := ∃ (po sa na : Option Addr) (m sc nc : Nat), tv = .pointer po ∧ sv = .slice sa m sc ∧ nv = .slice na k.nn nc ∧ k.ks.length = m ∧ (match k.ty with
  | none => po = none
  | some s => ∃ B, po = some ⟨B, 0, none⟩ ∧ Seg w B 0 (tyL s)) ∧ ∀ (j : Nat) x, k.ks[j]? = some x → ∃ g t p, sa = some ⟨g, 0, none⟩ ∧ Seg w g (j * 3) [.iface t p, .int .i32 0, .int .i32 0] ∧ SubRd w t p x
theorem RCk.cp {O : Nat → Prop} {w : World} {r : MR} {x : Ck SK} (h : RCk G1 O w r x) : CpRd w r.tv r.sv r.nv x := by
  obtain ⟨po, sa, sc, na, nc, er⟩ := h.shape
  obtain ⟨h1, h2, h3, ls, h4, h5, h6, h7⟩ := h
  subst er
  simp only at h2 h4
  have hl : ls.length = x.ks.length := by rw [← h7, List.length_map]
  refine ⟨po, sa, na, _, sc, nc, rfl, rfl, rfl, rfl, ?_, fun j nm hj => ?_⟩
  · cases ht : x.ty with
    | none => rw [ht] at h2; injection h2
    | some s =>
      rw [ht] at h2
      obtain ⟨B, e, -, hs⟩ := h2
      injection e with e
      exact ⟨B, e, hs⟩
  · rw [← h7, List.getElem?_map] at hj
    cases hs : ls[j]? with
    | none => rw [hs] at hj; cases hj
    | some s =>
      rw [hs] at hj
      injection hj with hj
      subst hj
      have hjl := (List.getElem?_eq_some_iff.1 hs).1
      obtain ⟨g, c', e, -⟩ := own_some h4 (by omega)
      injection e with e
      subst e
      refine ⟨g, s.t, s.p, rfl, own_seg (by rw [hl] at h4; exact h4) (fun i v hi => ?_), (h6 s (List.mem_of_getElem? hs)).rd⟩
      have hj6 : i < 3 := by have := (List.getElem?_eq_some_iff.1 hi).1; simpa [SubR.cells] using this
      rw [flat_at SubR.cells 3 (fun _ => rfl) ls j i s hs hj6]
      exact hi
theorem CpRd.after {w w' : World} {tv sv nv : Value} {k : Ck SK} (h : CpRd w tv sv nv k) (hb : Below w.heap.size w w') : CpRd w' tv sv nv k := by
  obtain ⟨po, sa, na, m, sc, nc, h1, h2, h3, h4, h5, h6⟩ := h
  refine ⟨po, sa, na, m, sc, nc, h1, h2, h3, h4, ?_, fun j x hj => ?_⟩
  · cases ht : k.ty with
    | none => rw [ht] at h5; exact h5
    | some s => rw [ht] at h5; obtain ⟨B, e, hs⟩ := h5; exact ⟨B, e, hs.after hb⟩
  · obtain ⟨g, t, p, e1, e2, e3⟩ := h6 j x hj
    exact ⟨g, t, p, e1, e2.after hb, e3.after hb⟩
def gpK (k : Ck SK) (we : Bool) : Gp := ⟨k.cb, k.ty.getD ⟨#[]⟩, k.nn, k.ks.map enc, we⟩
def CpP (k : Ck SK) (we : Bool) (w : World) (e : Ending) (w' : World) : Prop := ∃ r : GR, e = .returned (.agg r.arr) ∧ GRd w' w.heap.size r (gpK k we) ∧ Below w.heap.size w w'
theorem put5 {w : World} {T : Nat} {a0 a1 a2 a3 a4 : Value} (h : Seg w T 0 [a0, a1, a2, a3, a4]) : w.cell? ⟨T, 0, none⟩ = some a0 ∧ w.cell? ⟨T, 1, none⟩ = some a1 ∧ w.cell? ⟨T, 2, none⟩ = some a2 ∧ w.cell? ⟨T, 3, none⟩ = some a3 ∧ w.cell? ⟨T, 4, none⟩ = some a4 := by
  have := segs5 h
  simpa only [Nat.zero_add] using this
theorem strs_one (l : List ByteArray) : ∀ u ∈ strs l, u.oneCell' = true := fun u hu => by
  obtain ⟨n, -, rfl⟩ := List.mem_map.1 hu; rfl
theorem obs26_c (k : Ck SK) (we : Bool) (tv sv nv : Value) (hn : k.ks.length ≤ 1048576) (hsz : ∀ x ∈ k.ks, SkSz x) (w : World) (h : CpRd w tv sv nv k) : Calls Try.prog 26 #[.agg #[tv, sv, nv, .int .i32 0, .int .u8 k.cb, .bool we]] w (CpP k we w) := by
  obtain ⟨po, sa, na, m, sc, nc, rfl, rfl, rfl, hm, hty, hks⟩ := h
  rw [hm] at hn
  replace hm := Lib.hid hm; replace hty := Lib.hid hty; replace hks := Lib.hid hks; replace hsz := Lib.hid hsz
  obtain ⟨kcb, kty, knn, kks⟩ := k
  simp only at hm hty hks hsz ⊢
  go_enter Try.func26, Try.ntmps26
  go_upto_region 2 with fail
  refine wp_gen (fun W0 hW => ?_)
  have bb : Hid (Below w.heap.size w W0) := Lib.hid (by rw [hW]; exact ((ba _ _).alloc (by simp) _).alloc (by simp; omega) _)
  have sT : Hid (Seg W0 w.heap.size 0 [.pointer po, .slice sa m sc, .slice na knn nc, .int .i32 0, .int .u8 kcb, .bool we]) := Lib.hid (by rw [hW]; exact ((Seg.new _ _ _).after (ba _ _)).after (ba _ _))
  have rR : Hid (Room W0 (w.heap.size + 1) 5) := Lib.hid (by rw [hW]; exact (roomN _ _ _ rfl _).after (ba _ _))
  have sV : Hid (Seg W0 (w.heap.size + 1 + 1) 0 [.int .u8 kcb, .string ⟨#[]⟩, .int .i64 knn, .slice none 0 0, .bool we]) := Lib.hid (by
    rw [hW]
    have := segN (w.alloc (.cells #[.pointer po, .slice sa m sc, .slice na knn nc, .int .i32 0, .int .u8 kcb, .bool we] 102)) (.cells #[.int .u8 0, .string ⟨#[]⟩, .int .i64 0, .slice none 0 0, .bool false] 114) [.int .u8 kcb, .string ⟨#[]⟩, .int .i64 knn, .slice none 0 0, .bool we] 114
    simpa using this)
  have rV : Hid (Room W0 (w.heap.size + 1 + 1) 5) := Lib.hid (by
    rw [hW]
    have := roomN (w.alloc (.cells #[.pointer po, .slice sa m sc, .slice na knn nc, .int .i32 0, .int .u8 kcb, .bool we] 102)) (.cells #[.int .u8 0, .string ⟨#[]⟩, .int .i64 0, .slice none 0 0, .bool false] 114) (n := 5) #[.int .u8 kcb, .string ⟨#[]⟩, .int .i64 knn, .slice none 0 0, .bool we] rfl 114
    simpa using this)
  clear hW
  obtain ⟨T, hT⟩ : ∃ y, w.heap.size = y := ⟨_, rfl⟩
  obtain ⟨R, hR⟩ : ∃ y, T + 1 = y := ⟨_, rfl⟩
  obtain ⟨V, hV⟩ : ∃ y, R + 1 = y := ⟨_, rfl⟩
  rw [hT] at sT
  rw [hT, hR] at rR
  rw [hT, hR, hV] at sV rV
  rw [hT, hR, hV]
  have hTR : T < R := by omega
  have hRV : R < V := by omega
  replace hT := Lib.hid hT
  clear hR hV
  obtain ⟨t0, t1, t2, t3, t4, t5⟩ := segs6 sT.out
  simp only [Nat.zero_add] at t0 t1 t2 t3 t4 t5
  obtain ⟨g0, g1, g2, g3, g4⟩ := put5 sV.out
  obtain ⟨_, _, f1⟩ := rV.out 1 (by omega)
  go_upto_if 16 with fail
  go_cut [] (fun wx => Seg wx V 0 [.int .u8 kcb, .string (kty.getD ⟨#[]⟩), .int .i64 knn, .slice none 0 0, .bool we] ∧ Room wx V 5 ∧ Kp (fun b => b = V) W0 wx)
  case first =>
    cases kty with
    | none =>
      obtain rfl : po = none := hty.out
      go_wp2
      go_meet
      exact ⟨sV.out, rV.out, Kp.refl _⟩
    | some s =>
      obtain ⟨B, rfl, hsB⟩ := hty.out
      have hlt := Seg.lt hsB
      have hsB' := hsB.after bb.out
      have y0 : W0.cell? ⟨B, 0, none⟩ = some (.pointer none) := by simpa using hsB' 0 _ rfl
      have y1 : W0.cell? ⟨B, 1, none⟩ = some (.string s) := by have := hsB' 1 _ rfl; rw [Nat.zero_add] at this; exact this
      have hBV : B ≠ V := by have := hT.out; omega
      have k1 : Hid (Kp (fun b => b = V) W0 (W0.setCell ⟨V, 1, none⟩ (.string s))) := Lib.hid ((Kp.refl _).set _ _ (.inl rfl))
      have y0' := k1.out.cell y0 hBV
      have t0' := k1.out.cell t0 (by show ¬ T = V; omega)
      have sV1 := Lib.hid (sV.out.set 1 (.string s) (by simp))
      have rV1 := Lib.hid (rV.out.setA ⟨V, 1, none⟩ (.string s))
      clear hsB hsB'
      go_wp2
      go_meet
      exact ⟨sV1.out, rV1.out, k1.out⟩
  case rest =>
    obtain ⟨sV1, rV1, k1⟩ := hcut
    obtain ⟨W1, rfl⟩ : ∃ y, y = wc := ⟨_, rfl⟩
    clear t0 t1 t2 t3 t4 t5 g0 g1 g2 g3 g4 f1
    obtain ⟨tyv, htyv⟩ : ∃ y, kty.getD ⟨#[]⟩ = y := ⟨_, rfl⟩
    rw [htyv] at sV1
    replace htyv := Lib.hid htyv
    replace sT := Lib.hid (sT.out.keep (Kc.of_kp k1 (fun _ _ q => q)) (by show ¬ T = V; omega))
    replace rR := Lib.hid (room_kept rR.out k1 (by show ¬ R = V; omega))
    have zb := bb.out.size
    replace bb := Lib.hid (bb.out.trans (k1.below zb (fun b e => by have := hT.out; omega)))
    clear zb k1 sV rV
    replace sV1 := Lib.hid sV1; replace rV1 := Lib.hid rV1
    go_wp2
    go_loopw [4] (fun i wr => ∃ (j : Nat) (va : Option Addr) (vc : Nat), j ≤ m ∧ i = .int .i64 j ∧ Seg wr V 0 [.int .u8 kcb, .string tyv, .int .i64 knn, .slice va j vc, .bool we] ∧ Room wr V 5 ∧ Seg wr T 0 [.pointer po, .slice sa m sc, .slice na knn nc, .int .i32 0, .int .u8 kcb, .bool we] ∧ Room wr R 5 ∧ wr.ownsRow (V + 1) 9 1 (.slice va j vc) j (strs ((kks.take j).map enc)) ∧ Below w.heap.size w wr) (fun i _ => m - (intOf i).toNat)
    case atStart => exact ⟨0, none, 0, by omega, rfl, sV1.out, rV1.out, sT.out, rR.out, World.ownsRow_nil _ _ _ _, bb.out⟩
    case round =>
      clear sV1 rV1 sT rR bb
      obtain ⟨j, va, vc, hj, rfl, sV, rV, sT, rR, hO, bb⟩ := hrel
      obtain ⟨W4, rfl⟩ : ∃ y, y = wr := ⟨_, rfl⟩
      replace sV := Lib.hid sV; replace rV := Lib.hid rV; replace sT := Lib.hid sT; replace rR := Lib.hid rR; replace hO := Lib.hid hO; replace bb := Lib.hid bb
      obtain ⟨t0, t1, t2, t3, t4, t5⟩ := segs6 sT.out
      simp only [Nat.zero_add] at t0 t1 t2 t3 t4 t5
      obtain ⟨g0, g1, g2, g3, g4⟩ := put5 sV.out
      have zV : V < W4.heap.size := rV.out.lt (by omega)
      by_cases hlt : j < m
      · obtain ⟨x, hx⟩ : ∃ x, kks[j]? = some x := ⟨_, List.getElem?_eq_getElem (by rw [hm.out]; exact hlt)⟩
        obtain ⟨gs, tt, pp, rfl, hsg, hrd⟩ := hks.out j x hx
        have htk : Hid ((kks.take (j + 1)).map enc = (kks.take j).map enc ++ [enc x]) := Lib.hid (mapt hx)
        have C37 := Lib.hid (fun W (hb : Below W4.heap.size W4 W) => enc37_c tt pp x (hsz.out x (List.mem_of_getElem? hx)) W (hrd.after (bb.out.trans (hb.mono bb.out.size))))
        obtain ⟨y0, y1, y2⟩ := segs3 (hsg.after bb.out)
        clear hsg hrd hx
        obtain ⟨ex, hex⟩ : ∃ y, enc x = y := ⟨_, rfl⟩
        rw [hex] at htk C37
        clear hex
        have j0 : (0 : Int) ≤ j := by omega
        have j1 : (j : Int) < m := by omega
        have hjn : j ≤ 1048576 := by omega
        go_upto_region 9 with fail
        have hps : PsOk [(fun v _ => v = .pointer (some ⟨V, 3, none⟩)), (fun v _ => v = .slice va j vc), (fun v _ => v = .pointer (some ⟨T, 1, none⟩)), (fun v _ => v = .slice (some ⟨gs, 0, none⟩) m sc), (fun v _ => v = .int .i64 j), (fun v _ => v = .pointer (some ⟨gs, j * 3, none⟩)), (fun v _ => v = .agg #[.iface tt pp, .int .i32 0, .int .i32 0]), (fun v _ => v = .string ex), (fun v W => ∃ bk : Nat, v = .slice (some ⟨bk, 0, none⟩) 1 1 ∧ W4.heap.size ≤ bk ∧ NewAt W bk #[.string ex] 9)] := PsOk.eq (PsOk.eq (PsOk.eq (PsOk.eq (PsOk.eq (PsOk.eq (PsOk.eq (PsOk.eq (PsOk.cons (fun v W W' hb ⟨bk, e1, e2, e3⟩ => ⟨bk, e1, e2, NewAt.after e3 hb⟩) (PsOk.nil)))))))))
        refine QTail.drawn_rel 9 (PsR [(fun v _ => v = .pointer (some ⟨V, 3, none⟩)), (fun v _ => v = .slice va j vc), (fun v _ => v = .pointer (some ⟨T, 1, none⟩)), (fun v _ => v = .slice (some ⟨gs, 0, none⟩) m sc), (fun v _ => v = .int .i64 j), (fun v _ => v = .pointer (some ⟨gs, j * 3, none⟩)), (fun v _ => v = .agg #[.iface tt pp, .int .i32 0, .int .i32 0]), (fun v _ => v = .string ex), (fun v W => ∃ bk : Nat, v = .slice (some ⟨bk, 0, none⟩) 1 1 ∧ W4.heap.size ≤ bk ∧ NewAt W bk #[.string ex] 9)]) (by kernel_rfl) (by kernel_rfl) (fun i v W W' h1 h2 => PsR.after hps i v W W' h1 h2) ?_ ?_
        · clear hps
          simp only [List.take_succ_cons, List.take_zero]
          refine ⟨?_, ?_, ?_, ?_, ?_, ?_, ?_, ?_, ?_, trivial⟩
          all_goals intro vs W' hC hd
          · clear hd hC
            simp only [QTail.putA, Nat.reduceAdd, Act.put, List.setIfInBounds_toArray, List.set_cons_succ, List.set_cons_zero]
            go_wp2
            exact ⟨rfl, Below.refl _ _⟩
          · have e0 : vs 0 = .pointer (some ⟨V, 3, none⟩) := hd { on := 0, ground := Ground.data } (by simp) rfl
            replace g3 := ac hC g3
            clear hd hC
            simp only [QTail.putA, Nat.reduceAdd, Act.put, List.setIfInBounds_toArray, List.set_cons_succ, List.set_cons_zero]
            rw [e0]
            go_wp2
            exact ⟨rfl, Below.refl _ _⟩
          · clear hd hC
            simp only [QTail.putA, Nat.reduceAdd, Act.put, List.setIfInBounds_toArray, List.set_cons_succ, List.set_cons_zero]
            go_wp2
            exact ⟨rfl, Below.refl _ _⟩
          · have e2 : vs 2 = .pointer (some ⟨T, 1, none⟩) := hd { on := 2, ground := Ground.data } (by simp) rfl
            replace t1 := ac hC t1
            clear hd hC
            simp only [QTail.putA, Nat.reduceAdd, Act.put, List.setIfInBounds_toArray, List.set_cons_succ, List.set_cons_zero]
            rw [e2]
            go_wp2
            exact ⟨rfl, Below.refl _ _⟩
          · clear hd hC
            simp only [QTail.putA, Nat.reduceAdd, Act.put, List.setIfInBounds_toArray, List.set_cons_succ, List.set_cons_zero]
            go_wp2
            exact ⟨rfl, Below.refl _ _⟩
          · have e3 : vs 3 = .slice (some ⟨gs, 0, none⟩) m sc := hd { on := 3, ground := Ground.data } (by simp) rfl
            have e4 : vs 4 = .int .i64 j := hd { on := 4, ground := Ground.data } (by simp) rfl
            clear hd hC
            simp only [QTail.putA, Nat.reduceAdd, Act.put, List.setIfInBounds_toArray, List.set_cons_succ, List.set_cons_zero]
            rw [e3]
            rw [e4]
            go_wp2
            exact ⟨rfl, Below.refl _ _⟩
          · have e5 : vs 5 = .pointer (some ⟨gs, j * 3, none⟩) := hd { on := 5, ground := Ground.data } (by simp) rfl
            replace y0 := ac hC y0
            replace y1 := ac hC y1
            replace y2 := ac hC y2
            clear hd hC
            simp only [QTail.putA, Nat.reduceAdd, Act.put, List.setIfInBounds_toArray, List.set_cons_succ, List.set_cons_zero]
            rw [e5]
            go_wp2
            exact ⟨rfl, Below.refl _ _⟩
          · have e6 : vs 6 = .agg #[.iface tt pp, .int .i32 0, .int .i32 0] := hd { on := 6, ground := Ground.data } (by simp) rfl
            have hC' := Lib.hid hC
            have C37' := Lib.hid (C37.out W' hC)
            clear hd hC
            simp only [QTail.putA, Nat.reduceAdd, Act.put, List.setIfInBounds_toArray, List.set_cons_succ, List.set_cons_zero]
            rw [e6]
            go_wp2_with (go_at_call 37; (with_reducible refine C37'.out.mono ?_); rintro e w5 ⟨rfl, tb⟩; replace tb := Lib.hid tb)
            exact ⟨rfl, tb.out⟩
          · have e7 : vs 7 = .string ex := hd { on := 7, ground := Ground.data } (by simp) rfl
            have hC' := Lib.hid hC
            clear hd hC
            simp only [QTail.putA, Nat.reduceAdd, Act.put, List.setIfInBounds_toArray, List.set_cons_succ, List.set_cons_zero]
            rw [e7]
            go_wp2
            exact ⟨⟨_, rfl, hC'.out.size, by show (W'.heap.push _)[W'.heap.size]? = _; simp⟩, ba _ _⟩
        · clear hps
          intro vs W3 b3 hR
          have e1 : vs 1 = .slice va j vc := hR 1 (by omega)
          obtain ⟨bk, e8, hbk, hnb⟩ : ∃ bk : Nat, vs 8 = .slice (some ⟨bk, 0, none⟩) 1 1 ∧ W4.heap.size ≤ bk ∧ NewAt W3 bk #[.string ex] 9 := hR 8 (by omega)
          replace hnb := Lib.hid hnb
          replace b3 := Lib.hid b3
          clear hR
          simp only [List.take_succ_cons, List.take_zero, List.drop_succ_cons, List.drop_zero, QTail.putA, Nat.reduceAdd, Act.put, List.setIfInBounds_toArray, List.set_cons_succ, List.set_cons_zero]
          rw [e1]
          rw [e8]
          clear e1 e8
          generalize vs 0 = zz0
          generalize vs 2 = zz2
          generalize vs 3 = zz3
          generalize vs 4 = zz4
          generalize vs 5 = zz5
          generalize vs 6 = zz6
          generalize vs 7 = zz7
          clear vs
          have zb3 := b3.out.size
          have hO3 := Lib.hid (own_below hO.out b3.out)
          obtain ⟨_, w1, f1⟩ := rV.out 3 (by omega)
          have w1' := ac b3.out w1
          have f1' := af b3.out w1 f1
          clear w1 f1
          have hlow : Hid (∀ b, Ob (.slice va j vc) b → V < b) := Lib.hid (fun b q => by have := (hO.out.lt b q).1; omega)
          have hVn : Hid (¬ Ob (.slice va j vc) V) := Lib.hid (fun q => by have := hlow.out V q; omega)
          go_upto_region 8 with (at_builtin; go_loud (refine app1g (W := W3) (.tmp 42) (.tmp 49) 46 9 (V + 1) 1 16 #[.string ⟨#[]⟩] #[.string ex] bk _ j _ rfl rfl rfl rfl hnb.out Try.underlying46 info9 rfl (by omega) hO3.out rfl (by simp [Value.oneCell']) hjn (by omega) (by omega) ?_); intro v' W5 hO5 hkp hnew; obtain ⟨a5, c5, hu⟩ := own_head hO5; subst hu; have w2' := hkp.cell w1' hVn.out; have f2' := hkp.froz w1' f1' hVn.out; replace hO5 := Lib.hid hO5; replace hkp := Lib.hid hkp; replace hnew := Lib.hid hnew)
          refine wp_gen (fun W6 hW => ?_)
          have z35 := hkp.out.size
          have k6 : Kp (fun b => b = V) W5 W6 := by rw [hW]; exact (Kp.refl _).set _ _ (.inl rfl)
          have s6 : Seg W6 V 0 [.int .u8 kcb, .string tyv, .int .i64 knn, .slice a5 (j + 1) c5, .bool we] := by rw [hW]; exact ((sV.out.after b3.out).keep (Kc.of_kp hkp.out (fun _ _ q => q)) hVn.out).set 3 _ (by simp)
          have r6 : Room W6 V 5 := by rw [hW]; exact (room_kept (rV.out.after b3.out) hkp.out hVn.out).setA _ _
          clear hW
          have kk : Kp (fun b => V ≤ b) W4 W6 := ((Kp.of b3.out).trans (hkp.out.wide (fun b q => by have := hlow.out b q; show V ≤ b; omega))).trans (k6.wide (fun b q => by show V ≤ b; have : b = V := q; omega))
          have sT6 := sT.out.keep (Kc.of_kp kk (fun _ _ q => q)) (by show ¬ V ≤ T; omega)
          have rR6 := room_kept rR.out kk (by show ¬ V ≤ R; omega)
          have hO6 := k6.own hO5.out (fun b q e => by have := (hO5.out.lt b q).1; have : b = V := e; omega)
          have RR : ∃ (j' : Nat) (va : Option Addr) (vc : Nat), j' ≤ m ∧ Value.int .i64 ((j : Int) + 1) = .int .i64 j' ∧ Seg W6 V 0 [.int .u8 kcb, .string tyv, .int .i64 knn, .slice va j' vc, .bool we] ∧ Room W6 V 5 ∧ Seg W6 T 0 [.pointer po, .slice (some ⟨gs, 0, none⟩) m sc, .slice na knn nc, .int .i32 0, .int .u8 kcb, .bool we] ∧ Room W6 R 5 ∧ W6.ownsRow (V + 1) 9 1 (.slice va j' vc) j' (strs ((kks.take j').map enc)) ∧ Below w.heap.size w W6 := ⟨j + 1, a5, c5, by omega, by go_num, s6, r6, sT6, rR6, by rw [htk.out, strs, List.map_append]; exact hO6, bb.out.trans (kk.below bb.out.size (fun b q => by have : V ≤ b := q; have := hT.out; omega))⟩
          clear s6 r6 k6 sT6 rR6 hO6 kk
          replace RR := Lib.hid RR
          go_wp2
          exact ⟨RR.out, by simp [intOf] <;> omega⟩
      · obtain rfl : j = m := by omega
        have hall : Hid (strs ((kks.take j).map enc) = strs (kks.map enc)) := Lib.hid (by rw [List.take_of_length_le (by rw [hm.out]; exact Nat.le_refl _)])
        obtain ⟨_, u0, p0⟩ := rR.out 0 (by omega); obtain ⟨_, u1, p1⟩ := rR.out 1 (by omega); obtain ⟨_, u2, p2⟩ := rR.out 2 (by omega); obtain ⟨_, u3, p3⟩ := rR.out 3 (by omega); obtain ⟨_, u4, p4⟩ := rR.out 4 (by omega)
        have Z : Hid (∀ (w1 : World) (i : Nat) (v : Value), Kp (fun b => b = R) W4 w1 → Kp (fun b => b = R) W4 (w1.setCell ⟨R, i, none⟩ v)) := Lib.hid (fun w1 i v hh => hh.set _ _ (.inl rfl))
        go_wp2
        have K := Z.out _ 4 (.bool we) (Z.out _ 3 (.slice va j vc) (Z.out _ 2 (.int .i64 knn) (Z.out _ 1 (.string tyv) (Z.out _ 0 (.int .u8 kcb) (Kp.refl W4)))))
        refine bodyPost_ret (v := .agg #[.int .u8 kcb, .string tyv, .int .i64 knn, .slice va j vc, .bool we]) (by simp [results, Try.results26, go_sem, u0, u1, u2, u3, u4]) rfl ⟨⟨kcb, tyv, knn, .slice va j vc, we⟩, rfl, ⟨rfl, htyv.out.symm, rfl, rfl, ?_⟩, bb.out.trans (K.below bb.out.size (fun b e => by have : b = R := e; have := hT.out; omega))⟩
        have h1 := K.own hO.out (fun b q e => by have := (hO.out.lt b q).1; have : b = R := e; omega)
        rw [hall.out] at h1
        have h2 := own_base h1 (show w.heap.size ≤ V + 1 by have := hT.out; omega)
        show World.ownsRow _ _ 9 1 _ (kks.map enc).length _
        rw [List.length_map, hm.out]
        exact h2
end Go.Proofs.Ytjigljpodkfchad
