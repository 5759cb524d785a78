/- FnFlattenMatchesStreamModel: the model where nothing is flattened. -/
import Derived.Test.YtjigljpodkfchadFmc
set_option linter.unusedVariables false
set_option linter.unusedSimpArgs false
namespace Go.Proofs.Ytjigljpodkfchad
open Go.RowKit
set_option maxRecDepth 100000
set_option maxHeartbeats 40000000
theorem new_segs4 {W : World} {C : Nat} {v0 v1 v2 v3 : Value} {ty : TypeId} (h : NewAt W C #[v0, v1, v2, v3] ty) : W.cell? ⟨C, 0, none⟩ = some v0 ∧ W.cell? ⟨C, 1, none⟩ = some v1 ∧ W.cell? ⟨C, 2, none⟩ = some v2 ∧ W.cell? ⟨C, 3, none⟩ = some v3 := ⟨h.cell rfl, h.cell rfl, h.cell rfl, h.cell rfl⟩
theorem new_segs5 {W : World} {C : Nat} {v0 v1 v2 v3 v4 : Value} {ty : TypeId} (h : NewAt W C #[v0, v1, v2, v3, v4] ty) : W.cell? ⟨C, 0, none⟩ = some v0 ∧ W.cell? ⟨C, 1, none⟩ = some v1 ∧ W.cell? ⟨C, 2, none⟩ = some v2 ∧ W.cell? ⟨C, 3, none⟩ = some v3 ∧ W.cell? ⟨C, 4, none⟩ = some v4 := ⟨h.cell rfl, h.cell rfl, h.cell rfl, h.cell rfl, h.cell rfl⟩
theorem new_froz {W : World} {b : Nat} {cs : Array Value} {t : TypeId} (h : NewAt W b cs t) (j : Nat) : W.frozen? ⟨b, j, none⟩ = false := by
  unfold NewAt at h
  simp [World.frozen?, h]
theorem new_froz5 {W : World} {b : Nat} {cs : Array Value} {t : TypeId} (h : NewAt W b cs t) : W.frozen? ⟨b, 0, none⟩ = false ∧ W.frozen? ⟨b, 1, none⟩ = false ∧ W.frozen? ⟨b, 2, none⟩ = false ∧ W.frozen? ⟨b, 3, none⟩ = false ∧ W.frozen? ⟨b, 4, none⟩ = false := ⟨new_froz h 0, new_froz h 1, new_froz h 2, new_froz h 3, new_froz h 4⟩
theorem new_seg {W : World} {b : Nat} {vs : List Value} {t : TypeId} (h : NewAt W b vs.toArray t) : Seg W b 0 vs := fun j v hj => by
  rw [Nat.zero_add]
  exact h.cell (by simpa using hj)
theorem new_room {W : World} {b n : Nat} {cs : Array Value} {t : TypeId} (h : NewAt W b cs t) (hn : cs.size = n) : Room W b n := fun j hj => by
  obtain ⟨v, hv⟩ : ∃ v, cs[j]? = some v := ⟨_, Array.getElem?_eq_getElem (by omega)⟩
  exact ⟨v, h.cell hv, new_froz h j⟩
theorem NewAt.kp {S : Nat → Prop} {W W' : World} {b : Nat} {cs : Array Value} {t : TypeId} (h : NewAt W b cs t) (hk : Kp S W W') (hs : ¬ S b) : NewAt W' b cs t := by
  unfold NewAt at *
  rw [hk.block b (Array.getElem?_eq_some_iff.1 h).1 hs]
  exact h
def MdP (gs : List Gp) (b : Bool) (w : World) (e : Ending) (w' : World) : Prop := ∃ v rs, e = .returned (.tuple #[v, .bool b]) ∧ GsR w' w.heap.size v rs gs ∧ Below w.heap.size w w'
/-- sizes that the model wants of its argument -/
def SzI2 (s : Zs) : Prop := s.nm.size ≤ 1048576 ∧ s.inn.length ≤ 1048576 ∧ (encL (s.inn.map Zi.key)).length ≤ 20000000
def SzC2 (c : Zc) : Prop := c.ss.length ≤ 1048576 ∧ ∀ s ∈ c.ss, SzI2 s
theorem mod11a_c (act : Bool) (l : List Zc) (n : Nat) (hn : l.length = n) (hn2 : n ≤ 1048576) (hin : ∀ x ∈ l, SzC2 x) (hno : act = false ∨ hasK l = false) (a : Option Addr) (cc : Nat) (w : World) (h : RC w a l) : Calls Try.prog 11 #[.slice a n cc, .bool act] w (MdP (l.map (fun c => gpK c.key false)) false w) := by
  have C22 : Hid (act = true → ∀ W, Below w.heap.size w W → Calls Try.prog 22 #[.slice a n cc] W (RetV (.bool false) W)) := Lib.hid (fun ha W hb => by
    have := has22_c l n hn hn2 (fun x hx => (hin x hx).1) a cc W (h.after hb)
    rcases hno with e | e
    · rw [e] at ha; cases ha
    · rw [e] at this; exact this)
  clear hno
  have mk := make0_z (P := Try.prog) #[.int .u8 0, .string ⟨#[]⟩, .int .i64 0, .slice none 0 0, .bool false] Try.underlying34 info114 n (by omega) (by omega)
  replace hn := Lib.hid hn; replace hin := Lib.hid hin; replace h := Lib.hid h
  go_enter Try.func11, Try.ntmps11
  cases act
  case' false =>
    clear C22
    go_upto_region 2 with fail
    have bb : Hid (Below w.heap.size w w) := Lib.hid (Below.refl _ _)
    obtain ⟨W, hWw⟩ : ∃ y, w = y := ⟨_, rfl⟩
    replace bb : Hid (Below w.heap.size w W) := by rw [← hWw]; exact bb
    have hgo : ∀ (c : Code) (Q : Exit → Act → World → Prop) (x : Act), c.wp Try.prog Q x W → c.wp Try.prog Q x w := fun c Q x hh => by rw [hWw]; exact hh
    refine hgo _ _ _ ?_
    clear hgo hWw
  case' true =>
    have C22' := Lib.hid (C22.out rfl w (Below.refl _ _))
    clear C22
    go_upto_region 2 with (go_at_call 22; (with_reducible refine C22'.out.mono ?_); rintro e W ⟨rfl, bb⟩; replace bb := Lib.hid bb)
  all_goals
    go_upto_region 3 with fail
    clear mk
    refine wp_gen (fun W0 hW => ?_)
    have b0 : Hid (Below w.heap.size w W0) := Lib.hid (by rw [hW]; exact bb.out.trans ((ba _ _).mono bb.out.size))
    have hO : Hid (W0.ownsRow w.heap.size 114 5 (.slice (some ⟨W.heap.size, 0, none⟩) 0 n) 0 []) := Lib.hid (by
      rw [hW]
      have := World.ownsRow_made (base := w.heap.size) (e := 114) (size := 5) W (madeCells #[.int .u8 0, .string ⟨#[]⟩, .int .i64 0, .slice none 0 0, .bool false] (n * 5)) n bb.out.size (by unfold maxLen; omega) (by rw [size_madeCells])
      simpa using this)
    clear hW
    obtain ⟨g0, hg0⟩ : ∃ y, W.heap.size = y := ⟨_, rfl⟩
    rw [hg0] at hO ⊢
    clear hg0 bb
    go_wp2
    go_loopw [6, 7] (fun v i wr => ∃ (k : Nat) (va : Option Addr) (vc : Nat) (rs : List GR), k ≤ n ∧ i = .int .i64 k ∧ v = .slice va k vc ∧ GsR wr w.heap.size (.slice va k vc) rs ((l.take k).map (fun c => gpK c.key false)) ∧ Below w.heap.size w wr) (fun _ i _ => n - (intOf i).toNat)
    case atStart => exact ⟨0, some ⟨g0, 0, none⟩, n, [], by omega, rfl, rfl, ⟨hO.out, rfl, fun j r g hr _ => by simp at hr⟩, b0.out⟩
    case round =>
      clear hO b0
      obtain ⟨k, va, vc, rs, hk, rfl, rfl, hG, bb⟩ := hrel
      obtain ⟨W1, rfl⟩ : ∃ y, y = wr := ⟨_, rfl⟩
      replace hG := Lib.hid hG; replace bb := Lib.hid bb
      by_cases hlt : k < n
      · obtain ⟨x, hx⟩ : ∃ x, l[k]? = some x := ⟨_, List.getElem?_eq_getElem (by rw [hn.out]; exact hlt)⟩
        obtain ⟨b, o, a', c', rfl, hs, hRS, -, hcb, hty, ham⟩ := h.out k x hx
        have htk : Hid ((l.take (k + 1)).map (fun c => gpK c.key false) = (l.take k).map (fun c => gpK c.key false) ++ [gpK x.key false]) := Lib.hid (mapt (f := fun c => gpK (Zc.key c) false) hx)
        obtain ⟨hx1, hx2⟩ := hin.out x (List.mem_of_getElem? hx)
        have hlk : Hid (((l.take k).map (fun c => gpK (Zc.key c) false)).length = k) := Lib.hid (by rw [List.length_map, List.length_take, hn.out]; omega)
        clear hx
        obtain ⟨xcb, xty, xam, xss⟩ := x
        simp only at hcb hty ham hx1 hx2 hRS
        obtain ⟨m, hm⟩ : ∃ y, xss.length = y := ⟨_, rfl⟩
        obtain ⟨d0, d1, d2, d3⟩ := segs4' ((show Seg w b (o + k * 4) [.int .u8 xcb, .int .u8 xty, .int .u8 xam, .slice a' m c'] by rw [← hm]; exact hs).after bb.out)
        rw [hm] at hx1
        replace hm := Lib.hid hm; replace hRS := Lib.hid hRS; replace hx2 := Lib.hid hx2
        clear hs
        have C18 := Lib.hid (fun W => comb18_c xcb hcb.1 hcb.2 W)
        have C23 := Lib.hid (fun W => let23_c xty hty.1 hty.2 W)
        have hwam := wk64 (x := (xam : Int)) (by omega) (by omega)
        have i0 : (0 : Int) ≤ k := by omega
        have i1 : (k : Int) < n := by omega
        clear hcb hty
        go_upto_region 7 with fail
        refine wp_gen (fun W2 hW => ?_)
        have b2 : Hid (Below W1.heap.size W1 W2) := Lib.hid (by rw [hW]; exact ba _ _)
        have hC2 : Hid (NewAt W2 W1.heap.size #[.int .u8 xcb, .int .u8 xty, .int .u8 xam, .slice a' m c'] 42) := Lib.hid (by rw [hW]; exact newA _ _ _)
        have hz2 : W2.heap.size = W1.heap.size + 1 := by rw [hW]; simp
        clear hW d0 d1 d2 d3
        obtain ⟨C, hC⟩ : ∃ y, W1.heap.size = y := ⟨_, rfl⟩
        rw [hC] at hC2 hz2 ⊢
        have hCw := Lib.hid hC
        replace hz2 := Lib.hid hz2
        clear hC
        obtain ⟨d0, d1, d2, d3⟩ := new_segs4 hC2.out
        have hps : PsOk [(fun v _ => v = .pointer (some ⟨C, 0, none⟩)), (fun v _ => v = .int .u8 xcb), (fun v _ => v = .int .u8 (combZ xcb)), (fun v _ => v = .pointer (some ⟨C, 2, none⟩)), (fun v _ => v = .int .u8 xam), (fun v _ => v = .int .i64 xam), (fun v _ => v = .agg #[.int .u8 (combZ xcb), .string ⟨#[]⟩, .int .i64 xam, .slice none 0 0, .bool false]), (fun v W => ∃ V : Nat, v = .pointer (some ⟨V, 0, none⟩) ∧ W2.heap.size ≤ V ∧ NewAt W V #[.int .u8 0, .string ⟨#[]⟩, .int .i64 0, .slice none 0 0, .bool false] 114)] := PsOk.eq (PsOk.eq (PsOk.eq (PsOk.eq (PsOk.eq (PsOk.eq (PsOk.eq (PsOk.cons (fun v W W' hb ⟨bk, e1, e2, e3⟩ => ⟨bk, e1, e2, NewAt.after e3 hb⟩) (PsOk.nil))))))))
        refine QTail.drawn_rel 8 (PsR [(fun v _ => v = .pointer (some ⟨C, 0, none⟩)), (fun v _ => v = .int .u8 xcb), (fun v _ => v = .int .u8 (combZ xcb)), (fun v _ => v = .pointer (some ⟨C, 2, none⟩)), (fun v _ => v = .int .u8 xam), (fun v _ => v = .int .i64 xam), (fun v _ => v = .agg #[.int .u8 (combZ xcb), .string ⟨#[]⟩, .int .i64 xam, .slice none 0 0, .bool false]), (fun v W => ∃ V : Nat, v = .pointer (some ⟨V, 0, none⟩) ∧ W2.heap.size ≤ V ∧ NewAt W V #[.int .u8 0, .string ⟨#[]⟩, .int .i64 0, .slice none 0 0, .bool false] 114)]) (by kernel_rfl) (by kernel_rfl) (fun i v W W' h1 h2 => PsR.after hps i v W W' h1 h2) ?_ ?_
        · clear hps
          simp only [List.take_succ_cons, List.take_zero]
          refine ⟨?_, ?_, ?_, ?_, ?_, ?_, ?_, ?_, trivial⟩
          all_goals intro vs W' hC hd
          · clear hd hC
            simp only [QTail.putA, Nat.reduceAdd, Act.put, List.setIfInBounds_toArray, List.set_cons_succ, List.set_cons_zero]
            go_wp2
            exact ⟨rfl, Below.refl _ _⟩
          · have e0 : vs 0 = .pointer (some ⟨C, 0, none⟩) := hd { on := 0, ground := Ground.data } (by simp) rfl
            replace d0 := ac hC d0
            clear hd hC
            simp only [QTail.putA, Nat.reduceAdd, Act.put, List.setIfInBounds_toArray, List.set_cons_succ, List.set_cons_zero]
            rw [e0]
            go_wp2
            exact ⟨rfl, Below.refl _ _⟩
          · have e1 : vs 1 = .int .u8 xcb := hd { on := 1, ground := Ground.data } (by simp) rfl
            clear hd hC
            simp only [QTail.putA, Nat.reduceAdd, Act.put, List.setIfInBounds_toArray, List.set_cons_succ, List.set_cons_zero]
            rw [e1]
            go_wp2_with (go_at_call 18; (with_reducible refine (C18.out _).mono ?_); rintro e w5 ⟨rfl, rfl⟩)
            exact ⟨rfl, Below.refl _ _⟩
          · clear hd hC
            simp only [QTail.putA, Nat.reduceAdd, Act.put, List.setIfInBounds_toArray, List.set_cons_succ, List.set_cons_zero]
            go_wp2
            exact ⟨rfl, Below.refl _ _⟩
          · have e3 : vs 3 = .pointer (some ⟨C, 2, none⟩) := hd { on := 3, ground := Ground.data } (by simp) rfl
            replace d2 := ac hC d2
            clear hd hC
            simp only [QTail.putA, Nat.reduceAdd, Act.put, List.setIfInBounds_toArray, List.set_cons_succ, List.set_cons_zero]
            rw [e3]
            go_wp2
            exact ⟨rfl, Below.refl _ _⟩
          · have e4 : vs 4 = .int .u8 xam := hd { on := 4, ground := Ground.data } (by simp) rfl
            clear hd hC
            simp only [QTail.putA, Nat.reduceAdd, Act.put, List.setIfInBounds_toArray, List.set_cons_succ, List.set_cons_zero]
            rw [e4]
            go_wp2
            exact ⟨rfl, Below.refl _ _⟩
          · have e2 : vs 2 = .int .u8 (combZ xcb) := hd { on := 2, ground := Ground.data } (by simp) rfl
            have e5 : vs 5 = .int .i64 xam := hd { on := 5, ground := Ground.data } (by simp) rfl
            clear hd hC
            simp only [QTail.putA, Nat.reduceAdd, Act.put, List.setIfInBounds_toArray, List.set_cons_succ, List.set_cons_zero]
            rw [e2]
            rw [e5]
            go_wp2
            exact ⟨rfl, Below.refl _ _⟩
          · have hC' := Lib.hid hC
            clear hd hC
            simp only [QTail.putA, Nat.reduceAdd, Act.put, List.setIfInBounds_toArray, List.set_cons_succ, List.set_cons_zero]
            go_wp2
            exact ⟨⟨_, rfl, hC'.out.size, newA _ _ _⟩, ba _ _⟩
        · clear hps
          intro vs W3 b3 hR
          have e6 : vs 6 = .agg #[.int .u8 (combZ xcb), .string ⟨#[]⟩, .int .i64 xam, .slice none 0 0, .bool false] := hR 6 (by omega)
          obtain ⟨V, e7, hbV, hnV⟩ : ∃ V : Nat, vs 7 = .pointer (some ⟨V, 0, none⟩) ∧ W2.heap.size ≤ V ∧ NewAt W3 V #[.int .u8 0, .string ⟨#[]⟩, .int .i64 0, .slice none 0 0, .bool false] 114 := hR 7 (by omega)
          replace hnV := Lib.hid hnV
          replace b3 := Lib.hid b3
          clear hR
          simp only [List.take_succ_cons, List.take_zero, List.drop_succ_cons, List.drop_zero, QTail.putA, Nat.reduceAdd, Act.put, List.setIfInBounds_toArray, List.set_cons_succ, List.set_cons_zero]
          rw [e6]
          rw [e7]
          clear e6 e7
          generalize vs 0 = zz0
          generalize vs 1 = zz1
          generalize vs 2 = zz2
          generalize vs 3 = zz3
          generalize vs 4 = zz4
          generalize vs 5 = zz5
          clear vs
          have zV := (Array.getElem?_eq_some_iff.1 hnV.out).1
          obtain ⟨v0, v1, v2, v3, v4⟩ := new_segs5 hnV.out
          obtain ⟨f0, f1, f2, f3, f4⟩ := new_froz5 hnV.out
          have hCV : C < V := by have := hz2.out; omega
          have hC3 := Lib.hid (hC2.out.after b3.out)
          have Z : Hid (∀ (w1 : World) (j : Nat) (v : Value), Kp (fun b => b = V) W3 w1 → Kp (fun b => b = V) W3 (w1.setCell ⟨V, j, none⟩ v)) := Lib.hid (fun w1 j v hh => hh.set _ _ (.inl rfl))
          have S0 : Hid (Seg W3 V 0 [.int .u8 0, .string ⟨#[]⟩, .int .i64 0, .slice none 0 0, .bool false] ∧ Room W3 V 5) := Lib.hid ⟨new_seg hnV.out, new_room hnV.out rfl⟩
          clear d0 d1 d2 d3
          go_upto_region 8 with fail
          refine wp_gen (fun W4 hW => ?_)
          have k4 : Hid (Kp (fun b => b = V) W3 W4) := Lib.hid (by rw [hW]; exact Z.out _ 4 _ (Z.out _ 3 _ (Z.out _ 2 _ (Z.out _ 1 _ (Z.out _ 0 _ (Kp.refl W3))))))
          have s4 : Hid (Seg W4 V 0 [.int .u8 (combZ xcb), .string ⟨#[]⟩, .int .i64 xam, .slice none 0 0, .bool false]) := Lib.hid (by rw [hW]; exact ((((S0.out.1.set 0 _ (by simp)).set 1 _ (by simp)).set 2 _ (by simp)).set 3 _ (by simp)).set 4 _ (by simp))
          have r4 : Hid (Room W4 V 5) := Lib.hid (by rw [hW]; exact ((((S0.out.2.setA _ _).setA _ _).setA _ _).setA _ _).setA _ _)
          clear hW v0 v1 v2 v3 v4 f0 f1 f2 f3 f4 S0 Z hnV
          have hC4 := Lib.hid (hC3.out.kp k4.out (by show ¬ C = V; omega))
          have b4 : Hid (Below W1.heap.size W1 W4) := Lib.hid (b2.out.trans ((b3.out.trans (k4.out.below (by have := b3.out.size; omega) (fun b e => by have : b = V := e; omega))).mono (by have := b2.out.size; omega)))
          have zV4 : V < W4.heap.size := r4.out.lt (by omega)
          clear k4 b2 b3 hC3 hC2 zV
          obtain ⟨d0, d1, d2, d3⟩ := new_segs4 hC4.out
          obtain ⟨v0, v1, v2, v3, v4⟩ := put5 s4.out
          obtain ⟨_, _, f1⟩ := r4.out 1 (by omega)
          go_upto_if 55 with fail
          go_cut [] (fun wx => Seg wx V 0 [.int .u8 (combZ xcb), .string ((tyK xty).getD ⟨#[]⟩), .int .i64 xam, .slice none 0 0, .bool false] ∧ Room wx V 5 ∧ Kp (fun b => V ≤ b) W4 wx)
          case first =>
            by_cases h0 : xty = 0
            · have q : (xty != 0) = false := by simp [h0]
              have hty : Hid ((tyK xty).getD ⟨#[]⟩ = ⟨#[]⟩) := Lib.hid (by unfold tyK; rw [if_pos h0]; rfl)
              clear h0
              go_wp2
              go_meet
              exact ⟨by rw [hty.out]; exact s4.out, r4.out, Kp.refl _⟩
            · have q : (xty != 0) = true := by simp [h0]
              have hty : Hid ((tyK xty).getD ⟨#[]⟩ = bs [letZ xty]) := Lib.hid (by unfold tyK; rw [if_neg h0]; rfl)
              clear h0
              go_wp2_with (go_at_call 23; (with_reducible refine (C23.out _).mono ?_); rintro e w7 ⟨rfl, b7⟩; have f1' := af b7 v1 f1; have v1' := ac b7 v1; have d0' := ac b7 d0; replace b7 := Lib.hid b7)
              go_meet
              refine ⟨?_, (r4.out.after b7.out).setA _ _, (Kp.of b7.out).trans ((Kp.refl _).set _ _ (.inl (Nat.le_refl _)))⟩
              rw [hty.out]
              exact (s4.out.after b7.out).set 1 _ (by simp)
          case rest =>
            obtain ⟨s5, r5, k5⟩ := hcut
            obtain ⟨W5, rfl⟩ : ∃ y, y = wc := ⟨_, rfl⟩
            clear d0 d1 d2 d3 v0 v1 v2 v3 v4 f1 s4 r4
            obtain ⟨tyv, htyv⟩ : ∃ y, (tyK xty).getD ⟨#[]⟩ = y := ⟨_, rfl⟩
            rw [htyv] at s5
            replace htyv := Lib.hid htyv
            replace s5 := Lib.hid s5; replace r5 := Lib.hid r5
            have hC5 := Lib.hid (hC4.out.kp k5 (by show ¬ V ≤ C; omega))
            have b5 : Hid (Below W1.heap.size W1 W5) := Lib.hid (b4.out.trans (k5.below (by have := b4.out.size; omega) (fun b e => by have : V ≤ b := e; have := hCw.out; omega)))
            clear k5 b4 hC4 zV4
            obtain ⟨d0, d1, d2, d3⟩ := new_segs4 hC5.out
            go_wp2
            clear d0 d1 d2 d3
            go_loopw [10] (fun i wr => ∃ (j : Nat) (sa : Option Addr) (sc : Nat), j ≤ m ∧ i = .int .i64 j ∧ Seg wr V 0 [.int .u8 (combZ xcb), .string tyv, .int .i64 xam, .slice sa j sc, .bool false] ∧ Room wr V 5 ∧ NewAt wr C #[.int .u8 xcb, .int .u8 xty, .int .u8 xam, .slice a' m c'] 42 ∧ wr.ownsRow (V + 1) 9 1 (.slice sa j sc) j (strs ((xss.take j).map (fun s => enc s.key))) ∧ Below W1.heap.size W1 wr) (fun i _ => m - (intOf i).toNat)
            case atStart => exact ⟨0, none, 0, by omega, rfl, s5.out, r5.out, hC5.out, World.ownsRow_nil _ _ _ _, b5.out⟩
            case round =>
              clear s5 r5 hC5 b5
              obtain ⟨j, sa, sc, hj, rfl, sV, rV, hC6, hO, b6⟩ := hrel
              obtain ⟨W6, rfl⟩ : ∃ y, y = wr := ⟨_, rfl⟩
              replace sV := Lib.hid sV; replace rV := Lib.hid rV; replace hC6 := Lib.hid hC6; replace hO := Lib.hid hO; replace b6 := Lib.hid b6
              obtain ⟨d0, d1, d2, d3⟩ := new_segs4 hC6.out
              obtain ⟨g0, g1, g2, g3, g4⟩ := put5 sV.out
              have zV : V < W6.heap.size := rV.out.lt (by omega)
              have hCz := hCw.out
              by_cases hltj : j < m
              · obtain ⟨s, hsj⟩ : ∃ s, xss[j]? = some s := ⟨_, List.getElem?_eq_getElem (by rw [hm.out]; exact hltj)⟩
                have hbw := bb.out.trans (b6.out.mono bb.out.size)
                obtain ⟨nb, no, ia, ic, rfl, hcs, hRI, -, hkd, -⟩ := (hRS.out.after hbw) j s hsj
                have htj : Hid ((xss.take (j + 1)).map (fun s => enc s.key) = (xss.take j).map (fun s => enc s.key) ++ [enc s.key]) := Lib.hid (mapt (f := fun s => enc (Zs.key s)) hsj)
                obtain ⟨hz1, hz3, hz4⟩ := hx2.out s (List.mem_of_getElem? hsj)
                have C24 := Lib.hid (fun W (hb : Below W6.heap.size W6 W) => enc24_c s ia ic hkd hz1 hz3 hz4 W (hRI.after hb))
                clear hRI hsj hz1 hz3 hz4 hbw hkd
                obtain ⟨ex, hex⟩ : ∃ y, enc s.key = y := ⟨_, rfl⟩
                rw [hex] at htj C24
                clear hex
                obtain ⟨il, hil⟩ : ∃ y, s.inn.length = y := ⟨_, rfl⟩
                obtain ⟨y0, y1, y2, y3⟩ := segs4' (show Seg W6 nb (no + j * 4) [.bool s.wr, .int .u8 s.kd, .string s.nm, .slice ia il ic] by rw [← hil]; exact hcs)
                rw [hil] at C24
                clear hcs hil
                have j0 : (0 : Int) ≤ j := by omega
                have j1 : (j : Int) < m := by omega
                have hjn : j ≤ 1048576 := by omega
                go_upto_region 13 with fail
                have hps : PsOk [(fun v _ => v = .pointer (some ⟨V, 3, none⟩)), (fun v _ => v = .slice sa j sc), (fun v _ => v = .pointer (some ⟨C, 3, none⟩)), (fun v _ => v = .slice (some ⟨nb, no, none⟩) m c'), (fun v _ => v = .int .i64 j), (fun v _ => v = .pointer (some ⟨nb, no + j * 4, none⟩)), (fun v _ => v = .agg #[.bool s.wr, .int .u8 s.kd, .string s.nm, .slice ia il ic]), (fun v _ => v = .string ex), (fun v W => ∃ bk : Nat, v = .slice (some ⟨bk, 0, none⟩) 1 1 ∧ W6.heap.size ≤ bk ∧ NewAt W bk #[.string ex] 9)] := PsOk.eq (PsOk.eq (PsOk.eq (PsOk.eq (PsOk.eq (PsOk.eq (PsOk.eq (PsOk.eq (PsOk.cons (fun v W W' hb ⟨bk, e1, e2, e3⟩ => ⟨bk, e1, e2, NewAt.after e3 hb⟩) (PsOk.nil)))))))))
                refine QTail.drawn_rel 9 (PsR [(fun v _ => v = .pointer (some ⟨V, 3, none⟩)), (fun v _ => v = .slice sa j sc), (fun v _ => v = .pointer (some ⟨C, 3, none⟩)), (fun v _ => v = .slice (some ⟨nb, no, none⟩) m c'), (fun v _ => v = .int .i64 j), (fun v _ => v = .pointer (some ⟨nb, no + j * 4, none⟩)), (fun v _ => v = .agg #[.bool s.wr, .int .u8 s.kd, .string s.nm, .slice ia il ic]), (fun v _ => v = .string ex), (fun v W => ∃ bk : Nat, v = .slice (some ⟨bk, 0, none⟩) 1 1 ∧ W6.heap.size ≤ bk ∧ NewAt W bk #[.string ex] 9)]) (by kernel_rfl) (by kernel_rfl) (fun i v W W' h1 h2 => PsR.after hps i v W W' h1 h2) ?_ ?_
                · clear hps
                  simp only [List.take_succ_cons, List.take_zero]
                  refine ⟨?_, ?_, ?_, ?_, ?_, ?_, ?_, ?_, ?_, trivial⟩
                  all_goals intro vs W' hC hd
                  · clear hd hC
                    simp only [QTail.putA, Nat.reduceAdd, Act.put, List.setIfInBounds_toArray, List.set_cons_succ, List.set_cons_zero]
                    go_wp2
                    exact ⟨rfl, Below.refl _ _⟩
                  · have e0 : vs 0 = .pointer (some ⟨V, 3, none⟩) := hd { on := 0, ground := Ground.data } (by simp) rfl
                    replace g3 := ac hC g3
                    clear hd hC
                    simp only [QTail.putA, Nat.reduceAdd, Act.put, List.setIfInBounds_toArray, List.set_cons_succ, List.set_cons_zero]
                    rw [e0]
                    go_wp2
                    exact ⟨rfl, Below.refl _ _⟩
                  · clear hd hC
                    simp only [QTail.putA, Nat.reduceAdd, Act.put, List.setIfInBounds_toArray, List.set_cons_succ, List.set_cons_zero]
                    go_wp2
                    exact ⟨rfl, Below.refl _ _⟩
                  · have e2 : vs 2 = .pointer (some ⟨C, 3, none⟩) := hd { on := 2, ground := Ground.data } (by simp) rfl
                    replace d3 := ac hC d3
                    clear hd hC
                    simp only [QTail.putA, Nat.reduceAdd, Act.put, List.setIfInBounds_toArray, List.set_cons_succ, List.set_cons_zero]
                    rw [e2]
                    go_wp2
                    exact ⟨rfl, Below.refl _ _⟩
                  · clear hd hC
                    simp only [QTail.putA, Nat.reduceAdd, Act.put, List.setIfInBounds_toArray, List.set_cons_succ, List.set_cons_zero]
                    go_wp2
                    exact ⟨rfl, Below.refl _ _⟩
                  · have e3 : vs 3 = .slice (some ⟨nb, no, none⟩) m c' := hd { on := 3, ground := Ground.data } (by simp) rfl
                    have e4 : vs 4 = .int .i64 j := hd { on := 4, ground := Ground.data } (by simp) rfl
                    clear hd hC
                    simp only [QTail.putA, Nat.reduceAdd, Act.put, List.setIfInBounds_toArray, List.set_cons_succ, List.set_cons_zero]
                    rw [e3]
                    rw [e4]
                    go_wp2
                    exact ⟨rfl, Below.refl _ _⟩
                  · have e5 : vs 5 = .pointer (some ⟨nb, no + j * 4, none⟩) := hd { on := 5, ground := Ground.data } (by simp) rfl
                    replace y0 := ac hC y0
                    replace y1 := ac hC y1
                    replace y2 := ac hC y2
                    replace y3 := ac hC y3
                    clear hd hC
                    simp only [QTail.putA, Nat.reduceAdd, Act.put, List.setIfInBounds_toArray, List.set_cons_succ, List.set_cons_zero]
                    rw [e5]
                    go_wp2
                    exact ⟨rfl, Below.refl _ _⟩
                  · have e6 : vs 6 = .agg #[.bool s.wr, .int .u8 s.kd, .string s.nm, .slice ia il ic] := hd { on := 6, ground := Ground.data } (by simp) rfl
                    have hC' := Lib.hid hC
                    have C24' := Lib.hid (C24.out W' hC)
                    clear hd hC
                    simp only [QTail.putA, Nat.reduceAdd, Act.put, List.setIfInBounds_toArray, List.set_cons_succ, List.set_cons_zero]
                    rw [e6]
                    go_wp2_with (go_at_call 24; (with_reducible refine C24'.out.mono ?_); rintro e w5 ⟨rfl, tb⟩; replace tb := Lib.hid tb)
                    exact ⟨rfl, tb.out⟩
                  · have e7 : vs 7 = .string ex := hd { on := 7, ground := Ground.data } (by simp) rfl
                    have hC' := Lib.hid hC
                    clear hd hC
                    simp only [QTail.putA, Nat.reduceAdd, Act.put, List.setIfInBounds_toArray, List.set_cons_succ, List.set_cons_zero]
                    rw [e7]
                    go_wp2
                    exact ⟨⟨_, rfl, hC'.out.size, by show (W'.heap.push _)[W'.heap.size]? = _; simp⟩, ba _ _⟩
                · clear hps
                  intro vs W3 b3 hR
                  have e1 : vs 1 = .slice sa j sc := hR 1 (by omega)
                  obtain ⟨bk, e8, hbk, hnb⟩ : ∃ bk : Nat, vs 8 = .slice (some ⟨bk, 0, none⟩) 1 1 ∧ W6.heap.size ≤ bk ∧ NewAt W3 bk #[.string ex] 9 := hR 8 (by omega)
                  replace hnb := Lib.hid hnb
                  replace b3 := Lib.hid b3
                  clear hR
                  simp only [List.take_succ_cons, List.take_zero, List.drop_succ_cons, List.drop_zero, QTail.putA, Nat.reduceAdd, Act.put, List.setIfInBounds_toArray, List.set_cons_succ, List.set_cons_zero]
                  rw [e1]
                  rw [e8]
                  clear e1 e8
                  generalize vs 0 = zz0
                  generalize vs 2 = zz2
                  generalize vs 3 = zz3
                  generalize vs 4 = zz4
                  generalize vs 5 = zz5
                  generalize vs 6 = zz6
                  generalize vs 7 = zz7
                  clear vs
                  have zb3 := b3.out.size
                  have hO3 := Lib.hid (own_below hO.out b3.out)
                  obtain ⟨_, w1, f1⟩ := rV.out 3 (by omega)
                  have w1' := ac b3.out w1
                  have f1' := af b3.out w1 f1
                  clear w1 f1
                  have hlow : Hid (∀ b, Ob (.slice sa j sc) b → V < b) := Lib.hid (fun b q => by have := (hO.out.lt b q).1; omega)
                  have hVn : Hid (¬ Ob (.slice sa j sc) V) := Lib.hid (fun q => by have := hlow.out V q; omega)
                  go_upto_region 12 with (at_builtin; go_loud (refine app1g (W := W3) (.tmp 68) (.tmp 75) 46 9 (V + 1) 1 16 #[.string ⟨#[]⟩] #[.string ex] bk _ j _ rfl rfl rfl rfl hnb.out Try.underlying46 info9 rfl (by omega) hO3.out rfl (by simp [Value.oneCell']) hjn (by omega) (by omega) ?_); intro v' W7 hO5 hkp hnew; obtain ⟨a5, c5, hu⟩ := own_head hO5; subst hu; have w2' := hkp.cell w1' hVn.out; have f2' := hkp.froz w1' f1' hVn.out; replace hO5 := Lib.hid hO5; replace hkp := Lib.hid hkp; replace hnew := Lib.hid hnew)
                  refine wp_gen (fun W8 hW => ?_)
                  have z35 := hkp.out.size
                  have k6 : Kp (fun b => b = V) W7 W8 := by rw [hW]; exact (Kp.refl _).set _ _ (.inl rfl)
                  have s6 : Seg W8 V 0 [.int .u8 (combZ xcb), .string tyv, .int .i64 xam, .slice a5 (j + 1) c5, .bool false] := by rw [hW]; exact ((sV.out.after b3.out).keep (Kc.of_kp hkp.out (fun _ _ q => q)) hVn.out).set 3 _ (by simp)
                  have r6 : Room W8 V 5 := by rw [hW]; exact (room_kept (rV.out.after b3.out) hkp.out hVn.out).setA _ _
                  clear hW
                  have kk : Kp (fun b => V ≤ b) W6 W8 := ((Kp.of b3.out).trans (hkp.out.wide (fun b q => by have := hlow.out b q; show V ≤ b; omega))).trans (k6.wide (fun b q => by show V ≤ b; have : b = V := q; omega))
                  have hO6 := k6.own hO5.out (fun b q e => by have := (hO5.out.lt b q).1; have : b = V := e; omega)
                  have RR : ∃ (j' : Nat) (sa : Option Addr) (sc : Nat), j' ≤ m ∧ Value.int .i64 ((j : Int) + 1) = .int .i64 j' ∧ Seg W8 V 0 [.int .u8 (combZ xcb), .string tyv, .int .i64 xam, .slice sa j' sc, .bool false] ∧ Room W8 V 5 ∧ NewAt W8 C #[.int .u8 xcb, .int .u8 xty, .int .u8 xam, .slice (some ⟨nb, no, none⟩) m c'] 42 ∧ W8.ownsRow (V + 1) 9 1 (.slice sa j' sc) j' (strs ((xss.take j').map (fun s => enc s.key))) ∧ Below W1.heap.size W1 W8 := ⟨j + 1, a5, c5, by omega, by go_num, s6, r6, hC6.out.kp kk (by show ¬ V ≤ C; omega), by rw [htj.out, strs, List.map_append]; exact hO6, b6.out.trans (kk.below b6.out.size (fun b q => by have : V ≤ b := q; omega))⟩
                  clear s6 r6 k6 hO6 kk
                  replace RR := Lib.hid RR
                  go_wp2
                  exact ⟨RR.out, by simp [intOf] <;> omega⟩
              · obtain rfl : j = m := by omega
                have hall : Hid ((xss.take j).map (fun s => enc s.key) = (xss.map Zs.key).map enc) := Lib.hid (by rw [List.take_of_length_le (by rw [hm.out]; exact Nat.le_refl _), List.map_map]; rfl)
                have hzw : w.heap.size ≤ W6.heap.size := by have := bb.out.size; have := b6.out.size; omega
                have hOr : Hid (W6.ownsRow w.heap.size 114 5 (.slice va k vc) k (flat GR.cells rs)) := Lib.hid (by have := own_below hG.out.1 b6.out; rw [hlk.out] at this; exact this)
                have hgr : Hid (GRd W6 w.heap.size ⟨combZ xcb, tyv, xam, .slice sa j sc, false⟩ (gpK (Zc.key ⟨xcb, xty, xam, xss⟩) false)) := Lib.hid ⟨rfl, htyv.out.symm, rfl, rfl, by
                  have h1 := own_base hO.out (show w.heap.size ≤ V + 1 by have := bb.out.size; omega)
                  rw [hall.out] at h1
                  show World.ownsRow _ _ 9 1 _ ((xss.map Zs.key).map enc).length _
                  rw [List.length_map, List.length_map, hm.out]
                  exact h1⟩
                go_wp2_with (at_builtin; go_loud (refine app1n (w := W6) (.tmp 78) (.tmp 80) 34 114 w.heap.size 5 64 #[.int .u8 0, .string ⟨#[]⟩, .int .i64 0, .slice none 0 0, .bool false] #[.int .u8 (combZ xcb), .string tyv, .int .i64 xam, .slice sa j sc, .bool false] _ k _ rfl rfl rfl rfl rfl Try.underlying34 info114 rfl (by omega) hOr.out rfl (by simp [Value.oneCell']) (by omega) (by omega) hzw ?_); intro v8 w8 hO8 hkp hnew; obtain ⟨g8, c8, hu, -⟩ := own_some hO8 (by omega); subst hu; replace hO8 := Lib.hid hO8; replace hkp := Lib.hid hkp; replace hnew := Lib.hid hnew)
                have hP := hG.out.push b6.out hgr.out (by rw [hlk.out]; exact hO8.out) hkp.out
                rw [← htk.out] at hP
                replace hP := Lib.hid hP
                have b8 := Lib.hid (bb.out.trans ((b6.out.mono bb.out.size).trans (hkp.out.below hzw (fun b q => (hG.out.1.lt b q).1))))
                go_roundw
                case rel => exact ⟨k + 1, some ⟨g8, 0, none⟩, c8, _, by omega, by go_num, rfl, hP.out, b8.out⟩
                case measure => simp [intOf]; omega
      · obtain rfl : k = n := by omega
        have hall : l.take k = l := List.take_of_length_le (by rw [hn.out]; exact Nat.le_refl _)
        have hGG : GsR W1 w.heap.size (.slice va k vc) rs (l.map (fun c => gpK c.key false)) := by have := hG.out; rw [hall] at this; exact this
        replace hGG := Lib.hid hGG
        go_wp2
        exact bodyPost_ret (v := .tuple #[.slice va k vc, .bool false]) (by simp [results, Try.results11, go_sem]) rfl ⟨_, rs, rfl, hGG.out, bb.out⟩
end Go.Proofs.Ytjigljpodkfchad
