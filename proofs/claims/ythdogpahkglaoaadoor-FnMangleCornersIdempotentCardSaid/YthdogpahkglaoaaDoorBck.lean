/- mangleCorners on a fresh tracker, whatever the tokens: the walk. -/
import Derived.Test.YthdogpahkglaoaaDoorBcj
set_option linter.unusedVariables false
set_option linter.unusedSimpArgs false
namespace Go.Proofs.YthdogpahkglaoaaDoor
open Go.RowKit
/-- the second radii -/
def q2F (G : Nat → Tk) (N bs sa : Nat) : Nat → Tk := if bs < N then xq (N - sa) (fun i => G (sa + i)) else xq bs G
def crF (X Y : Nat → Tk) (st : Int) : Nat → Cn := fun k => ⟨X k, Y k, ⟨#[]⟩, st, 0, false⟩
def AllP (w : World) (b N : Nat) (g : Nat → Int) (G : Nat → Tk) (imp : Bool) (Q : Nat → Nat → Int → World → Ending → World → Prop) (e : Ending) (w' : World) : Prop := e = .returned (.tuple #[]) ∧
  ((Only (fun z => z = b) w w' ∧ ¬ ∃ bs sa, OkS g N bs sa) ∨ ∃ bs sa st, OkS g N bs sa ∧ StS g N bs st ∧ ∃ w1, Trk w1 b (crF (xq bs G) (q2F G N bs sa) st) imp ∧ Only (fun z => z = b) w w1 ∧ Q bs sa st w1 e w')
theorem AllP.no {w w' : World} {b N : Nat} {g : Nat → Int} {G : Nat → Tk} {imp : Bool} {Q : Nat → Nat → Int → World → Ending → World → Prop} (h : Only (fun z => z = b) w w') (hn : ¬ ∃ bs sa, OkS g N bs sa) : AllP w b N g G imp Q (.returned (.tuple #[])) w' := ⟨rfl, .inl ⟨h, hn⟩⟩
def mixC (X : Nat → Tk) (st : Int) (F : Nat → Cn) (i : Nat) : Nat → Cn := fun k => if k < i then ⟨X k, X k, ⟨#[]⟩, st, 0, false⟩ else F k
def mixD (X Y : Nat → Tk) (st : Int) (i : Nat) : Nat → Cn := fun k => if k < i then ⟨X k, Y k, ⟨#[]⟩, st, 0, false⟩ else ⟨X k, X k, ⟨#[]⟩, st, 0, false⟩
structure MC (W : World) (b : Nat) (F : Nat → Cn) (imp : Bool) (wr : World) : Prop where
  trk : Trk wr b F imp
  only : Only (fun z => z = b) W wr
theorem MC.up {W v V V' : World} {b i : Nat} {X : Nat → Tk} {st : Int} {F : Nat → Cn} {imp : Bool} (h : MC W b (mixC X st F i) imp v) (hb : Below v.heap.size v V) (hp : Put b i ⟨X i, X i, ⟨#[]⟩, st, 0, false⟩ V V') (ho : Only (fun z => z = b) V V') : MC W b (mixC X st F (i + 1)) imp V' :=
  ⟨((h.trk.after hb).put hp).cg (fun k _ => by
    unfold mixC
    by_cases e : k = i
    · subst e; rw [if_pos rfl, if_pos (by omega)]
    · rw [if_neg e]
      by_cases c : k < i
      · rw [if_pos c, if_pos (by omega)]
      · rw [if_neg c, if_neg (by omega)]), h.only.trans ((Only.of hb).trans ho)⟩
theorem Trk.sec {w W : World} {b i : Nat} {F : Nat → Cn} {imp : Bool} {t : Tk} (h : Trk w b F imp) (hi : i < 4) (hW : W = w.setCells b (i * 18 + 7) (tkL t)) : Trk W b (fun k => if k = i then { F i with t2 := t } else F k) imp := by
  subst hW
  refine ⟨fun k hk j v hj => ?_, by rw [setCells_out (by show 72 < _ ∨ i * 18 + 7 + 7 ≤ 72; omega)]; exact h.im, Room.setCells _ _ _ _ h.room⟩
  have hl : j < 18 := by have := (List.getElem?_eq_some_iff.1 hj).1; simpa using this
  by_cases e : k = i
  · subst e
    rw [if_pos rfl] at hj
    by_cases c : 7 ≤ j ∧ j < 14
    · have hs : Seg (w.setCells b (k * 18 + 7) (tkL t)) b (k * 18 + 7) (tkL t) := Seg.put h.room (by show k * 18 + 7 + 7 ≤ 73; omega)
      have := hs (j - 7) v (by
        rcases (by omega : j = 7 ∨ j = 8 ∨ j = 9 ∨ j = 10 ∨ j = 11 ∨ j = 12 ∨ j = 13) with rfl | rfl | rfl | rfl | rfl | rfl | rfl <;> exact hj)
      rwa [show k * 18 + 7 + (j - 7) = k * 18 + j by omega] at this
    · rw [setCells_out (by show _ < _ ∨ k * 18 + 7 + 7 ≤ _; omega)]
      refine h.cn k hk j v ?_
      rcases (by omega : j = 0 ∨ j = 1 ∨ j = 2 ∨ j = 3 ∨ j = 4 ∨ j = 5 ∨ j = 6 ∨ j = 14 ∨ j = 15 ∨ j = 16 ∨ j = 17) with rfl | rfl | rfl | rfl | rfl | rfl | rfl | rfl | rfl | rfl | rfl <;> exact hj
  · rw [if_neg e] at hj
    rw [setCells_out (by show _ < _ ∨ i * 18 + 7 + 7 ≤ _; omega)]
    exact h.cn k hk j v hj
theorem MC.sec {W v V V' : World} {b i : Nat} {X Y : Nat → Tk} {st : Int} {imp : Bool} (h : MC W b (mixD X Y st i) imp v) (hb : Below v.heap.size v V) (hi : i < 4) (hV : V' = V.setCells b (i * 18 + 7) (tkL (Y i))) : MC W b (mixD X Y st (i + 1)) imp V' :=
  ⟨((h.trk.after hb).sec hi hV).cg (fun k _ => by
    by_cases e : k = i
    · subst e
      have h1 : mixD X Y st k k = ⟨X k, X k, ⟨#[]⟩, st, 0, false⟩ := if_neg (by omega)
      have h2 : mixD X Y st (k + 1) k = ⟨X k, Y k, ⟨#[]⟩, st, 0, false⟩ := if_pos (by omega)
      rw [if_pos rfl, h1, h2]
    · rw [if_neg e]
      unfold mixD
      by_cases c : k < i
      · rw [if_pos c, if_pos (by omega)]
      · rw [if_neg c, if_neg (by omega)]), h.only.trans ((Only.of hb).trans (by rw [hV]; exact Only.setCells (S := fun z => z = b) b rfl _ _ (Only.refl _)))⟩
theorem upd_i (b k : Nat) (kk : Int) (hkk : kk = (k : Int)) (R n c : Nat) (F : Nat → Cn) (imp : Bool) (x : Cn) (w : World) (h : Trk w b F imp) (hk : k < 4) (hn : n ≤ 4096) (e : ((F k).t1.kd != 0) = false) :
    Calls Tryd.prog 25 #[.pointer (some ⟨b, 0, none⟩), .slice (some ⟨R, 0, none⟩) n c, .int .i64 kk, x.val] w (PutP (fun z => z = b) b k x w) := by
  subst hkk
  exact upd_a b k R n c (F k) x w h.room hk (h.cn k hk) hn e
set_option maxRecDepth 100000 in
set_option maxHeartbeats 4000000 in
theorem mcs_all (b R c Dd T cc N : Nat) (F : Nat → Cn) (imp0 imp m : Bool) (g : Nat → Int) (G : Nat → Tk) (kt : ByteArray) (lo len key : Int) (Q : Nat → Nat → Int → World → Ending → World → Prop) (w : World) (h : Trk w b F imp0) (hF : F = fun _ => Cn0) (hD : Seg w Dd 0 (dcL kt (.slice (some ⟨T, 0, none⟩) N cc) lo len key imp)) (ht : ∀ i, i < N → TAt w T (i * 7) (G i)) (hg : ∀ i, i < N → SimC (G i) (g i) ∧ 0 ≤ g i ∧ g i ≤ 7)
    (hN : N ≤ 4096) (hNc : N ≤ cc) (hTl : T < w.heap.size) (hbD : b ≠ Dd) (hbT : b ≠ T)
    (hC : ∀ bs sa st w1, OkS g N bs sa → StS g N bs st → Trk w1 b (crF (xq bs G) (q2F G N bs sa) st) imp → Only (fun z => z = b) w w1 → Calls Tryd.prog 26 #[.pointer (some ⟨b, 0, none⟩), .slice (some ⟨R, 0, none⟩) 1 c, .agg #[.int .i32 lo, .int .i32 len], .bool m] w1 (Q bs sa st w1)) (hQ : ∀ bs sa st w1 e w', Q bs sa st w1 e w' → e = .returned (.tuple #[])) :
    Calls Tryd.prog 18 #[.pointer (some ⟨b, 0, none⟩), .slice (some ⟨R, 0, none⟩) 1 c, .pointer (some ⟨Dd, 0, none⟩), .bool m] w (AllP w b N g G imp Q) := by
  have H := Lib.hid h
  have HD := Lib.hid hD
  have HT := Lib.hid ht
  have HG := Lib.hid hg
  have hFr : Hid (imp0 = imp ∨ F = fun _ => Cn0) := Lib.hid (.inr hF)
  have HF := Lib.hid hF
  have HbD := Lib.hid hbD
  have HbT := Lib.hid hbT
  replace hC := Lib.hid hC
  replace hQ := Lib.hid hQ
  have hbl : b < w.heap.size := h.room.lt (by omega)
  have hDl : Dd < w.heap.size := block_lt_of_cell (hD 0 _ rfl)
  clear h hD ht hg hbD hbT hF
  go_enter Tryd.func18, Tryd.ntmps18
  go_upto_region 0 with fail
  have y72 : ∀ d os, (Sort.grow (redrawn w d) os).cell? ⟨b, 72, none⟩ = some (.bool imp0) := fun d os => cell_regrown H.out.im d os
  have y5 : ∀ d os, (Sort.grow (redrawn w d) os).cell? ⟨Dd, 5, none⟩ = some (.bool imp) := fun d os => cell_regrown (by simpa using HD.out 5 _ rfl) d os
  refine drawn_tail 8 (by kernel_rfl) (by kernel_rfl) (by kernel_rfl) (fun Q hQ => ?_)
  simp only [List.take_succ_cons, List.take_zero, List.drop_succ_cons, List.drop_zero]
  repeat (quiet_step (fail))
  refine wpQuiet_nil ?_
  intro w1 hw
  have b1 : Hid (Below w.heap.size w w1) := Lib.hid (by
    obtain ⟨⟨d, os⟩, rfl⟩ := hw
    exact below_regrown _ d os)
  clear hw y72 y5
  go_upto_if 34 with fail
  go_cut [0] (fun v wx => v = .pointer (some ⟨b, 0, none⟩) ∧ Trk wx b F imp ∧ Only (fun z => z = b) w wx)
  case first =>
    have t1 : Hid (Trk w1 b F imp0) := Lib.hid (H.out.after b1.out)
    cases imp0 <;> cases imp
    · go_wp2
      go_meet
      exact ⟨rfl, t1.out, Only.of b1.out⟩
    · have hFF := Lib.hid (hFr.out.resolve_left (by decide))
      have d5 := (by simpa using (HD.out.after b1.out) 5 _ rfl : w1.cell? ⟨Dd, 5, none⟩ = some (.bool true))
      have hbD' := HbD.out
      go_upto_region 2 with ((with_reducible refine wpList_at (o := ⟨none, .store 67 (.tmp 38) (.tmp 36), _, _, _, _⟩) ?_); refine wpList_store_room (op := ⟨none, .store 67 (.tmp 38) (.tmp 36), _, _, _, _⟩) rfl 67 (.tmp 38) (.tmp 36) rfl b 0 73 (trk4 fun _ => Cn0) t1.out.room (by show 0 + 72 ≤ 73; omega) rfl (congrArg Value.agg zero67) (i67 _) trk4_one ?_; intro w2 hW2)
      have o2 : Hid (Only (fun z => z = b) w1 w2) := Lib.hid (by rw [hW2]; exact Only.setCells (S := fun z => z = b) b rfl _ _ (Only.refl _))
      have d5' : w2.cell? ⟨Dd, 5, none⟩ = some (.bool true) := o2.out.keep d5 (fun e => hbD' e.symm)
      obtain ⟨v72, e72, f72⟩ := (o2.out.rooms _ _ t1.out.room) 72 (by omega)
      replace hW2 := Lib.hid hW2
      clear d5
      go_wp2
      go_meet
      exact ⟨rfl, by rw [hFF.out]; exact t1.out.reset (by rw [hW2.out]), ((Only.of b1.out).trans o2.out).set _ _ rfl⟩
    · have hFF := Lib.hid (hFr.out.resolve_left (by decide))
      have d5 := (by simpa using (HD.out.after b1.out) 5 _ rfl : w1.cell? ⟨Dd, 5, none⟩ = some (.bool false))
      have hbD' := HbD.out
      go_upto_region 2 with ((with_reducible refine wpList_at (o := ⟨none, .store 67 (.tmp 38) (.tmp 36), _, _, _, _⟩) ?_); refine wpList_store_room (op := ⟨none, .store 67 (.tmp 38) (.tmp 36), _, _, _, _⟩) rfl 67 (.tmp 38) (.tmp 36) rfl b 0 73 (trk4 fun _ => Cn0) t1.out.room (by show 0 + 72 ≤ 73; omega) rfl (congrArg Value.agg zero67) (i67 _) trk4_one ?_; intro w2 hW2)
      have o2 : Hid (Only (fun z => z = b) w1 w2) := Lib.hid (by rw [hW2]; exact Only.setCells (S := fun z => z = b) b rfl _ _ (Only.refl _))
      have d5' : w2.cell? ⟨Dd, 5, none⟩ = some (.bool false) := o2.out.keep d5 (fun e => hbD' e.symm)
      obtain ⟨v72, e72, f72⟩ := (o2.out.rooms _ _ t1.out.room) 72 (by omega)
      replace hW2 := Lib.hid hW2
      clear d5
      go_wp2
      go_meet
      exact ⟨rfl, by rw [hFF.out]; exact t1.out.reset (by rw [hW2.out]), ((Only.of b1.out).trans o2.out).set _ _ rfl⟩
    · go_wp2
      go_meet
      exact ⟨rfl, t1.out, Only.of b1.out⟩
  case rest =>
    obtain ⟨rfl, t2, o2⟩ := hcut
    obtain ⟨w2, rfl⟩ : ∃ w2, w2 = wc := ⟨_, rfl⟩
    replace t2 := Lib.hid t2
    replace o2 := Lib.hid o2
    clear b1
    have D2 : Hid (Seg w2 Dd 0 (dcL kt (.slice (some ⟨T, 0, none⟩) N cc) lo len key imp)) := Lib.hid (HD.out.only o2.out (fun e => HbD.out e.symm))
    have T2 : Hid (∀ i, i < N → Seg w2 T (i * 7) (tkL (G i))) := Lib.hid (fun i hi => ((HT.out i hi).seg (HG.out i hi).1.ch).only o2.out (fun e => HbT.out e.symm))
    replace hbl : b < w2.heap.size := Nat.lt_of_lt_of_le hbl o2.out.size
    replace hDl : Dd < w2.heap.size := Nat.lt_of_lt_of_le hDl o2.out.size
    replace hTl : T < w2.heap.size := Nat.lt_of_lt_of_le hTl o2.out.size
    clear HD HT H
    have d1 : w2.cell? ⟨Dd, 1, none⟩ = some (.slice (some ⟨T, 0, none⟩) N cc) := by simpa using D2.out 1 _ rfl
    go_upto_region 7 with fail
    clear d1
    go_loopw [56, 9, 10] (fun v v9 v10 wr => ∃ i : Nat, i ≤ N ∧ v = .int .i64 i ∧ ∃ bs sa : Nat, v9 = .int .i64 bs ∧ v10 = .int .i64 sa ∧ SlI g N i bs sa ∧ Below w2.heap.size w2 wr) (fun v _ _ _ => N - (intOf v).toNat)
    case atStart => exact ⟨0, by omega, rfl, N, N, rfl, rfl, .inl ⟨rfl, rfl, fun j hj => by omega⟩, Below.refl _ _⟩
    case round =>
      obtain ⟨i, hi, rfl, bs, sa, rfl, rfl, hSl, hB⟩ := hrel
      obtain ⟨w3, rfl⟩ : ∃ w3 : World, w3 = wr := ⟨_, rfl⟩
      replace hB := Lib.hid hB
      replace hSl := Lib.hid hSl
      by_cases hlt : i < N
      · have i0 : (0 : Int) ≤ i := by omega
        have i1 : (i : Int) < N := by omega
        have sg := Lib.hid ((T2.out i hlt).after hB.out)
        have d0 : w3.cell? ⟨T, i * 7, none⟩ = some (.pointer none) := by simpa using sg.out 0 _ rfl
        have d1 : w3.cell? ⟨T, i * 7 + 1, none⟩ = some (.string (G i).tx) := by simpa using sg.out 1 _ rfl
        have d2 : w3.cell? ⟨T, i * 7 + 2, none⟩ = some (.int .i32 (G i).lo) := by simpa using sg.out 2 _ rfl
        have d3 : w3.cell? ⟨T, i * 7 + 3, none⟩ = some (.int .u32 (G i).pl) := by simpa using sg.out 3 _ rfl
        have d4 : w3.cell? ⟨T, i * 7 + 4, none⟩ = some (.int .u16 (G i).uo) := by simpa using sg.out 4 _ rfl
        have d5 : w3.cell? ⟨T, i * 7 + 5, none⟩ = some (.int .u8 (G i).kd) := by simpa using sg.out 5 _ rfl
        have d6 : w3.cell? ⟨T, i * 7 + 6, none⟩ = some (.int .u8 (G i).ws) := by simpa using sg.out 6 _ rfl
        have hgi := Lib.hid (HG.out i hlt)
        have hw3 : Hid (∀ V, Below w3.heap.size w3 V → Below w2.heap.size w2 V) := Lib.hid (fun V h => hB.out.trans (h.mono hB.out.size))
        by_cases hk : g i = 7
        · have hk24 : ((G i).kd == 24) = true := by rw [hgi.out.1.k24 hgi.out.2]; simpa using hk
          have HK := Lib.hid hk
          clear hk
          rcases hSl.out with ⟨h1, h2, h3⟩ | ⟨h1, h2, h3, h4, h5⟩
          · replace h3 := Lib.hid h3
            have e1 : ((bs : Int) == (N : Int)) = true := by rw [h1]; simp
            have HS : Hid (SlI g N (i + 1) i (i + 1)) := Lib.hid (.inr ⟨by omega, by omega, rfl, HK.out, fun j hj hne => h3.out j (by omega)⟩)
            clear h1 h2 h3
            go_wp2
            go_roundw
            case rel => exact ⟨i + 1, by omega, by go_num, i, i + 1, rfl, by go_num, HS.out, hw3.out _ (by repeat (first | exact ba _ _ | refine Below.setCell ?_ (by simp) _))⟩
            case measure => simp [intOf]; omega
          · have e1 : ((bs : Int) == (N : Int)) = false := by simp; omega
            have h7 := Lib.hid h4
            have hno := Lib.hid (two_no h7.out HK.out h1 hlt)
            clear h3 h4 h5
            have t3 := Lib.hid (fun V (h : Below w2.heap.size w2 V) => (t2.out.after h).room)
            have hbv := Lib.hid (hw3.out _ (ba w3 (.cells (tkL (G i)).toArray 32)))
            go_wp2_with ((with_reducible refine wpList_at (o := ⟨none, .store 67 (.tmp 74) (.tmp 72), _, _, _, _⟩) ?_); refine wpList_store_room (op := ⟨none, .store 67 (.tmp 74) (.tmp 72), _, _, _, _⟩) rfl 67 (.tmp 74) (.tmp 72) rfl b 0 73 (trk4 fun _ => Cn0) (t3.out _ hbv.out) (by show 0 + 72 ≤ 73; omega) rfl (congrArg Value.agg zero67) (i67 _) trk4_one ?_; intro wf hwf)
            refine bodyPost_ret (v := .tuple #[]) (by simp [results, Tryd.results18, go_sem]) rfl (AllP.no ((o2.out.trans (Only.of hbv.out)).trans (by rw [hwf]; exact Only.setCells (S := fun z => z = b) b rfl _ _ (Only.refl _))) hno.out)
        · have hk24 : ((G i).kd == 24) = false := by rw [hgi.out.1.k24 hgi.out.2]; simpa using hk
          have HK := Lib.hid hk
          clear hk
          have HS : Hid (SlI g N (i + 1) bs sa) := Lib.hid (by
            rcases hSl.out with ⟨h1, h2, h3⟩ | ⟨h1, h2, h3, h4, h5⟩
            · exact .inl ⟨h1, h2, fun j hj => by
                by_cases e : j = i
                · subst e; exact HK.out
                · exact h3 j (by omega)⟩
            · exact .inr ⟨by omega, by omega, h3, h4, fun j hj hne => by
                by_cases e : j = i
                · subst e; exact HK.out
                · exact h5 j (by omega) hne⟩)
          go_wp2
          go_roundw
          case rel => exact ⟨i + 1, by omega, by go_num, bs, sa, rfl, rfl, HS.out, hw3.out _ (by repeat (first | exact ba _ _ | refine Below.setCell ?_ (by simp) _))⟩
          case measure => simp [intOf]; omega
      · obtain rfl : N = i := by omega
        have hbN : bs ≤ N := by rcases hSl.out with ⟨h1, h2, h3⟩ | ⟨h1, h2, h3, h4, h5⟩ <;> omega
        have hsN : sa ≤ N := by rcases hSl.out with ⟨h1, h2, h3⟩ | ⟨h1, h2, h3, h4, h5⟩ <;> omega
        have slh := fun W => sl23hb W (some ⟨T, 0, none⟩) N cc bs (by omega)
        obtain ⟨A, hA, hsl⟩ := sl23lb T N cc sa hsN hNc
        replace hA := Lib.hid hA
        go_wp2
        refine wp_gen (fun W4 hW => ?_)
        have b4 : Hid (Below w2.heap.size w2 W4) := Lib.hid (by rw [hW]; exact hB.out.trans ((ba _ _).mono hB.out.size))
        have u4 : Hid (UCs W4 w3.heap.size 0) := Lib.hid (by rw [hW]; exact ⟨by simp [go_sem], by simp [go_sem], by simp [go_sem]⟩)
        have hU2 : w2.heap.size ≤ w3.heap.size := hB.out.size
        clear hW hB
        generalize w3.heap.size = U at *
        have C22 := Lib.hid (fun i (hi : i < N) st w (h : UCs w U st) => unitC U (G i) (g i) st (HG.out i hi).1 (HG.out i hi).2 w h)
        go_loopw [81] (fun v wr => ∃ i : Nat, i ≤ bs ∧ v = .int .i64 i ∧ ∃ st : Int, UCs wr U st ∧ (st = 0 ∨ st = 2) ∧ (st = 0 ↔ ∀ j, j < i → g j ≤ 4) ∧ Only (fun z => z = U) W4 wr) (fun v _ => bs - (intOf v).toNat)
        case atStart => exact ⟨0, by omega, rfl, 0, u4.out, .inl rfl, ⟨fun _ j hj => by omega, fun _ => rfl⟩, Only.refl _⟩
        case round =>
          obtain ⟨i, hi, rfl, st, hu, hs1, hs2, hO⟩ := hrel
          obtain ⟨w5, rfl⟩ : ∃ w5 : World, w5 = wr := ⟨_, rfl⟩
          replace hO := Lib.hid hO
          replace hu := Lib.hid hu
          replace hs1 := Lib.hid hs1
          replace hs2 := Lib.hid hs2
          by_cases hlt : i < bs
          · have i0 : (0 : Int) ≤ i := by omega
            have i1 : (i : Int) < bs := by omega
            have sg := Lib.hid (((T2.out i (by omega)).after b4.out).only hO.out (by omega))
            have d0 : w5.cell? ⟨T, i * 7, none⟩ = some (.pointer none) := by simpa using sg.out 0 _ rfl
            have d1 : w5.cell? ⟨T, i * 7 + 1, none⟩ = some (.string (G i).tx) := by simpa using sg.out 1 _ rfl
            have d2 : w5.cell? ⟨T, i * 7 + 2, none⟩ = some (.int .i32 (G i).lo) := by simpa using sg.out 2 _ rfl
            have d3 : w5.cell? ⟨T, i * 7 + 3, none⟩ = some (.int .u32 (G i).pl) := by simpa using sg.out 3 _ rfl
            have d4 : w5.cell? ⟨T, i * 7 + 4, none⟩ = some (.int .u16 (G i).uo) := by simpa using sg.out 4 _ rfl
            have d5 : w5.cell? ⟨T, i * 7 + 5, none⟩ = some (.int .u8 (G i).kd) := by simpa using sg.out 5 _ rfl
            have d6 : w5.cell? ⟨T, i * 7 + 6, none⟩ = some (.int .u8 (G i).ws) := by simpa using sg.out 6 _ rfl
            have hUl : U < w5.heap.size := block_lt_of_cell hu.out.c0
            have hua := Lib.hid (fun o => hu.out.after (ba w5 o))
            have hst := Lib.hid (st_step hs1.out hs2.out (g i) (all_succ g i))
            have C22i := Lib.hid (C22.out i (by omega) st)
            clear slh hsl
            go_wp2_with (go_at_call 22; (with_reducible refine (C22i.out _ (hua.out _)).mono ?_); rintro e w6 ⟨rfl, o6, v0, v1, vf⟩; replace o6 := Lib.hid o6; have u6 := Lib.hid (UCs.mk v0 v1 vf); clear v0 v1 vf)
            go_roundw
            case rel => exact ⟨i + 1, by omega, by go_num, _, u6.out, hst.out.1, hst.out.2, hO.out.trans ((Only.of (ba _ _)).trans o6.out)⟩
            case measure => simp [intOf]; omega
          · obtain rfl : bs = i := by omega
            go_wp2
            go_loopw [92] (fun v wr => ∃ i : Nat, i ≤ N - sa ∧ v = .int .i64 i ∧ ∃ st : Int, UCs wr U st ∧ (st = 0 ∨ st = 2) ∧ (st = 0 ↔ ((∀ j, j < bs → g j ≤ 4) ∧ ∀ j, j < i → g (sa + j) ≤ 4)) ∧ Only (fun z => z = U) W4 wr) (fun v _ => (N - sa) - (intOf v).toNat)
            case atStart => exact ⟨0, by omega, rfl, st, hu.out, hs1.out, ⟨fun h => ⟨hs2.out.1 h, fun j hj => by omega⟩, fun h => hs2.out.2 h.1⟩, hO.out⟩
            case round =>
              clear hu hs1 hs2 hO
              obtain ⟨i, hi, rfl, st, hu, hs1, hs2, hO⟩ := hrel
              obtain ⟨w5', rfl⟩ : ∃ w5' : World, w5' = wr := ⟨_, rfl⟩
              replace hO := Lib.hid hO
              replace hu := Lib.hid hu
              replace hs1 := Lib.hid hs1
              replace hs2 := Lib.hid hs2
              by_cases hlt : i < N - sa
              · have i0 : (0 : Int) ≤ i := by omega
                have i1 : (i : Int) < (N - sa : Nat) := by omega
                have i2 : i < N - sa := hlt
                obtain rfl := hA.out (by omega)
                have sg : Hid (Seg w5' T (sa * 7 + i * 7) (tkL (G (sa + i)))) := Lib.hid ((((T2.out (sa + i) (by omega)).after b4.out).only hO.out (by omega)).cast (by omega))
                have d0 : w5'.cell? ⟨T, sa * 7 + i * 7, none⟩ = some (.pointer none) := by simpa using sg.out 0 _ rfl
                have d1 : w5'.cell? ⟨T, sa * 7 + i * 7 + 1, none⟩ = some (.string (G (sa + i)).tx) := by simpa using sg.out 1 _ rfl
                have d2 : w5'.cell? ⟨T, sa * 7 + i * 7 + 2, none⟩ = some (.int .i32 (G (sa + i)).lo) := by simpa using sg.out 2 _ rfl
                have d3 : w5'.cell? ⟨T, sa * 7 + i * 7 + 3, none⟩ = some (.int .u32 (G (sa + i)).pl) := by simpa using sg.out 3 _ rfl
                have d4 : w5'.cell? ⟨T, sa * 7 + i * 7 + 4, none⟩ = some (.int .u16 (G (sa + i)).uo) := by simpa using sg.out 4 _ rfl
                have d5 : w5'.cell? ⟨T, sa * 7 + i * 7 + 5, none⟩ = some (.int .u8 (G (sa + i)).kd) := by simpa using sg.out 5 _ rfl
                have d6 : w5'.cell? ⟨T, sa * 7 + i * 7 + 6, none⟩ = some (.int .u8 (G (sa + i)).ws) := by simpa using sg.out 6 _ rfl
                have hUl : U < w5'.heap.size := block_lt_of_cell hu.out.c0
                have hua := Lib.hid (fun o => hu.out.after (ba w5' o))
                have hst := Lib.hid (st_step (q := (∀ j, j < bs → g j ≤ 4) ∧ ∀ j, j < i + 1 → g (sa + j) ≤ 4) hs1.out hs2.out (g (sa + i)) (by rw [all_succ (fun j => g (sa + j)) i]; exact and_assoc.symm))
                have C22i := Lib.hid (C22.out (sa + i) (by omega) st)
                clear slh hsl
                go_wp2_with (go_at_call 22; (with_reducible refine (C22i.out _ (hua.out _)).mono ?_); rintro e w6 ⟨rfl, o6, v0, v1, vf⟩; replace o6 := Lib.hid o6; have u6 := Lib.hid (UCs.mk v0 v1 vf); clear v0 v1 vf)
                go_roundw
                case rel => exact ⟨i + 1, by omega, by go_num, _, u6.out, hst.out.1, hst.out.2, hO.out.trans ((Only.of (ba _ _)).trans o6.out)⟩
                case measure => simp [intOf]; omega
              · obtain rfl : i = N - sa := by omega
                have HST := Lib.hid (sts_of hSl.out hs1.out hs2.out)
                clear hs1 hs2 hlt hi
                have b6 : Hid (Below w2.heap.size w2 w5') := Lib.hid (b4.out.trans (hO.out.below _ b4.out.size (fun z e => by omega)))
                have O6 : Hid (Only (fun z => z = b) w w5') := Lib.hid (o2.out.trans (Only.of b6.out))
                have t6 : Hid (Trk w5' b F imp) := Lib.hid (t2.out.after b6.out)
                have k6 : Hid (∀ i, i < N → TAt w5' T (i * 7) (G i)) := Lib.hid (fun i hi => ((T2.out i hi).after b6.out).tat (HG.out i hi).1.ch)
                have D6 := Lib.hid (D2.out.after b6.out)
                have r6 : Hid (∀ V, Below w5'.heap.size w5' V → Room V b 73) := Lib.hid (fun V h => (t6.out.after h).room)
                have f6 : Hid (∀ V, Below w5'.heap.size w5' V → Only (fun z => z = b) w V) := Lib.hid (fun V h => O6.out.trans (Only.of h))
                have C27 := Lib.hid (exq_0 T bs cc g G w5' (by omega) (fun i hi => k6.out i (by omega)) (fun i hi => HG.out i (by omega)))
                have C27n := Lib.hid (fun W (hb : Below w5'.heap.size w5' W) => exq_any A T sa (N - sa) (cc - sa) g G W hA.out (by omega) (fun i hi => (k6.out (sa + i) (by omega)).after hb) (fun i hi => HG.out (sa + i) (by omega)))
                have hbs0 : (0 : Int) ≤ bs := by omega
                have hsa0 : (0 : Int) ≤ sa := by omega
                clear T2 D2 t2 b4 u4 hO C22 b6
                cases hok1 : okQ g 0 bs with
                | false =>
                  rw [hok1, if_neg (by decide)] at C27
                  obtain ⟨ok2, hok2⟩ : ∃ o, o = okQ g sa (N - sa) := ⟨_, rfl⟩
                  obtain ⟨X2, hX2⟩ : ∃ X, X = (if okQ g sa (N - sa) = true then xq (N - sa) (fun i => G (sa + i)) else zq) := ⟨_, rfl⟩
                  rw [← hX2, ← hok2] at C27n
                  have hno := Lib.hid (ref_no hSl.out (.inl hok1))
                  clear hX2 hok2 hok1
                  go_wp2_with (first | (go_at_call 27; (with_reducible refine C27.out.mono ?_); rintro e w6 ⟨rfl, b6⟩; replace b6 := Lib.hid b6; have rr6 := Lib.hid (fun z (hz : Array.size z = 28) => Room.newN w6 z hz 80)) | ((with_reducible refine wpList_at (o := ⟨none, .store 80 (.tmp 18) (.tmp 104), _, _, _, _⟩) ?_); refine wpList_store_room (op := ⟨none, .store 80 (.tmp 18) (.tmp 104), _, _, _, _⟩) rfl 80 (.tmp 18) (.tmp 104) rfl w6.heap.size 0 28 (qL zq) (rr6.out _ rfl) (by show 0 + 28 ≤ 28; omega) rfl rfl (i80q zq) (qL_one zq) ?_; intro W7 hW7; have s7 : Hid (Seg W7 w6.heap.size 0 (qL zq)) := Lib.hid (by rw [hW7]; exact Seg.put (rr6.out _ rfl) (by show 0 + 28 ≤ 28; omega)); have b7 : Hid (Below w5'.heap.size w5' W7) := Lib.hid (b6.out.trans (Below.mono (by rw [hW7]; exact (Only.setCells (S := fun z => z = w6.heap.size) _ rfl _ _ (Only.of (ba w6 _))).below w6.heap.size (Nat.le_refl _) (fun z e => by omega)) b6.out.size)); have C27m := Lib.hid (C27n.out W7 b7.out); clear hW7 rr6) | (go_at_call 27; (with_reducible refine C27m.out.mono ?_); rintro e w8 ⟨rfl, b8⟩; replace b8 := Lib.hid b8; have rr8 := Lib.hid (fun z (hz : Array.size z = 28) => Room.newN w8 z hz 80)) | ((with_reducible refine wpList_at (o := ⟨none, .store 80 (.tmp 20) (.tmp 111), _, _, _, _⟩) ?_); refine wpList_store_room (op := ⟨none, .store 80 (.tmp 20) (.tmp 111), _, _, _, _⟩) rfl 80 (.tmp 20) (.tmp 111) rfl w8.heap.size 0 28 (qL X2) (rr8.out _ rfl) (by show 0 + 28 ≤ 28; omega) rfl rfl (i80q X2) (qL_one X2) ?_; intro W9 hW9; have s9 : Hid (Seg W9 w6.heap.size 0 (qL zq)) := Lib.hid ((s7.out.after b8.out).after (by rw [hW9]; exact (Only.setCells (S := fun z => z = w8.heap.size) _ rfl _ _ (Only.of (ba w8 _))).below w8.heap.size (Nat.le_refl _) (fun z e => by omega))); have v9 : Hid (Seg W9 w8.heap.size 0 (qL X2)) := Lib.hid (by rw [hW9]; exact Seg.put (rr8.out _ rfl) (by show 0 + 28 ≤ 28; omega)); have b9 : Hid (Below w5'.heap.size w5' W9) := Lib.hid (b7.out.trans (Below.mono (b8.out.trans (Below.mono (by rw [hW9]; exact (Only.setCells (S := fun z => z = w8.heap.size) _ rfl _ _ (Only.of (ba w8 _))).below w8.heap.size (Nat.le_refl _) (fun z e => by omega)) b8.out.size)) b7.out.size)); clear hW9 rr8 s7) | ((with_reducible refine wpList_at (o := ⟨none, .store 67 (.tmp 127) (.tmp 125), _, _, _, _⟩) ?_); refine wpList_store_room (op := ⟨none, .store 67 (.tmp 127) (.tmp 125), _, _, _, _⟩) rfl 67 (.tmp 127) (.tmp 125) rfl b 0 73 (trk4 fun _ => Cn0) (r6.out _ b9.out) (by show 0 + 72 ≤ 73; omega) rfl (congrArg Value.agg zero67) (i67 _) trk4_one ?_; intro wf hwf))
                  refine bodyPost_ret (v := .tuple #[]) (by simp [results, Tryd.results18, go_sem]) rfl (AllP.no ((f6.out _ b9.out).trans (by rw [hwf]; exact Only.setCells (S := fun z => z = b) b rfl _ _ (Only.refl _))) hno.out)
                | true =>
                  rw [hok1, if_pos rfl] at C27
                  replace hok1 := Lib.hid hok1
                  obtain ⟨X, hX⟩ : ∃ X, X = xq bs G := ⟨_, rfl⟩
                  rw [← hX] at C27
                  replace hX := Lib.hid hX
                  rcases hSl.out with ⟨e1, e2, e3⟩ | ⟨e1, e2, e3, e4, e5⟩
                  · have hok2 : okQ g sa (N - sa) = false := by unfold okQ; simp; omega
                    rw [hok2, if_neg (by decide)] at C27n
                    have HOK := Lib.hid (okS_of hSl.out hok1.out (.inl e1))
                    have e28 : decide (bs < sa) = false := by simp; omega
                    have hnb : Hid (¬ bs < N) := Lib.hid (by omega)
                    clear e1 e2 e3 hok2
                    go_wp2_with (first | (go_at_call 27; (with_reducible refine C27.out.mono ?_); rintro e w6 ⟨rfl, b6⟩; replace b6 := Lib.hid b6; have rr6 := Lib.hid (fun z (hz : Array.size z = 28) => Room.newN w6 z hz 80)) | ((with_reducible refine wpList_at (o := ⟨none, .store 80 (.tmp 18) (.tmp 104), _, _, _, _⟩) ?_); refine wpList_store_room (op := ⟨none, .store 80 (.tmp 18) (.tmp 104), _, _, _, _⟩) rfl 80 (.tmp 18) (.tmp 104) rfl w6.heap.size 0 28 (qL X) (rr6.out _ rfl) (by show 0 + 28 ≤ 28; omega) rfl rfl (i80q X) (qL_one X) ?_; intro W7 hW7; have s7 : Hid (Seg W7 w6.heap.size 0 (qL X)) := Lib.hid (by rw [hW7]; exact Seg.put (rr6.out _ rfl) (by show 0 + 28 ≤ 28; omega)); have b7 : Hid (Below w5'.heap.size w5' W7) := Lib.hid (b6.out.trans (Below.mono (by rw [hW7]; exact (Only.setCells (S := fun z => z = w6.heap.size) _ rfl _ _ (Only.of (ba w6 _))).below w6.heap.size (Nat.le_refl _) (fun z e => by omega)) b6.out.size)); have C27m := Lib.hid (C27n.out W7 b7.out); clear hW7 rr6) | (go_at_call 27; (with_reducible refine C27m.out.mono ?_); rintro e w8 ⟨rfl, b8⟩; replace b8 := Lib.hid b8; have rr8 := Lib.hid (fun z (hz : Array.size z = 28) => Room.newN w8 z hz 80)) | ((with_reducible refine wpList_at (o := ⟨none, .store 80 (.tmp 20) (.tmp 111), _, _, _, _⟩) ?_); refine wpList_store_room (op := ⟨none, .store 80 (.tmp 20) (.tmp 111), _, _, _, _⟩) rfl 80 (.tmp 20) (.tmp 111) rfl w8.heap.size 0 28 (qL zq) (rr8.out _ rfl) (by show 0 + 28 ≤ 28; omega) rfl rfl (i80q zq) (qL_one zq) ?_; intro W9 hW9; have s9 : Hid (Seg W9 w6.heap.size 0 (qL X)) := Lib.hid ((s7.out.after b8.out).after (by rw [hW9]; exact (Only.setCells (S := fun z => z = w8.heap.size) _ rfl _ _ (Only.of (ba w8 _))).below w8.heap.size (Nat.le_refl _) (fun z e => by omega))); have v9 : Hid (Seg W9 w8.heap.size 0 (qL zq)) := Lib.hid (by rw [hW9]; exact Seg.put (rr8.out _ rfl) (by show 0 + 28 ≤ 28; omega)); have b9 : Hid (Below w5'.heap.size w5' W9) := Lib.hid (b7.out.trans (Below.mono (b8.out.trans (Below.mono (by rw [hW9]; exact (Only.setCells (S := fun z => z = w8.heap.size) _ rfl _ _ (Only.of (ba w8 _))).below w8.heap.size (Nat.le_refl _) (fun z e => by omega)) b8.out.size)) b7.out.size)); clear hW9 rr8 s7) | ((with_reducible refine wpList_at (o := ⟨some 128, .load 80 (.tmp 18), _, _, _, _⟩) ?_); refine wpList_load_seg (op := ⟨some 128, .load 80 (.tmp 18), _, _, _, _⟩) rfl 80 (.tmp 18) rfl w6.heap.size 0 rfl (qL X) _ Tryd.underlying80 rfl (i80q X) s9.out ?_))
                    have t9 : Hid (Trk W9 b F imp) := Lib.hid (t6.out.after b9.out)
                    have O9 : Hid (Only (fun z => z = b) w W9) := Lib.hid (f6.out _ b9.out)
                    have u9 : Hid (UCs W9 U st) := Lib.hid (hu.out.after b9.out)
                    have D9 := Lib.hid (D6.out.after b9.out)
                    have M0 : Hid (MC W9 b (mixC X st F 0) imp W9) := Lib.hid ⟨t9.out.cg (fun k _ => by unfold mixC; rw [if_neg (by omega)]), Only.refl _⟩
                    have hX1 : Hid (∀ i, ((X i).kd == 26) = false) := Lib.hid (fun i => by rw [hX.out]; exact xq_all (p := fun t => (t.kd == 26) = false) HOK.out.b1 (fun i hi => (HG.out i (by have := HOK.out.bN; omega)).1.n26 (HG.out i (by have := HOK.out.bN; omega)).2) i)
                    have hX2 : Hid (∀ i, (X i).ch = .pointer none) := Lib.hid (fun i => by rw [hX.out]; exact xq_all (p := fun t => t.ch = .pointer none) HOK.out.b1 (fun i hi => (HG.out i (by have := HOK.out.bN; omega)).1.ch) i)
                    have hP8 : w8.heap.size < W9.heap.size := block_lt_of_cell (v9.out 0 _ rfl)
                    have hb8 : b < w8.heap.size := by have h1 := b7.out.size; have h2 := b8.out.size; have := t6.out.room.lt (by omega); omega
                    have hUb : ¬ U = b := by omega
                    have hUl : U < W9.heap.size := block_lt_of_cell u9.out.c0
                    clear slh hsl t6 k6 D6 r6 f6 C27 C27n b6 b7 C27m b8 s9 b9 t9
                    go_loopw [129] (fun v wr => ∃ i : Nat, i ≤ 4 ∧ v = .int .i64 i ∧ MC W9 b (mixC X st F i) imp wr) (fun v _ => 4 - (intOf v).toNat)
                    case atStart => exact ⟨0, by omega, rfl, M0.out⟩
                    case round =>
                      clear M0
                      obtain ⟨i, hi, rfl, hL⟩ := hrel
                      obtain ⟨v1, rfl⟩ : ∃ v1 : World, v1 = wr := ⟨_, rfl⟩
                      replace hL := Lib.hid hL
                      have u1 : Hid (UCs v1 U st) := Lib.hid ⟨hL.out.only.keep u9.out.c0 hUb, hL.out.only.keep u9.out.c1 hUb, by rw [hL.out.only.froz _ hUl]; exact u9.out.f1⟩
                      have hUv : U < v1.heap.size := block_lt_of_cell u1.out.c0
                      rcases (by omega : i = 0 ∨ i = 1 ∨ i = 2 ∨ i = 3 ∨ i = 4) with rfl | rfl | rfl | rfl | rfl
                      · have Xi := ix80_0 X
                        go_upto_region 33 with fail
                        refine wp_gen (fun V2 hV2 => ?_)
                        have B2 : Hid (Below v1.heap.size v1 V2) := Lib.hid (by rw [hV2]; exact ba _ _)
                        have s2 : Hid (Seg V2 v1.heap.size 0 (tkL (X 0))) := Lib.hid (by rw [hV2]; exact Seg.new v1 (tkL (X 0)) 32)
                        clear hV2 Xi
                        have u2 : Hid (UCs V2 U st) := Lib.hid (u1.out.after B2.out)
                        have ta := Lib.hid (s2.out.tat (hX2.out 0))
                        have y0 := u2.out.c0
                        have y1 := u2.out.c1
                        obtain ⟨P, hP⟩ : ∃ P, v1.heap.size = P := ⟨_, rfl⟩
                        rw [hP] at s2 ta ⊢
                        replace hP := Lib.hid hP
                        have C23 := Lib.hid (turn_c P 0 (X 0) (hX1.out 0) V2 ta.out)
                        have a0 : V2.cell? ⟨P, 0, none⟩ = some (.pointer none) := by simpa using s2.out 0 _ rfl
                        have a1 : V2.cell? ⟨P, 1, none⟩ = some (.string (X 0).tx) := by simpa using s2.out 1 _ rfl
                        have a2 : V2.cell? ⟨P, 2, none⟩ = some (.int .i32 (X 0).lo) := by simpa using s2.out 2 _ rfl
                        have a3 : V2.cell? ⟨P, 3, none⟩ = some (.int .u32 (X 0).pl) := by simpa using s2.out 3 _ rfl
                        have a4 : V2.cell? ⟨P, 4, none⟩ = some (.int .u16 (X 0).uo) := by simpa using s2.out 4 _ rfl
                        have a5 : V2.cell? ⟨P, 5, none⟩ = some (.int .u8 (X 0).kd) := by simpa using s2.out 5 _ rfl
                        have a6 : V2.cell? ⟨P, 6, none⟩ = some (.int .u8 (X 0).ws) := by simpa using s2.out 6 _ rfl
                        have C25 := Lib.hid (upd_i b 0 0 rfl R 1 c (mixC X st F 0) imp ⟨X 0, X 0, ⟨#[]⟩, st, 0, false⟩ V2 (hL.out.trk.after B2.out) (by omega) (by omega) (by unfold mixC; rw [if_neg (by omega), HF.out]; rfl))
                        cases hz : (st == 0)
                        all_goals
                          go_wp2_with (first | (go_at_call 23; (with_reducible refine C23.out.mono ?_); rintro e wz ⟨rfl, rfl⟩) | (go_at_call 25; (with_reducible refine C25.out.mono ?_); rintro e V3 ⟨rfl, t3, o3⟩; replace t3 := Lib.hid t3; replace o3 := Lib.hid o3))
                          go_roundw
                          case rel => exact ⟨1, by omega, by go_num, hL.out.up B2.out t3.out o3.out⟩
                          case measure => simp [intOf]
                      · have Xi := ix80_1 X
                        go_upto_region 33 with fail
                        refine wp_gen (fun V2 hV2 => ?_)
                        have B2 : Hid (Below v1.heap.size v1 V2) := Lib.hid (by rw [hV2]; exact ba _ _)
                        have s2 : Hid (Seg V2 v1.heap.size 0 (tkL (X 1))) := Lib.hid (by rw [hV2]; exact Seg.new v1 (tkL (X 1)) 32)
                        clear hV2 Xi
                        have u2 : Hid (UCs V2 U st) := Lib.hid (u1.out.after B2.out)
                        have ta := Lib.hid (s2.out.tat (hX2.out 1))
                        have y0 := u2.out.c0
                        have y1 := u2.out.c1
                        obtain ⟨P, hP⟩ : ∃ P, v1.heap.size = P := ⟨_, rfl⟩
                        rw [hP] at s2 ta ⊢
                        replace hP := Lib.hid hP
                        have C23 := Lib.hid (turn_c P 0 (X 1) (hX1.out 1) V2 ta.out)
                        have a0 : V2.cell? ⟨P, 0, none⟩ = some (.pointer none) := by simpa using s2.out 0 _ rfl
                        have a1 : V2.cell? ⟨P, 1, none⟩ = some (.string (X 1).tx) := by simpa using s2.out 1 _ rfl
                        have a2 : V2.cell? ⟨P, 2, none⟩ = some (.int .i32 (X 1).lo) := by simpa using s2.out 2 _ rfl
                        have a3 : V2.cell? ⟨P, 3, none⟩ = some (.int .u32 (X 1).pl) := by simpa using s2.out 3 _ rfl
                        have a4 : V2.cell? ⟨P, 4, none⟩ = some (.int .u16 (X 1).uo) := by simpa using s2.out 4 _ rfl
                        have a5 : V2.cell? ⟨P, 5, none⟩ = some (.int .u8 (X 1).kd) := by simpa using s2.out 5 _ rfl
                        have a6 : V2.cell? ⟨P, 6, none⟩ = some (.int .u8 (X 1).ws) := by simpa using s2.out 6 _ rfl
                        have C25 := Lib.hid (upd_i b 1 1 rfl R 1 c (mixC X st F 1) imp ⟨X 1, X 1, ⟨#[]⟩, st, 0, false⟩ V2 (hL.out.trk.after B2.out) (by omega) (by omega) (by unfold mixC; rw [if_neg (by omega), HF.out]; rfl))
                        cases hz : (st == 0)
                        all_goals
                          go_wp2_with (first | (go_at_call 23; (with_reducible refine C23.out.mono ?_); rintro e wz ⟨rfl, rfl⟩) | (go_at_call 25; (with_reducible refine C25.out.mono ?_); rintro e V3 ⟨rfl, t3, o3⟩; replace t3 := Lib.hid t3; replace o3 := Lib.hid o3))
                          go_roundw
                          case rel => exact ⟨2, by omega, by go_num, hL.out.up B2.out t3.out o3.out⟩
                          case measure => simp [intOf]
                      · have Xi := ix80_2 X
                        go_upto_region 33 with fail
                        refine wp_gen (fun V2 hV2 => ?_)
                        have B2 : Hid (Below v1.heap.size v1 V2) := Lib.hid (by rw [hV2]; exact ba _ _)
                        have s2 : Hid (Seg V2 v1.heap.size 0 (tkL (X 2))) := Lib.hid (by rw [hV2]; exact Seg.new v1 (tkL (X 2)) 32)
                        clear hV2 Xi
                        have u2 : Hid (UCs V2 U st) := Lib.hid (u1.out.after B2.out)
                        have ta := Lib.hid (s2.out.tat (hX2.out 2))
                        have y0 := u2.out.c0
                        have y1 := u2.out.c1
                        obtain ⟨P, hP⟩ : ∃ P, v1.heap.size = P := ⟨_, rfl⟩
                        rw [hP] at s2 ta ⊢
                        replace hP := Lib.hid hP
                        have C23 := Lib.hid (turn_c P 0 (X 2) (hX1.out 2) V2 ta.out)
                        have a0 : V2.cell? ⟨P, 0, none⟩ = some (.pointer none) := by simpa using s2.out 0 _ rfl
                        have a1 : V2.cell? ⟨P, 1, none⟩ = some (.string (X 2).tx) := by simpa using s2.out 1 _ rfl
                        have a2 : V2.cell? ⟨P, 2, none⟩ = some (.int .i32 (X 2).lo) := by simpa using s2.out 2 _ rfl
                        have a3 : V2.cell? ⟨P, 3, none⟩ = some (.int .u32 (X 2).pl) := by simpa using s2.out 3 _ rfl
                        have a4 : V2.cell? ⟨P, 4, none⟩ = some (.int .u16 (X 2).uo) := by simpa using s2.out 4 _ rfl
                        have a5 : V2.cell? ⟨P, 5, none⟩ = some (.int .u8 (X 2).kd) := by simpa using s2.out 5 _ rfl
                        have a6 : V2.cell? ⟨P, 6, none⟩ = some (.int .u8 (X 2).ws) := by simpa using s2.out 6 _ rfl
                        have C25 := Lib.hid (upd_i b 2 2 rfl R 1 c (mixC X st F 2) imp ⟨X 2, X 2, ⟨#[]⟩, st, 0, false⟩ V2 (hL.out.trk.after B2.out) (by omega) (by omega) (by unfold mixC; rw [if_neg (by omega), HF.out]; rfl))
                        cases hz : (st == 0)
                        all_goals
                          go_wp2_with (first | (go_at_call 23; (with_reducible refine C23.out.mono ?_); rintro e wz ⟨rfl, rfl⟩) | (go_at_call 25; (with_reducible refine C25.out.mono ?_); rintro e V3 ⟨rfl, t3, o3⟩; replace t3 := Lib.hid t3; replace o3 := Lib.hid o3))
                          go_roundw
                          case rel => exact ⟨3, by omega, by go_num, hL.out.up B2.out t3.out o3.out⟩
                          case measure => simp [intOf]
                      · have Xi := ix80_3 X
                        go_upto_region 33 with fail
                        refine wp_gen (fun V2 hV2 => ?_)
                        have B2 : Hid (Below v1.heap.size v1 V2) := Lib.hid (by rw [hV2]; exact ba _ _)
                        have s2 : Hid (Seg V2 v1.heap.size 0 (tkL (X 3))) := Lib.hid (by rw [hV2]; exact Seg.new v1 (tkL (X 3)) 32)
                        clear hV2 Xi
                        have u2 : Hid (UCs V2 U st) := Lib.hid (u1.out.after B2.out)
                        have ta := Lib.hid (s2.out.tat (hX2.out 3))
                        have y0 := u2.out.c0
                        have y1 := u2.out.c1
                        obtain ⟨P, hP⟩ : ∃ P, v1.heap.size = P := ⟨_, rfl⟩
                        rw [hP] at s2 ta ⊢
                        replace hP := Lib.hid hP
                        have C23 := Lib.hid (turn_c P 0 (X 3) (hX1.out 3) V2 ta.out)
                        have a0 : V2.cell? ⟨P, 0, none⟩ = some (.pointer none) := by simpa using s2.out 0 _ rfl
                        have a1 : V2.cell? ⟨P, 1, none⟩ = some (.string (X 3).tx) := by simpa using s2.out 1 _ rfl
                        have a2 : V2.cell? ⟨P, 2, none⟩ = some (.int .i32 (X 3).lo) := by simpa using s2.out 2 _ rfl
                        have a3 : V2.cell? ⟨P, 3, none⟩ = some (.int .u32 (X 3).pl) := by simpa using s2.out 3 _ rfl
                        have a4 : V2.cell? ⟨P, 4, none⟩ = some (.int .u16 (X 3).uo) := by simpa using s2.out 4 _ rfl
                        have a5 : V2.cell? ⟨P, 5, none⟩ = some (.int .u8 (X 3).kd) := by simpa using s2.out 5 _ rfl
                        have a6 : V2.cell? ⟨P, 6, none⟩ = some (.int .u8 (X 3).ws) := by simpa using s2.out 6 _ rfl
                        have C25 := Lib.hid (upd_i b 3 3 rfl R 1 c (mixC X st F 3) imp ⟨X 3, X 3, ⟨#[]⟩, st, 0, false⟩ V2 (hL.out.trk.after B2.out) (by omega) (by omega) (by unfold mixC; rw [if_neg (by omega), HF.out]; rfl))
                        cases hz : (st == 0)
                        all_goals
                          go_wp2_with (first | (go_at_call 23; (with_reducible refine C23.out.mono ?_); rintro e wz ⟨rfl, rfl⟩) | (go_at_call 25; (with_reducible refine C25.out.mono ?_); rintro e V3 ⟨rfl, t3, o3⟩; replace t3 := Lib.hid t3; replace o3 := Lib.hid o3))
                          go_roundw
                          case rel => exact ⟨4, by omega, by go_num, hL.out.up B2.out t3.out o3.out⟩
                          case measure => simp [intOf]
                      · have D10 : Hid (Seg v1 Dd 0 (dcL kt (.slice (some ⟨T, 0, none⟩) N cc) lo len key imp)) := Lib.hid (D9.out.only hL.out.only (fun e => HbD.out e.symm))
                        have e2 : v1.cell? ⟨Dd, 2, none⟩ = some (.int .i32 lo) := by simpa using D10.out 2 _ rfl
                        have e3 : v1.cell? ⟨Dd, 3, none⟩ = some (.int .i32 len) := by simpa using D10.out 3 _ rfl
                        have t4 : Hid (Trk v1 b (crF (xq bs G) (q2F G N bs sa) st) imp) := Lib.hid (hL.out.trk.cg (fun k hk => by unfold mixC crF q2F; rw [if_pos hk, if_neg hnb.out, hX.out]))
                        have O4 : Hid (Only (fun z => z = b) w v1) := Lib.hid (O9.out.trans hL.out.only)
                        have C26 := Lib.hid (hC.out bs sa st v1 HOK.out HST.out t4.out O4.out)
                        go_wp2_with (go_at_call 26; (with_reducible refine C26.out.mono ?_); intro e w7 hq; obtain rfl := hQ.out _ _ _ _ _ _ hq; replace hq := Lib.hid hq)
                        exact bodyPost_end (v := .tuple #[]) (by simp [results, Tryd.results18, go_sem]) rfl ⟨rfl, .inr ⟨bs, sa, st, HOK.out, HST.out, v1, t4.out, O4.out, hq.out⟩⟩
                  · have e28 : decide (bs < sa) = true := by simp; omega
                    have hnb : Hid (bs < N) := Lib.hid e1
                    clear e3 e4 e5
                    cases hok2 : okQ g sa (N - sa) with
                    | false =>
                      rw [hok2, if_neg (by decide)] at C27n
                      have hno := Lib.hid (ref_no hSl.out (.inr ⟨e1, hok2⟩))
                      clear hok2
                      go_wp2_with (first | (go_at_call 27; (with_reducible refine C27.out.mono ?_); rintro e w6 ⟨rfl, b6⟩; replace b6 := Lib.hid b6; have rr6 := Lib.hid (fun z (hz : Array.size z = 28) => Room.newN w6 z hz 80)) | ((with_reducible refine wpList_at (o := ⟨none, .store 80 (.tmp 18) (.tmp 104), _, _, _, _⟩) ?_); refine wpList_store_room (op := ⟨none, .store 80 (.tmp 18) (.tmp 104), _, _, _, _⟩) rfl 80 (.tmp 18) (.tmp 104) rfl w6.heap.size 0 28 (qL X) (rr6.out _ rfl) (by show 0 + 28 ≤ 28; omega) rfl rfl (i80q X) (qL_one X) ?_; intro W7 hW7; have s7 : Hid (Seg W7 w6.heap.size 0 (qL X)) := Lib.hid (by rw [hW7]; exact Seg.put (rr6.out _ rfl) (by show 0 + 28 ≤ 28; omega)); have b7 : Hid (Below w5'.heap.size w5' W7) := Lib.hid (b6.out.trans (Below.mono (by rw [hW7]; exact (Only.setCells (S := fun z => z = w6.heap.size) _ rfl _ _ (Only.of (ba w6 _))).below w6.heap.size (Nat.le_refl _) (fun z e => by omega)) b6.out.size)); have C27m := Lib.hid (C27n.out W7 b7.out); clear hW7 rr6) | (go_at_call 27; (with_reducible refine C27m.out.mono ?_); rintro e w8 ⟨rfl, b8⟩; replace b8 := Lib.hid b8; have rr8 := Lib.hid (fun z (hz : Array.size z = 28) => Room.newN w8 z hz 80)) | ((with_reducible refine wpList_at (o := ⟨none, .store 80 (.tmp 20) (.tmp 111), _, _, _, _⟩) ?_); refine wpList_store_room (op := ⟨none, .store 80 (.tmp 20) (.tmp 111), _, _, _, _⟩) rfl 80 (.tmp 20) (.tmp 111) rfl w8.heap.size 0 28 (qL zq) (rr8.out _ rfl) (by show 0 + 28 ≤ 28; omega) rfl rfl (i80q zq) (qL_one zq) ?_; intro W9 hW9; have s9 : Hid (Seg W9 w6.heap.size 0 (qL X)) := Lib.hid ((s7.out.after b8.out).after (by rw [hW9]; exact (Only.setCells (S := fun z => z = w8.heap.size) _ rfl _ _ (Only.of (ba w8 _))).below w8.heap.size (Nat.le_refl _) (fun z e => by omega))); have v9 : Hid (Seg W9 w8.heap.size 0 (qL zq)) := Lib.hid (by rw [hW9]; exact Seg.put (rr8.out _ rfl) (by show 0 + 28 ≤ 28; omega)); have b9 : Hid (Below w5'.heap.size w5' W9) := Lib.hid (b7.out.trans (Below.mono (b8.out.trans (Below.mono (by rw [hW9]; exact (Only.setCells (S := fun z => z = w8.heap.size) _ rfl _ _ (Only.of (ba w8 _))).below w8.heap.size (Nat.le_refl _) (fun z e => by omega)) b8.out.size)) b7.out.size)); clear hW9 rr8 s7) | ((with_reducible refine wpList_at (o := ⟨none, .store 67 (.tmp 127) (.tmp 125), _, _, _, _⟩) ?_); refine wpList_store_room (op := ⟨none, .store 67 (.tmp 127) (.tmp 125), _, _, _, _⟩) rfl 67 (.tmp 127) (.tmp 125) rfl b 0 73 (trk4 fun _ => Cn0) (r6.out _ b9.out) (by show 0 + 72 ≤ 73; omega) rfl (congrArg Value.agg zero67) (i67 _) trk4_one ?_; intro wf hwf))
                      refine bodyPost_ret (v := .tuple #[]) (by simp [results, Tryd.results18, go_sem]) rfl (AllP.no ((f6.out _ b9.out).trans (by rw [hwf]; exact Only.setCells (S := fun z => z = b) b rfl _ _ (Only.refl _))) hno.out)
                    | true =>
                      rw [hok2, if_pos rfl] at C27n
                      have HOK := Lib.hid (okS_of hSl.out hok1.out (.inr hok2))
                      have hn2 : Hid (1 ≤ N - sa) := Lib.hid (by unfold okQ at hok2; simp only [decide_eq_true_eq] at hok2; exact hok2.1)
                      obtain ⟨Y, hY⟩ : ∃ Y, Y = xq (N - sa) (fun i => G (sa + i)) := ⟨_, rfl⟩
                      rw [← hY] at C27n
                      replace hY := Lib.hid hY
                      clear hok2
                      go_wp2_with (first | (go_at_call 27; (with_reducible refine C27.out.mono ?_); rintro e w6 ⟨rfl, b6⟩; replace b6 := Lib.hid b6; have rr6 := Lib.hid (fun z (hz : Array.size z = 28) => Room.newN w6 z hz 80)) | ((with_reducible refine wpList_at (o := ⟨none, .store 80 (.tmp 18) (.tmp 104), _, _, _, _⟩) ?_); refine wpList_store_room (op := ⟨none, .store 80 (.tmp 18) (.tmp 104), _, _, _, _⟩) rfl 80 (.tmp 18) (.tmp 104) rfl w6.heap.size 0 28 (qL X) (rr6.out _ rfl) (by show 0 + 28 ≤ 28; omega) rfl rfl (i80q X) (qL_one X) ?_; intro W7 hW7; have s7 : Hid (Seg W7 w6.heap.size 0 (qL X)) := Lib.hid (by rw [hW7]; exact Seg.put (rr6.out _ rfl) (by show 0 + 28 ≤ 28; omega)); have b7 : Hid (Below w5'.heap.size w5' W7) := Lib.hid (b6.out.trans (Below.mono (by rw [hW7]; exact (Only.setCells (S := fun z => z = w6.heap.size) _ rfl _ _ (Only.of (ba w6 _))).below w6.heap.size (Nat.le_refl _) (fun z e => by omega)) b6.out.size)); have C27m := Lib.hid (C27n.out W7 b7.out); clear hW7 rr6) | (go_at_call 27; (with_reducible refine C27m.out.mono ?_); rintro e w8 ⟨rfl, b8⟩; replace b8 := Lib.hid b8; have rr8 := Lib.hid (fun z (hz : Array.size z = 28) => Room.newN w8 z hz 80)) | ((with_reducible refine wpList_at (o := ⟨none, .store 80 (.tmp 20) (.tmp 111), _, _, _, _⟩) ?_); refine wpList_store_room (op := ⟨none, .store 80 (.tmp 20) (.tmp 111), _, _, _, _⟩) rfl 80 (.tmp 20) (.tmp 111) rfl w8.heap.size 0 28 (qL Y) (rr8.out _ rfl) (by show 0 + 28 ≤ 28; omega) rfl rfl (i80q Y) (qL_one Y) ?_; intro W9 hW9; have s9 : Hid (Seg W9 w6.heap.size 0 (qL X)) := Lib.hid ((s7.out.after b8.out).after (by rw [hW9]; exact (Only.setCells (S := fun z => z = w8.heap.size) _ rfl _ _ (Only.of (ba w8 _))).below w8.heap.size (Nat.le_refl _) (fun z e => by omega))); have v9 : Hid (Seg W9 w8.heap.size 0 (qL Y)) := Lib.hid (by rw [hW9]; exact Seg.put (rr8.out _ rfl) (by show 0 + 28 ≤ 28; omega)); have b9 : Hid (Below w5'.heap.size w5' W9) := Lib.hid (b7.out.trans (Below.mono (b8.out.trans (Below.mono (by rw [hW9]; exact (Only.setCells (S := fun z => z = w8.heap.size) _ rfl _ _ (Only.of (ba w8 _))).below w8.heap.size (Nat.le_refl _) (fun z e => by omega)) b8.out.size)) b7.out.size)); clear hW9 rr8 s7) | ((with_reducible refine wpList_at (o := ⟨some 128, .load 80 (.tmp 18), _, _, _, _⟩) ?_); refine wpList_load_seg (op := ⟨some 128, .load 80 (.tmp 18), _, _, _, _⟩) rfl 80 (.tmp 18) rfl w6.heap.size 0 rfl (qL X) _ Tryd.underlying80 rfl (i80q X) s9.out ?_))
                      have t9 : Hid (Trk W9 b F imp) := Lib.hid (t6.out.after b9.out)
                      have O9 : Hid (Only (fun z => z = b) w W9) := Lib.hid (f6.out _ b9.out)
                      have u9 : Hid (UCs W9 U st) := Lib.hid (hu.out.after b9.out)
                      have D9 := Lib.hid (D6.out.after b9.out)
                      have M0 : Hid (MC W9 b (mixC X st F 0) imp W9) := Lib.hid ⟨t9.out.cg (fun k _ => by unfold mixC; rw [if_neg (by omega)]), Only.refl _⟩
                      have hX1 : Hid (∀ i, ((X i).kd == 26) = false) := Lib.hid (fun i => by rw [hX.out]; exact xq_all (p := fun t => (t.kd == 26) = false) HOK.out.b1 (fun i hi => (HG.out i (by have := HOK.out.bN; omega)).1.n26 (HG.out i (by have := HOK.out.bN; omega)).2) i)
                      have hX2 : Hid (∀ i, (X i).ch = .pointer none) := Lib.hid (fun i => by rw [hX.out]; exact xq_all (p := fun t => t.ch = .pointer none) HOK.out.b1 (fun i hi => (HG.out i (by have := HOK.out.bN; omega)).1.ch) i)
                      have hY1 : Hid (∀ i, ((Y i).kd == 26) = false) := Lib.hid (fun i => by rw [hY.out]; exact xq_all (p := fun t => (t.kd == 26) = false) hn2.out (fun i hi => (HG.out (sa + i) (by omega)).1.n26 (HG.out (sa + i) (by omega)).2) i)
                      have hY2 : Hid (∀ i, (Y i).ch = .pointer none) := Lib.hid (fun i => by rw [hY.out]; exact xq_all (p := fun t => t.ch = .pointer none) hn2.out (fun i hi => (HG.out (sa + i) (by omega)).1.ch) i)
                      have hP8 : w8.heap.size < W9.heap.size := block_lt_of_cell (v9.out 0 _ rfl)
                      have hb8 : b < w8.heap.size := by have h1 := b7.out.size; have h2 := b8.out.size; have := t6.out.room.lt (by omega); omega
                      have hUb : ¬ U = b := by omega
                      have hUl : U < W9.heap.size := block_lt_of_cell u9.out.c0
                      clear slh hsl t6 k6 D6 r6 f6 C27 C27n b6 b7 C27m b8 s9 b9 t9
                      go_loopw [129] (fun v wr => ∃ i : Nat, i ≤ 4 ∧ v = .int .i64 i ∧ MC W9 b (mixC X st F i) imp wr) (fun v _ => 4 - (intOf v).toNat)
                      case atStart => exact ⟨0, by omega, rfl, M0.out⟩
                      case round =>
                        clear M0
                        obtain ⟨i, hi, rfl, hL⟩ := hrel
                        obtain ⟨v1, rfl⟩ : ∃ v1 : World, v1 = wr := ⟨_, rfl⟩
                        replace hL := Lib.hid hL
                        have u1 : Hid (UCs v1 U st) := Lib.hid ⟨hL.out.only.keep u9.out.c0 hUb, hL.out.only.keep u9.out.c1 hUb, by rw [hL.out.only.froz _ hUl]; exact u9.out.f1⟩
                        have hUv : U < v1.heap.size := block_lt_of_cell u1.out.c0
                        rcases (by omega : i = 0 ∨ i = 1 ∨ i = 2 ∨ i = 3 ∨ i = 4) with rfl | rfl | rfl | rfl | rfl
                        · have Xi := ix80_0 X
                          go_upto_region 33 with fail
                          refine wp_gen (fun V2 hV2 => ?_)
                          have B2 : Hid (Below v1.heap.size v1 V2) := Lib.hid (by rw [hV2]; exact ba _ _)
                          have s2 : Hid (Seg V2 v1.heap.size 0 (tkL (X 0))) := Lib.hid (by rw [hV2]; exact Seg.new v1 (tkL (X 0)) 32)
                          clear hV2 Xi
                          have u2 : Hid (UCs V2 U st) := Lib.hid (u1.out.after B2.out)
                          have ta := Lib.hid (s2.out.tat (hX2.out 0))
                          have y0 := u2.out.c0
                          have y1 := u2.out.c1
                          obtain ⟨P, hP⟩ : ∃ P, v1.heap.size = P := ⟨_, rfl⟩
                          rw [hP] at s2 ta ⊢
                          replace hP := Lib.hid hP
                          have C23 := Lib.hid (turn_c P 0 (X 0) (hX1.out 0) V2 ta.out)
                          have a0 : V2.cell? ⟨P, 0, none⟩ = some (.pointer none) := by simpa using s2.out 0 _ rfl
                          have a1 : V2.cell? ⟨P, 1, none⟩ = some (.string (X 0).tx) := by simpa using s2.out 1 _ rfl
                          have a2 : V2.cell? ⟨P, 2, none⟩ = some (.int .i32 (X 0).lo) := by simpa using s2.out 2 _ rfl
                          have a3 : V2.cell? ⟨P, 3, none⟩ = some (.int .u32 (X 0).pl) := by simpa using s2.out 3 _ rfl
                          have a4 : V2.cell? ⟨P, 4, none⟩ = some (.int .u16 (X 0).uo) := by simpa using s2.out 4 _ rfl
                          have a5 : V2.cell? ⟨P, 5, none⟩ = some (.int .u8 (X 0).kd) := by simpa using s2.out 5 _ rfl
                          have a6 : V2.cell? ⟨P, 6, none⟩ = some (.int .u8 (X 0).ws) := by simpa using s2.out 6 _ rfl
                          have C25 := Lib.hid (upd_i b 0 0 rfl R 1 c (mixC X st F 0) imp ⟨X 0, X 0, ⟨#[]⟩, st, 0, false⟩ V2 (hL.out.trk.after B2.out) (by omega) (by omega) (by unfold mixC; rw [if_neg (by omega), HF.out]; rfl))
                          cases hz : (st == 0)
                          all_goals
                            go_wp2_with (first | (go_at_call 23; (with_reducible refine C23.out.mono ?_); rintro e wz ⟨rfl, rfl⟩) | (go_at_call 25; (with_reducible refine C25.out.mono ?_); rintro e V3 ⟨rfl, t3, o3⟩; replace t3 := Lib.hid t3; replace o3 := Lib.hid o3))
                            go_roundw
                            case rel => exact ⟨1, by omega, by go_num, hL.out.up B2.out t3.out o3.out⟩
                            case measure => simp [intOf]
                        · have Xi := ix80_1 X
                          go_upto_region 33 with fail
                          refine wp_gen (fun V2 hV2 => ?_)
                          have B2 : Hid (Below v1.heap.size v1 V2) := Lib.hid (by rw [hV2]; exact ba _ _)
                          have s2 : Hid (Seg V2 v1.heap.size 0 (tkL (X 1))) := Lib.hid (by rw [hV2]; exact Seg.new v1 (tkL (X 1)) 32)
                          clear hV2 Xi
                          have u2 : Hid (UCs V2 U st) := Lib.hid (u1.out.after B2.out)
                          have ta := Lib.hid (s2.out.tat (hX2.out 1))
                          have y0 := u2.out.c0
                          have y1 := u2.out.c1
                          obtain ⟨P, hP⟩ : ∃ P, v1.heap.size = P := ⟨_, rfl⟩
                          rw [hP] at s2 ta ⊢
                          replace hP := Lib.hid hP
                          have C23 := Lib.hid (turn_c P 0 (X 1) (hX1.out 1) V2 ta.out)
                          have a0 : V2.cell? ⟨P, 0, none⟩ = some (.pointer none) := by simpa using s2.out 0 _ rfl
                          have a1 : V2.cell? ⟨P, 1, none⟩ = some (.string (X 1).tx) := by simpa using s2.out 1 _ rfl
                          have a2 : V2.cell? ⟨P, 2, none⟩ = some (.int .i32 (X 1).lo) := by simpa using s2.out 2 _ rfl
                          have a3 : V2.cell? ⟨P, 3, none⟩ = some (.int .u32 (X 1).pl) := by simpa using s2.out 3 _ rfl
                          have a4 : V2.cell? ⟨P, 4, none⟩ = some (.int .u16 (X 1).uo) := by simpa using s2.out 4 _ rfl
                          have a5 : V2.cell? ⟨P, 5, none⟩ = some (.int .u8 (X 1).kd) := by simpa using s2.out 5 _ rfl
                          have a6 : V2.cell? ⟨P, 6, none⟩ = some (.int .u8 (X 1).ws) := by simpa using s2.out 6 _ rfl
                          have C25 := Lib.hid (upd_i b 1 1 rfl R 1 c (mixC X st F 1) imp ⟨X 1, X 1, ⟨#[]⟩, st, 0, false⟩ V2 (hL.out.trk.after B2.out) (by omega) (by omega) (by unfold mixC; rw [if_neg (by omega), HF.out]; rfl))
                          cases hz : (st == 0)
                          all_goals
                            go_wp2_with (first | (go_at_call 23; (with_reducible refine C23.out.mono ?_); rintro e wz ⟨rfl, rfl⟩) | (go_at_call 25; (with_reducible refine C25.out.mono ?_); rintro e V3 ⟨rfl, t3, o3⟩; replace t3 := Lib.hid t3; replace o3 := Lib.hid o3))
                            go_roundw
                            case rel => exact ⟨2, by omega, by go_num, hL.out.up B2.out t3.out o3.out⟩
                            case measure => simp [intOf]
                        · have Xi := ix80_2 X
                          go_upto_region 33 with fail
                          refine wp_gen (fun V2 hV2 => ?_)
                          have B2 : Hid (Below v1.heap.size v1 V2) := Lib.hid (by rw [hV2]; exact ba _ _)
                          have s2 : Hid (Seg V2 v1.heap.size 0 (tkL (X 2))) := Lib.hid (by rw [hV2]; exact Seg.new v1 (tkL (X 2)) 32)
                          clear hV2 Xi
                          have u2 : Hid (UCs V2 U st) := Lib.hid (u1.out.after B2.out)
                          have ta := Lib.hid (s2.out.tat (hX2.out 2))
                          have y0 := u2.out.c0
                          have y1 := u2.out.c1
                          obtain ⟨P, hP⟩ : ∃ P, v1.heap.size = P := ⟨_, rfl⟩
                          rw [hP] at s2 ta ⊢
                          replace hP := Lib.hid hP
                          have C23 := Lib.hid (turn_c P 0 (X 2) (hX1.out 2) V2 ta.out)
                          have a0 : V2.cell? ⟨P, 0, none⟩ = some (.pointer none) := by simpa using s2.out 0 _ rfl
                          have a1 : V2.cell? ⟨P, 1, none⟩ = some (.string (X 2).tx) := by simpa using s2.out 1 _ rfl
                          have a2 : V2.cell? ⟨P, 2, none⟩ = some (.int .i32 (X 2).lo) := by simpa using s2.out 2 _ rfl
                          have a3 : V2.cell? ⟨P, 3, none⟩ = some (.int .u32 (X 2).pl) := by simpa using s2.out 3 _ rfl
                          have a4 : V2.cell? ⟨P, 4, none⟩ = some (.int .u16 (X 2).uo) := by simpa using s2.out 4 _ rfl
                          have a5 : V2.cell? ⟨P, 5, none⟩ = some (.int .u8 (X 2).kd) := by simpa using s2.out 5 _ rfl
                          have a6 : V2.cell? ⟨P, 6, none⟩ = some (.int .u8 (X 2).ws) := by simpa using s2.out 6 _ rfl
                          have C25 := Lib.hid (upd_i b 2 2 rfl R 1 c (mixC X st F 2) imp ⟨X 2, X 2, ⟨#[]⟩, st, 0, false⟩ V2 (hL.out.trk.after B2.out) (by omega) (by omega) (by unfold mixC; rw [if_neg (by omega), HF.out]; rfl))
                          cases hz : (st == 0)
                          all_goals
                            go_wp2_with (first | (go_at_call 23; (with_reducible refine C23.out.mono ?_); rintro e wz ⟨rfl, rfl⟩) | (go_at_call 25; (with_reducible refine C25.out.mono ?_); rintro e V3 ⟨rfl, t3, o3⟩; replace t3 := Lib.hid t3; replace o3 := Lib.hid o3))
                            go_roundw
                            case rel => exact ⟨3, by omega, by go_num, hL.out.up B2.out t3.out o3.out⟩
                            case measure => simp [intOf]
                        · have Xi := ix80_3 X
                          go_upto_region 33 with fail
                          refine wp_gen (fun V2 hV2 => ?_)
                          have B2 : Hid (Below v1.heap.size v1 V2) := Lib.hid (by rw [hV2]; exact ba _ _)
                          have s2 : Hid (Seg V2 v1.heap.size 0 (tkL (X 3))) := Lib.hid (by rw [hV2]; exact Seg.new v1 (tkL (X 3)) 32)
                          clear hV2 Xi
                          have u2 : Hid (UCs V2 U st) := Lib.hid (u1.out.after B2.out)
                          have ta := Lib.hid (s2.out.tat (hX2.out 3))
                          have y0 := u2.out.c0
                          have y1 := u2.out.c1
                          obtain ⟨P, hP⟩ : ∃ P, v1.heap.size = P := ⟨_, rfl⟩
                          rw [hP] at s2 ta ⊢
                          replace hP := Lib.hid hP
                          have C23 := Lib.hid (turn_c P 0 (X 3) (hX1.out 3) V2 ta.out)
                          have a0 : V2.cell? ⟨P, 0, none⟩ = some (.pointer none) := by simpa using s2.out 0 _ rfl
                          have a1 : V2.cell? ⟨P, 1, none⟩ = some (.string (X 3).tx) := by simpa using s2.out 1 _ rfl
                          have a2 : V2.cell? ⟨P, 2, none⟩ = some (.int .i32 (X 3).lo) := by simpa using s2.out 2 _ rfl
                          have a3 : V2.cell? ⟨P, 3, none⟩ = some (.int .u32 (X 3).pl) := by simpa using s2.out 3 _ rfl
                          have a4 : V2.cell? ⟨P, 4, none⟩ = some (.int .u16 (X 3).uo) := by simpa using s2.out 4 _ rfl
                          have a5 : V2.cell? ⟨P, 5, none⟩ = some (.int .u8 (X 3).kd) := by simpa using s2.out 5 _ rfl
                          have a6 : V2.cell? ⟨P, 6, none⟩ = some (.int .u8 (X 3).ws) := by simpa using s2.out 6 _ rfl
                          have C25 := Lib.hid (upd_i b 3 3 rfl R 1 c (mixC X st F 3) imp ⟨X 3, X 3, ⟨#[]⟩, st, 0, false⟩ V2 (hL.out.trk.after B2.out) (by omega) (by omega) (by unfold mixC; rw [if_neg (by omega), HF.out]; rfl))
                          cases hz : (st == 0)
                          all_goals
                            go_wp2_with (first | (go_at_call 23; (with_reducible refine C23.out.mono ?_); rintro e wz ⟨rfl, rfl⟩) | (go_at_call 25; (with_reducible refine C25.out.mono ?_); rintro e V3 ⟨rfl, t3, o3⟩; replace t3 := Lib.hid t3; replace o3 := Lib.hid o3))
                            go_roundw
                            case rel => exact ⟨4, by omega, by go_num, hL.out.up B2.out t3.out o3.out⟩
                            case measure => simp [intOf]
                        · have v9' : Hid (Seg v1 w8.heap.size 0 (qL Y)) := Lib.hid (v9.out.only hL.out.only (by omega))
                          go_wp2_with ((with_reducible refine wpList_at (o := ⟨some 151, .load 80 (.tmp 20), _, _, _, _⟩) ?_); refine wpList_load_seg (op := ⟨some 151, .load 80 (.tmp 20), _, _, _, _⟩) rfl 80 (.tmp 20) rfl w8.heap.size 0 rfl (qL Y) _ Tryd.underlying80 rfl (i80q Y) v9'.out ?_)
                          have M1 : Hid (MC W9 b (mixD X Y st 0) imp v1) := Lib.hid ⟨hL.out.trk.cg (fun k hk => by unfold mixC mixD; rw [if_pos hk, if_neg (by omega)]), hL.out.only⟩
                          clear hL u1 v9'
                          go_loopw [152] (fun v wr => ∃ i : Nat, i ≤ 4 ∧ v = .int .i64 i ∧ MC W9 b (mixD X Y st i) imp wr) (fun v _ => 4 - (intOf v).toNat)
                          case atStart => exact ⟨0, by omega, rfl, M1.out⟩
                          case round =>
                            clear M1
                            obtain ⟨i, hi, rfl, hL⟩ := hrel
                            obtain ⟨v2, rfl⟩ : ∃ v2 : World, v2 = wr := ⟨_, rfl⟩
                            replace hL := Lib.hid hL
                            have u1 : Hid (UCs v2 U st) := Lib.hid ⟨hL.out.only.keep u9.out.c0 hUb, hL.out.only.keep u9.out.c1 hUb, by rw [hL.out.only.froz _ hUl]; exact u9.out.f1⟩
                            have hUv2 : U < v2.heap.size := block_lt_of_cell u1.out.c0
                            have hbv2 : b < v2.heap.size := hL.out.trk.room.lt (by omega)
                            rcases (by omega : i = 0 ∨ i = 1 ∨ i = 2 ∨ i = 3 ∨ i = 4) with rfl | rfl | rfl | rfl | rfl
                            · have Xi := ix80_0 Y
                              go_upto_region 41 with fail
                              refine wp_gen (fun V2 hV2 => ?_)
                              have B2 : Hid (Below v2.heap.size v2 V2) := Lib.hid (by rw [hV2]; exact ba _ _)
                              have s2 : Hid (Seg V2 v2.heap.size 0 (tkL (Y 0))) := Lib.hid (by rw [hV2]; exact Seg.new v2 (tkL (Y 0)) 32)
                              clear hV2 Xi
                              have u2 : Hid (UCs V2 U st) := Lib.hid (u1.out.after B2.out)
                              have ta := Lib.hid (s2.out.tat (hY2.out 0))
                              have y0 := u2.out.c0
                              have y1 := u2.out.c1
                              obtain ⟨P, hP⟩ : ∃ P, v2.heap.size = P := ⟨_, rfl⟩
                              rw [hP] at s2 ta ⊢
                              replace hP := Lib.hid hP
                              have C23 := Lib.hid (turn_c P 0 (Y 0) (hY1.out 0) V2 ta.out)
                              have rb := Lib.hid (hL.out.trk.after B2.out).room
                              cases hz : (st == 0)
                              all_goals
                                go_upto_region 43 with (go_at_call 23; (with_reducible refine C23.out.mono ?_); rintro e wz ⟨rfl, rfl⟩)
                                have z0 : ∀ d os, (Sort.grow (redrawn V2 d) os).cell? ⟨P, 0, none⟩ = some (.pointer none) := fun d os => cell_regrown (by simpa using s2.out 0 _ rfl) d os
                                have z1 : ∀ d os, (Sort.grow (redrawn V2 d) os).cell? ⟨P, 1, none⟩ = some (.string (Y 0).tx) := fun d os => cell_regrown (by simpa using s2.out 1 _ rfl) d os
                                have z2 : ∀ d os, (Sort.grow (redrawn V2 d) os).cell? ⟨P, 2, none⟩ = some (.int .i32 (Y 0).lo) := fun d os => cell_regrown (by simpa using s2.out 2 _ rfl) d os
                                have z3 : ∀ d os, (Sort.grow (redrawn V2 d) os).cell? ⟨P, 3, none⟩ = some (.int .u32 (Y 0).pl) := fun d os => cell_regrown (by simpa using s2.out 3 _ rfl) d os
                                have z4 : ∀ d os, (Sort.grow (redrawn V2 d) os).cell? ⟨P, 4, none⟩ = some (.int .u16 (Y 0).uo) := fun d os => cell_regrown (by simpa using s2.out 4 _ rfl) d os
                                have z5 : ∀ d os, (Sort.grow (redrawn V2 d) os).cell? ⟨P, 5, none⟩ = some (.int .u8 (Y 0).kd) := fun d os => cell_regrown (by simpa using s2.out 5 _ rfl) d os
                                have z6 : ∀ d os, (Sort.grow (redrawn V2 d) os).cell? ⟨P, 6, none⟩ = some (.int .u8 (Y 0).ws) := fun d os => cell_regrown (by simpa using s2.out 6 _ rfl) d os
                                refine drawn_tail 7 (by kernel_rfl) (by kernel_rfl) (by kernel_rfl) (fun Q' hQ' => ?_)
                                simp only [List.take_succ_cons, List.take_zero, List.drop_succ_cons, List.drop_zero]
                                repeat (quiet_step (fail))
                                refine wpQuiet_nil ?_
                                intro V3 hw
                                have b23 : Hid (Below V2.heap.size V2 V3) := Lib.hid (by
                                  obtain ⟨⟨d, os⟩, rfl⟩ := hw
                                  exact below_regrown _ d os)
                                clear hw z0 z1 z2 z3 z4 z5 z6
                                have rb3 := Lib.hid (rb.out.after b23.out)
                                have B23 : Hid (Below v2.heap.size v2 V3) := Lib.hid (B2.out.trans (b23.out.mono B2.out.size))
                                go_wp2_with ((with_reducible refine wpList_at (o := ⟨none, .store 32 (.tmp 166) (.tmp 162), _, _, _, _⟩) ?_); refine wpList_store_room (op := ⟨none, .store 32 (.tmp 166) (.tmp 162), _, _, _, _⟩) rfl 32 (.tmp 166) (.tmp 162) rfl b 7 73 (tkL (Y 0)) rb3.out (by show _ + 7 ≤ 73; omega) rfl rfl (i32k (Y 0)) (tkL_one (Y 0)) ?_; intro V4 hV4; replace hV4 := Lib.hid hV4)
                                go_roundw
                                case rel => exact ⟨1, by omega, by go_num, hL.out.sec B23.out (by omega) hV4.out⟩
                                case measure => simp [intOf]
                            · have Xi := ix80_1 Y
                              go_upto_region 41 with fail
                              refine wp_gen (fun V2 hV2 => ?_)
                              have B2 : Hid (Below v2.heap.size v2 V2) := Lib.hid (by rw [hV2]; exact ba _ _)
                              have s2 : Hid (Seg V2 v2.heap.size 0 (tkL (Y 1))) := Lib.hid (by rw [hV2]; exact Seg.new v2 (tkL (Y 1)) 32)
                              clear hV2 Xi
                              have u2 : Hid (UCs V2 U st) := Lib.hid (u1.out.after B2.out)
                              have ta := Lib.hid (s2.out.tat (hY2.out 1))
                              have y0 := u2.out.c0
                              have y1 := u2.out.c1
                              obtain ⟨P, hP⟩ : ∃ P, v2.heap.size = P := ⟨_, rfl⟩
                              rw [hP] at s2 ta ⊢
                              replace hP := Lib.hid hP
                              have C23 := Lib.hid (turn_c P 0 (Y 1) (hY1.out 1) V2 ta.out)
                              have rb := Lib.hid (hL.out.trk.after B2.out).room
                              cases hz : (st == 0)
                              all_goals
                                go_upto_region 43 with (go_at_call 23; (with_reducible refine C23.out.mono ?_); rintro e wz ⟨rfl, rfl⟩)
                                have z0 : ∀ d os, (Sort.grow (redrawn V2 d) os).cell? ⟨P, 0, none⟩ = some (.pointer none) := fun d os => cell_regrown (by simpa using s2.out 0 _ rfl) d os
                                have z1 : ∀ d os, (Sort.grow (redrawn V2 d) os).cell? ⟨P, 1, none⟩ = some (.string (Y 1).tx) := fun d os => cell_regrown (by simpa using s2.out 1 _ rfl) d os
                                have z2 : ∀ d os, (Sort.grow (redrawn V2 d) os).cell? ⟨P, 2, none⟩ = some (.int .i32 (Y 1).lo) := fun d os => cell_regrown (by simpa using s2.out 2 _ rfl) d os
                                have z3 : ∀ d os, (Sort.grow (redrawn V2 d) os).cell? ⟨P, 3, none⟩ = some (.int .u32 (Y 1).pl) := fun d os => cell_regrown (by simpa using s2.out 3 _ rfl) d os
                                have z4 : ∀ d os, (Sort.grow (redrawn V2 d) os).cell? ⟨P, 4, none⟩ = some (.int .u16 (Y 1).uo) := fun d os => cell_regrown (by simpa using s2.out 4 _ rfl) d os
                                have z5 : ∀ d os, (Sort.grow (redrawn V2 d) os).cell? ⟨P, 5, none⟩ = some (.int .u8 (Y 1).kd) := fun d os => cell_regrown (by simpa using s2.out 5 _ rfl) d os
                                have z6 : ∀ d os, (Sort.grow (redrawn V2 d) os).cell? ⟨P, 6, none⟩ = some (.int .u8 (Y 1).ws) := fun d os => cell_regrown (by simpa using s2.out 6 _ rfl) d os
                                refine drawn_tail 7 (by kernel_rfl) (by kernel_rfl) (by kernel_rfl) (fun Q' hQ' => ?_)
                                simp only [List.take_succ_cons, List.take_zero, List.drop_succ_cons, List.drop_zero]
                                repeat (quiet_step (fail))
                                refine wpQuiet_nil ?_
                                intro V3 hw
                                have b23 : Hid (Below V2.heap.size V2 V3) := Lib.hid (by
                                  obtain ⟨⟨d, os⟩, rfl⟩ := hw
                                  exact below_regrown _ d os)
                                clear hw z0 z1 z2 z3 z4 z5 z6
                                have rb3 := Lib.hid (rb.out.after b23.out)
                                have B23 : Hid (Below v2.heap.size v2 V3) := Lib.hid (B2.out.trans (b23.out.mono B2.out.size))
                                go_wp2_with ((with_reducible refine wpList_at (o := ⟨none, .store 32 (.tmp 166) (.tmp 162), _, _, _, _⟩) ?_); refine wpList_store_room (op := ⟨none, .store 32 (.tmp 166) (.tmp 162), _, _, _, _⟩) rfl 32 (.tmp 166) (.tmp 162) rfl b 25 73 (tkL (Y 1)) rb3.out (by show _ + 7 ≤ 73; omega) rfl rfl (i32k (Y 1)) (tkL_one (Y 1)) ?_; intro V4 hV4; replace hV4 := Lib.hid hV4)
                                go_roundw
                                case rel => exact ⟨2, by omega, by go_num, hL.out.sec B23.out (by omega) hV4.out⟩
                                case measure => simp [intOf]
                            · have Xi := ix80_2 Y
                              go_upto_region 41 with fail
                              refine wp_gen (fun V2 hV2 => ?_)
                              have B2 : Hid (Below v2.heap.size v2 V2) := Lib.hid (by rw [hV2]; exact ba _ _)
                              have s2 : Hid (Seg V2 v2.heap.size 0 (tkL (Y 2))) := Lib.hid (by rw [hV2]; exact Seg.new v2 (tkL (Y 2)) 32)
                              clear hV2 Xi
                              have u2 : Hid (UCs V2 U st) := Lib.hid (u1.out.after B2.out)
                              have ta := Lib.hid (s2.out.tat (hY2.out 2))
                              have y0 := u2.out.c0
                              have y1 := u2.out.c1
                              obtain ⟨P, hP⟩ : ∃ P, v2.heap.size = P := ⟨_, rfl⟩
                              rw [hP] at s2 ta ⊢
                              replace hP := Lib.hid hP
                              have C23 := Lib.hid (turn_c P 0 (Y 2) (hY1.out 2) V2 ta.out)
                              have rb := Lib.hid (hL.out.trk.after B2.out).room
                              cases hz : (st == 0)
                              all_goals
                                go_upto_region 43 with (go_at_call 23; (with_reducible refine C23.out.mono ?_); rintro e wz ⟨rfl, rfl⟩)
                                have z0 : ∀ d os, (Sort.grow (redrawn V2 d) os).cell? ⟨P, 0, none⟩ = some (.pointer none) := fun d os => cell_regrown (by simpa using s2.out 0 _ rfl) d os
                                have z1 : ∀ d os, (Sort.grow (redrawn V2 d) os).cell? ⟨P, 1, none⟩ = some (.string (Y 2).tx) := fun d os => cell_regrown (by simpa using s2.out 1 _ rfl) d os
                                have z2 : ∀ d os, (Sort.grow (redrawn V2 d) os).cell? ⟨P, 2, none⟩ = some (.int .i32 (Y 2).lo) := fun d os => cell_regrown (by simpa using s2.out 2 _ rfl) d os
                                have z3 : ∀ d os, (Sort.grow (redrawn V2 d) os).cell? ⟨P, 3, none⟩ = some (.int .u32 (Y 2).pl) := fun d os => cell_regrown (by simpa using s2.out 3 _ rfl) d os
                                have z4 : ∀ d os, (Sort.grow (redrawn V2 d) os).cell? ⟨P, 4, none⟩ = some (.int .u16 (Y 2).uo) := fun d os => cell_regrown (by simpa using s2.out 4 _ rfl) d os
                                have z5 : ∀ d os, (Sort.grow (redrawn V2 d) os).cell? ⟨P, 5, none⟩ = some (.int .u8 (Y 2).kd) := fun d os => cell_regrown (by simpa using s2.out 5 _ rfl) d os
                                have z6 : ∀ d os, (Sort.grow (redrawn V2 d) os).cell? ⟨P, 6, none⟩ = some (.int .u8 (Y 2).ws) := fun d os => cell_regrown (by simpa using s2.out 6 _ rfl) d os
                                refine drawn_tail 7 (by kernel_rfl) (by kernel_rfl) (by kernel_rfl) (fun Q' hQ' => ?_)
                                simp only [List.take_succ_cons, List.take_zero, List.drop_succ_cons, List.drop_zero]
                                repeat (quiet_step (fail))
                                refine wpQuiet_nil ?_
                                intro V3 hw
                                have b23 : Hid (Below V2.heap.size V2 V3) := Lib.hid (by
                                  obtain ⟨⟨d, os⟩, rfl⟩ := hw
                                  exact below_regrown _ d os)
                                clear hw z0 z1 z2 z3 z4 z5 z6
                                have rb3 := Lib.hid (rb.out.after b23.out)
                                have B23 : Hid (Below v2.heap.size v2 V3) := Lib.hid (B2.out.trans (b23.out.mono B2.out.size))
                                go_wp2_with ((with_reducible refine wpList_at (o := ⟨none, .store 32 (.tmp 166) (.tmp 162), _, _, _, _⟩) ?_); refine wpList_store_room (op := ⟨none, .store 32 (.tmp 166) (.tmp 162), _, _, _, _⟩) rfl 32 (.tmp 166) (.tmp 162) rfl b 43 73 (tkL (Y 2)) rb3.out (by show _ + 7 ≤ 73; omega) rfl rfl (i32k (Y 2)) (tkL_one (Y 2)) ?_; intro V4 hV4; replace hV4 := Lib.hid hV4)
                                go_roundw
                                case rel => exact ⟨3, by omega, by go_num, hL.out.sec B23.out (by omega) hV4.out⟩
                                case measure => simp [intOf]
                            · have Xi := ix80_3 Y
                              go_upto_region 41 with fail
                              refine wp_gen (fun V2 hV2 => ?_)
                              have B2 : Hid (Below v2.heap.size v2 V2) := Lib.hid (by rw [hV2]; exact ba _ _)
                              have s2 : Hid (Seg V2 v2.heap.size 0 (tkL (Y 3))) := Lib.hid (by rw [hV2]; exact Seg.new v2 (tkL (Y 3)) 32)
                              clear hV2 Xi
                              have u2 : Hid (UCs V2 U st) := Lib.hid (u1.out.after B2.out)
                              have ta := Lib.hid (s2.out.tat (hY2.out 3))
                              have y0 := u2.out.c0
                              have y1 := u2.out.c1
                              obtain ⟨P, hP⟩ : ∃ P, v2.heap.size = P := ⟨_, rfl⟩
                              rw [hP] at s2 ta ⊢
                              replace hP := Lib.hid hP
                              have C23 := Lib.hid (turn_c P 0 (Y 3) (hY1.out 3) V2 ta.out)
                              have rb := Lib.hid (hL.out.trk.after B2.out).room
                              cases hz : (st == 0)
                              all_goals
                                go_upto_region 43 with (go_at_call 23; (with_reducible refine C23.out.mono ?_); rintro e wz ⟨rfl, rfl⟩)
                                have z0 : ∀ d os, (Sort.grow (redrawn V2 d) os).cell? ⟨P, 0, none⟩ = some (.pointer none) := fun d os => cell_regrown (by simpa using s2.out 0 _ rfl) d os
                                have z1 : ∀ d os, (Sort.grow (redrawn V2 d) os).cell? ⟨P, 1, none⟩ = some (.string (Y 3).tx) := fun d os => cell_regrown (by simpa using s2.out 1 _ rfl) d os
                                have z2 : ∀ d os, (Sort.grow (redrawn V2 d) os).cell? ⟨P, 2, none⟩ = some (.int .i32 (Y 3).lo) := fun d os => cell_regrown (by simpa using s2.out 2 _ rfl) d os
                                have z3 : ∀ d os, (Sort.grow (redrawn V2 d) os).cell? ⟨P, 3, none⟩ = some (.int .u32 (Y 3).pl) := fun d os => cell_regrown (by simpa using s2.out 3 _ rfl) d os
                                have z4 : ∀ d os, (Sort.grow (redrawn V2 d) os).cell? ⟨P, 4, none⟩ = some (.int .u16 (Y 3).uo) := fun d os => cell_regrown (by simpa using s2.out 4 _ rfl) d os
                                have z5 : ∀ d os, (Sort.grow (redrawn V2 d) os).cell? ⟨P, 5, none⟩ = some (.int .u8 (Y 3).kd) := fun d os => cell_regrown (by simpa using s2.out 5 _ rfl) d os
                                have z6 : ∀ d os, (Sort.grow (redrawn V2 d) os).cell? ⟨P, 6, none⟩ = some (.int .u8 (Y 3).ws) := fun d os => cell_regrown (by simpa using s2.out 6 _ rfl) d os
                                refine drawn_tail 7 (by kernel_rfl) (by kernel_rfl) (by kernel_rfl) (fun Q' hQ' => ?_)
                                simp only [List.take_succ_cons, List.take_zero, List.drop_succ_cons, List.drop_zero]
                                repeat (quiet_step (fail))
                                refine wpQuiet_nil ?_
                                intro V3 hw
                                have b23 : Hid (Below V2.heap.size V2 V3) := Lib.hid (by
                                  obtain ⟨⟨d, os⟩, rfl⟩ := hw
                                  exact below_regrown _ d os)
                                clear hw z0 z1 z2 z3 z4 z5 z6
                                have rb3 := Lib.hid (rb.out.after b23.out)
                                have B23 : Hid (Below v2.heap.size v2 V3) := Lib.hid (B2.out.trans (b23.out.mono B2.out.size))
                                go_wp2_with ((with_reducible refine wpList_at (o := ⟨none, .store 32 (.tmp 166) (.tmp 162), _, _, _, _⟩) ?_); refine wpList_store_room (op := ⟨none, .store 32 (.tmp 166) (.tmp 162), _, _, _, _⟩) rfl 32 (.tmp 166) (.tmp 162) rfl b 61 73 (tkL (Y 3)) rb3.out (by show _ + 7 ≤ 73; omega) rfl rfl (i32k (Y 3)) (tkL_one (Y 3)) ?_; intro V4 hV4; replace hV4 := Lib.hid hV4)
                                go_roundw
                                case rel => exact ⟨4, by omega, by go_num, hL.out.sec B23.out (by omega) hV4.out⟩
                                case measure => simp [intOf]
                            · have D10 : Hid (Seg v2 Dd 0 (dcL kt (.slice (some ⟨T, 0, none⟩) N cc) lo len key imp)) := Lib.hid (D9.out.only hL.out.only (fun e => HbD.out e.symm))
                              have e2 : v2.cell? ⟨Dd, 2, none⟩ = some (.int .i32 lo) := by simpa using D10.out 2 _ rfl
                              have e3 : v2.cell? ⟨Dd, 3, none⟩ = some (.int .i32 len) := by simpa using D10.out 3 _ rfl
                              have t4 : Hid (Trk v2 b (crF (xq bs G) (q2F G N bs sa) st) imp) := Lib.hid (hL.out.trk.cg (fun k hk => by unfold mixD crF q2F; rw [if_pos hk, if_pos hnb.out, hX.out, hY.out]))
                              have O4 : Hid (Only (fun z => z = b) w v2) := Lib.hid (O9.out.trans hL.out.only)
                              have C26 := Lib.hid (hC.out bs sa st v2 HOK.out HST.out t4.out O4.out)
                              go_wp2_with (go_at_call 26; (with_reducible refine C26.out.mono ?_); intro e w7 hq; obtain rfl := hQ.out _ _ _ _ _ _ hq; replace hq := Lib.hid hq)
                              exact bodyPost_end (v := .tuple #[]) (by simp [results, Tryd.results18, go_sem]) rfl ⟨rfl, .inr ⟨bs, sa, st, HOK.out, HST.out, v2, t4.out, O4.out, hq.out⟩⟩
end Go.Proofs.YthdogpahkglaoaaDoor
