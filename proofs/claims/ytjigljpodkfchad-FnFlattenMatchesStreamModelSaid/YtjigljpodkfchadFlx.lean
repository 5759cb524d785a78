/- FnFlattenMatchesStreamModel: the model's encoding of a list of inner compounds. -/
import Derived.Test.YtjigljpodkfchadFlw
set_option linter.unusedVariables false
set_option linter.unusedSimpArgs false
namespace Go.Proofs.Ytjigljpodkfchad
open Go.RowKit
set_option maxRecDepth 100000
set_option maxHeartbeats 40000000
theorem own_lit (w : World) (l : List Int) (hl : l.length ≤ 1000) : (w.alloc (.cells (u8s l).toArray 5)).ownsRow w.heap.size 5 1 (.slice (some ⟨w.heap.size, 0, none⟩) l.length l.length) l.length (u8s l) := by
  refine ⟨by simp [u8s], .inr ⟨w.heap.size, l.length, (u8s l).toArray, rfl, Nat.le_refl _, ?_, Nat.le_refl _, by unfold maxLen; omega, by simp [u8s], ?_⟩⟩
  · exact Array.getElem?_push_size
  · simp [u8s, List.take_of_length_le]
theorem Bu.lit (w : World) (l : List Int) (hl : l.length ≤ 1000) {W : World} (hW : W = w.alloc (.cells (u8s l).toArray 5)) : Bu (.slice (some ⟨w.heap.size, 0, none⟩) l.length l.length) l w W := by
  subst hW
  exact ⟨own_lit w l hl, ba _ _⟩
/-- append of a literal's bytes to a buffer -/
theorem bufL {W W' : World} {ops : Array Oper} {rest : List Oper} {o : Oper} {act : Act} {Q : Exit → Act → World → Prop} (s x : Operand) (v : Value) (l : List Int) (W0 : World) (news : List Int)
    (ho : o.op = .call { callee := .builtin .append, args := #[s, x], argTypes := #[147, 147] }) (hgd : o.guard = none) (hs : act.eval s = v) (hx : act.eval x = .slice (some ⟨W.heap.size, 0, none⟩) news.length news.length) (hb : Bu v l W0 W) (hn : l.length + news.length ≤ 30000000) (hW : W' = W.alloc (.cells (u8s news).toArray 5))
    (h : ∀ a' c' n' w', n' = (l ++ news).length → Bu (.slice a' n' c') (l ++ news) W0 w' → wpList Try.prog ops Q rest (act.put o.dst (.slice a' n' c')) w') : wpList Try.prog ops Q (o :: rest) act W' := by
  subst hW
  have hb' : Bu v l W0 (W.alloc (.cells (u8s news).toArray 5)) := hb.after (ba _ _)
  have hz := hb'.2.size
  refine appQ s x 147 5 W0.heap.size 1 1 #[.int .u8 0] v l.length (u8s l) W.heap.size 0 news.length news.length (u8s news) ho hgd hs hx Try.underlying147 info5 rfl (by omega) hb'.1 (by simp [u8s]) (fun j u hj => ?_) (u8s_one _) (by omega) (by omega) hz (fun v' w' h1 h2 h3 => ?_)
  · rw [Nat.zero_add]
    exact (Seg.new W (u8s news) 5) j u hj |> fun q => by rw [Nat.zero_add] at q; exact q
  · have hb2 : Bu v' (l ++ news) W0 w' := hb'.grow (by rw [List.length_append, u8s, List.map_append]; exact h1) h2
    obtain ⟨a', c', rfl⟩ := hb2.head
    exact h a' c' _ w' rfl hb2
/-- .. of a text's -/
theorem bufS {W : World} {ops : Array Oper} {rest : List Oper} {o : Oper} {act : Act} {Q : Exit → Act → World → Prop} (sl x : Operand) (v : Value) (l : List Int) (W0 : World) (s : ByteArray)
    (ho : o.op = .call { callee := .builtin .append, args := #[sl, x], argTypes := #[147, 9] }) (hgd : o.guard = none) (hs : act.eval sl = v) (hx : act.eval x = .string s) (hb : Bu v l W0 W) (hn : l.length + s.size ≤ 30000000)
    (h : ∀ a' c' n' w', n' = (l ++ byt s).length → Bu (.slice a' n' c') (l ++ byt s) W0 w' → wpList Try.prog ops Q rest (act.put o.dst (.slice a' n' c')) w') : wpList Try.prog ops Q (o :: rest) act W := by
  refine appStr sl x W0.heap.size v l.length (u8s l) s ho hgd hs hx hb.1 (by omega) hb.2.size (fun v' w' h1 h2 => ?_)
  have hb2 : Bu v' (l ++ byt s) W0 w' := hb.grow (by rw [List.length_append, byt_len, u8s, List.map_append]; exact h1) h2
  obtain ⟨a', c', rfl⟩ := hb2.head
  exact h a' c' _ w' rfl hb2
theorem dec_bu {v : Value} {l : List Int} {n : Nat} {W0 W : World} (hn : n ≤ 1048576) (hl : l.length ≤ 30000000) (hb : Bu v l W0 W) : Calls Try.prog 41 #[v, .int .i64 n] W (fun e w' => ∃ a' c' n', e = .returned (.slice a' n' c') ∧ n' = (l ++ dec n).length ∧ Bu (.slice a' n' c') (l ++ dec n) W0 w') := by
  refine (dec41_c v W0.heap.size l n hn hl W hb.2.size hb.1).mono ?_
  rintro e w' ⟨v', rfl, h1, h2⟩
  have hb2 : Bu v' (l ++ dec n) W0 w' := hb.grow h1 h2
  obtain ⟨a', c', rfl⟩ := hb2.head
  exact ⟨a', c', _, rfl, rfl, hb2⟩
theorem bu_str {a : Option Addr} {n c : Nat} {l : List Int} {W0 W : World} (hb : Bu (.slice a n c) l W0 W) (hn : n = l.length) (hl : l ≠ []) : (convert 147 9 (.slice a n c)).run Try.prog W = .ok (.string (bs l)) W := by
  subst hn
  have hpos : 0 < l.length := List.length_pos_iff.2 hl
  obtain ⟨g, c', e, -⟩ := own_some hb.1 hpos
  injection e with e _ _
  subst e
  refine str_of W 147 9 5 _ _ l _ rfl Try.underlying147 Try.underlying5 Try.underlying9 (fun j x hj => ?_)
  have := hb.1.cells (g := g) rfl j (.int .u8 x) (by simp [u8s, hj])
  exact this
theorem encL_app (l m : List (Ck ByteArray)) : encL (l ++ m) = encL l ++ m.flatMap encC := by simp [encL]
theorem encL_take {l : List Zi} {k : Nat} {x : Zi} (h : l[k]? = some x) : encL ((l.take (k + 1)).map Zi.key) = encL ((l.take k).map Zi.key) ++ encC x.key := by
  rw [mapt h, encL_app]; simp
theorem flatN_take {l : List ByteArray} {k : Nat} {x : ByteArray} (h : l[k]? = some x) : (l.take (k + 1)).flatMap encN = (l.take k).flatMap encN ++ encN x := by
  rw [List.take_add_one, h]; simp
theorem flat_le {α β : Type} (f : α → List β) (l : List α) (k : Nat) : ((l.take k).flatMap f).length ≤ (l.flatMap f).length := by
  conv => rhs; rw [← List.take_append_drop k l]
  rw [List.flatMap_append, List.length_append]
  omega
theorem lenN (l : List ByteArray) : l.length ≤ (l.flatMap encN).length := by
  induction l with
  | nil => exact Nat.le_refl _
  | cons x r ih => simp only [List.flatMap_cons, List.length_append, encN, List.length_cons]; omega
def StrP (s : ByteArray) (w : World) (e : Ending) (w' : World) : Prop := e = .returned (.string s) ∧ Below w.heap.size w w'
theorem enc36_c (l : List Zi) (n : Nat) (hn : l.length = n) (hn2 : n ≤ 1048576) (hE : (encL (l.map Zi.key)).length ≤ 20000000) (a : Option Addr) (cc : Nat) (w : World) (h : RI w a l) : Calls Try.prog 36 #[.slice a n cc] w (StrP (bs (encL (l.map Zi.key))) w) := by
  replace h := Lib.hid h
  replace hn := Lib.hid hn
  replace hE := Lib.hid hE
  go_enter Try.func36, Try.ntmps36
  go_upto_region 3 with fail
  refine wp_gen (fun W hW => ?_)
  have hB0 : Hid (Bu (.slice (some ⟨w.heap.size, 0, none⟩) 1 1) [124] w W) := Lib.hid (Bu.lit w [124] (by simp) hW)
  clear hW
  obtain ⟨g0, hg0⟩ : ∃ y, w.heap.size = y := ⟨_, rfl⟩
  rw [hg0] at hB0 ⊢
  clear hg0
  go_loopw [3, 4] (fun b i wr => ∃ (k bn : Nat) (ba : Option Addr) (bc : Nat), k ≤ n ∧ i = .int .i64 k ∧ b = .slice ba bn bc ∧ bn = (encL ((l.take k).map Zi.key)).length ∧ Bu (.slice ba bn bc) (encL ((l.take k).map Zi.key)) w wr) (fun _ i _ => n - (intOf i).toNat)
  case atStart => exact ⟨0, 1, some ⟨g0, 0, none⟩, 1, by omega, rfl, rfl, by simp [encL], by simpa [encL] using hB0.out⟩
  case round =>
    clear hB0
    obtain ⟨k, bn, ba, bc, hk, rfl, rfl, hbn, hB⟩ := hrel
    obtain ⟨W1, rfl⟩ : ∃ y, y = wr := ⟨_, rfl⟩
    obtain ⟨L0, hL0⟩ : ∃ y, encL ((l.take k).map Zi.key) = y := ⟨_, rfl⟩
    rw [hL0] at hB hbn
    replace hB := Lib.hid hB; replace hbn := Lib.hid hbn; replace hL0 := Lib.hid hL0
    by_cases hlt : k < n
    · obtain ⟨x, hx⟩ : ∃ x, l[k]? = some x := ⟨_, List.getElem?_eq_getElem (by rw [hn.out]; exact hlt)⟩
      obtain ⟨b, o, a', c', rfl, hs, hRN, hnl, hcb, hty, ham⟩ := h.out k x hx
      have htk := encL_take hx
      rw [hL0.out] at htk
      have hlen : L0.length + (encC x.key).length ≤ 20000000 := by
        have h1 := flat_le encC (l.map Zi.key) (k + 1)
        rw [← List.map_take] at h1
        have h2 := hE.out
        have h3 : (encL ((l.take (k + 1)).map Zi.key)).length ≤ (encL (l.map Zi.key)).length := by simp only [encL, List.length_cons]; omega
        rw [htk, List.length_append] at h3
        omega
      obtain ⟨xcb, xty, xam, xnm⟩ := x
      simp only at hcb hty ham hnl hRN
      have hencC : encC (Zi.key ⟨xcb, xty, xam, xnm⟩) = [40, cbZ (combZ xcb)] ++ encT (tyK xty) ++ [35] ++ dec xam ++ xnm.flatMap encN ++ [41] := rfl
      rw [hencC] at hlen htk
      have hlen' : L0.length + 2 + (encT (tyK xty)).length + 1 + (dec xam).length + (xnm.flatMap encN).length + 1 ≤ 20000000 := by
        simp only [List.length_append, List.length_cons, List.length_nil] at hlen
        omega
      obtain ⟨m, hm⟩ : ∃ y, xnm.length = y := ⟨_, rfl⟩
      replace hs : Hid (Seg w b (o + k * 4) [.int .u8 xcb, .int .u8 xty, .int .u8 xam, .slice a' m c']) := Lib.hid (by rw [← hm]; exact hs)
      rw [hm] at hnl
      have hm3 : m ≤ 20000000 := by have := lenN xnm; omega
      replace hm := Lib.hid hm; replace htk := Lib.hid htk; replace hlen' := Lib.hid hlen'; replace hRN := Lib.hid hRN
      clear hencC hlen hx
      have C18 := Lib.hid (fun W => comb18_c xcb hcb.1 hcb.2 W)
      have C40 := Lib.hid (fun W => cb40_c (combZ xcb) W)
      have C23 := Lib.hid (fun W => let23_c xty hty.1 hty.2 W)
      have hwam := wk64 (x := (xam : Int)) (by omega) (by omega)
      have i0 : (0 : Int) ≤ k := by omega
      have i1 : (k : Int) < n := by omega
      clear hcb
      obtain ⟨d0, d1, d2, d3⟩ := segs4' (hs.out.after hB.out.2)
      go_upto_region 6 with first | (go_at_call 18; (with_reducible refine (C18.out _).mono ?_); rintro e w7 ⟨rfl, rfl⟩) | (go_at_call 40; (with_reducible refine (C40.out _).mono ?_); rintro e w7 ⟨rfl, rfl⟩) | (at_builtin; go_loud (refine bufL (W := W1) (.tmp 13) (.tmp 21) _ L0 w [40, cbZ (combZ xcb)] rfl rfl rfl rfl hB.out (by have := hlen'.out; simp only [List.length_cons, List.length_nil]; omega) rfl ?_); intro a2 c2 n2 W2 hn2' hB2; replace hB2 := Lib.hid hB2; replace hn2' := Lib.hid hn2')
      clear d0 d1 d2 d3 hB hbn
      obtain ⟨d0, d1, d2, d3⟩ := segs4' (hs.out.after hB2.out.2)
      go_upto_if 28 with fail
      go_cut [3] (fun v wx => ∃ (n3 : Nat) (a3 : Option Addr) (c3 : Nat), v = .slice a3 n3 c3 ∧ n3 = (L0 ++ [40, cbZ (combZ xcb)] ++ encT (tyK xty)).length ∧ Bu (.slice a3 n3 c3) (L0 ++ [40, cbZ (combZ xcb)] ++ encT (tyK xty)) w wx)
      case first =>
        by_cases h0 : xty = 0
        · have q : (xty == 0) = true := by simp [h0]
          have hty' : Hid (encT (tyK xty) = [45]) := Lib.hid (by unfold tyK; rw [if_pos h0]; rfl)
          clear h0
          go_wp2_with (at_builtin; go_loud (refine bufL (W := W2) (.tmp 29) (.tmp 30) _ _ w [45] rfl rfl rfl rfl hB2.out (by have := hlen'.out; simp only [List.length_cons, List.length_nil, List.length_append]; omega) rfl ?_); intro a3 c3 n3 W3 hn3' hB3; replace hB3 := Lib.hid hB3; replace hn3' := Lib.hid hn3')
          go_meet
          exact ⟨n3, a3, c3, rfl, by rw [hty'.out]; exact hn3'.out, by rw [hty'.out]; exact hB3.out⟩
        · have q : (xty == 0) = false := by simp [h0]
          have hty' : Hid (encT (tyK xty) = byt (bs [letZ xty])) := Lib.hid (by unfold tyK; rw [if_neg h0]; rfl)
          have hsz1 : (bs [letZ xty]).size = 1 := by rw [bs_size]; rfl
          clear h0
          go_wp2_with first | (go_at_call 23; (with_reducible refine (C23.out _).mono ?_); rintro e w7 ⟨rfl, b7⟩; have hB2' := Lib.hid (hB2.out.after b7); clear b7) | (at_builtin; go_loud (refine bufS (.tmp 32) (.tmp 38) _ _ w (bs [letZ xty]) rfl rfl rfl rfl hB2'.out (by have := hlen'.out; rw [hsz1]; simp only [List.length_cons, List.length_nil, List.length_append]; omega) ?_); intro a3 c3 n3 W3 hn3' hB3; replace hB3 := Lib.hid hB3; replace hn3' := Lib.hid hn3')
          go_meet
          exact ⟨n3, a3, c3, rfl, by rw [hty'.out]; exact hn3'.out, by rw [hty'.out]; exact hB3.out⟩
      case rest =>
        clear d0 d1 d2 d3 hB2 hn2'
        obtain ⟨n3, a3, c3, rfl, hn3', hB3⟩ := hcut
        obtain ⟨W3, rfl⟩ : ∃ y, y = wc := ⟨_, rfl⟩
        obtain ⟨L3, hL3⟩ : ∃ y, L0 ++ [40, cbZ (combZ xcb)] ++ encT (tyK xty) = y := ⟨_, rfl⟩
        rw [hL3] at hB3 hn3'
        have hl3 : Hid (L3.length + 1 + (dec xam).length + (xnm.flatMap encN).length + 1 ≤ 20000000) := Lib.hid (by rw [← hL3]; have := hlen'.out; simp only [List.length_cons, List.length_nil, List.length_append]; omega)
        replace hL3 := Lib.hid hL3; replace hB3 := Lib.hid hB3; replace hn3' := Lib.hid hn3'
        go_upto_region 10 with (at_builtin; go_loud (refine bufL (W := W3) (.tmp 40) (.tmp 41) _ L3 w [35] rfl rfl rfl rfl hB3.out (by have := hl3.out; simp only [List.length_cons, List.length_nil]; omega) rfl ?_); intro a4 c4 n4 W4 hn4 hB4; replace hB4 := Lib.hid hB4; replace hn4 := Lib.hid hn4)
        clear hB3 hn3'
        obtain ⟨d0, d1, d2, d3⟩ := segs4' (hs.out.after hB4.out.2)
        have C41 := Lib.hid (dec_bu (n := xam) (by omega) (by have := hl3.out; simp only [List.length_cons, List.length_nil, List.length_append]; omega) hB4.out)
        go_upto_region 11 with (go_at_call 41; (with_reducible refine C41.out.mono ?_); rintro e W5 ⟨a5, c5, n5, rfl, hn5, hB5⟩; replace hB5 := Lib.hid hB5; replace hn5 := Lib.hid hn5)
        clear C41 hB4 hn4 d0 d1 d2 d3
        obtain ⟨L5, hL5⟩ : ∃ y, L3 ++ [35] ++ dec xam = y := ⟨_, rfl⟩
        rw [hL5] at hB5 hn5
        have hl5 : Hid (L5.length + (xnm.flatMap encN).length + 1 ≤ 20000000) := Lib.hid (by rw [← hL5]; have := hl3.out; simp only [List.length_cons, List.length_nil, List.length_append]; omega)
        replace hL5 := Lib.hid hL5
        obtain ⟨d0, d1, d2, d3⟩ := segs4' (hs.out.after hB5.out.2)
        go_wp2
        clear d0 d1 d2 d3
        go_loopw [3, 5] (fun bv i wr => ∃ (j n6 : Nat) (a6 : Option Addr) (c6 : Nat), j ≤ m ∧ i = .int .i64 j ∧ bv = .slice a6 n6 c6 ∧ n6 = (L5 ++ (xnm.take j).flatMap encN).length ∧ Bu (.slice a6 n6 c6) (L5 ++ (xnm.take j).flatMap encN) w wr) (fun _ i _ => m - (intOf i).toNat)
        case atStart => exact ⟨0, n5, a5, c5, by omega, rfl, rfl, by simpa using hn5.out, by simpa using hB5.out⟩
        case round =>
          clear hB5 hn5
          obtain ⟨j, n6, a6, c6, hj, rfl, rfl, hn6, hB6⟩ := hrel
          obtain ⟨W6, rfl⟩ : ∃ y, y = wr := ⟨_, rfl⟩
          obtain ⟨L6, hL6⟩ : ∃ y, L5 ++ (xnm.take j).flatMap encN = y := ⟨_, rfl⟩
          rw [hL6] at hB6 hn6
          replace hB6 := Lib.hid hB6; replace hn6 := Lib.hid hn6; replace hL6 := Lib.hid hL6
          obtain ⟨d0, d1, d2, d3⟩ := segs4' (hs.out.after hB6.out.2)
          by_cases hltj : j < m
          · obtain ⟨s, hsj⟩ : ∃ s, xnm[j]? = some s := ⟨_, List.getElem?_eq_getElem (by rw [hm.out]; exact hltj)⟩
            obtain ⟨nb, no, rfl, hcs, -⟩ := (hRN.out.after hB6.out.2) j s hsj
            have hft := Lib.hid (flatN_take hsj)
            have hl6 : Hid (L6.length + 1 + s.size ≤ 20000000) := Lib.hid (by
              have h1 := flat_le encN xnm (j + 1)
              rw [hft.out, List.length_append, encN, List.length_cons, byt_len] at h1
              have h2 := hl5.out
              rw [← hL6.out, List.length_append]
              omega)
            replace hsj := Lib.hid hsj
            have j0 : (0 : Int) ≤ j := by omega
            have j1 : (j : Int) < m := by omega
            have hjn : j ≤ 20000000 := by omega
            go_upto_region 15 with (at_builtin; go_loud (refine bufL (W := W6) (.tmp 61) (.tmp 62) _ L6 w [46] rfl rfl rfl rfl hB6.out (by have := hl6.out; simp only [List.length_cons, List.length_nil]; omega) rfl ?_); intro a7 c7 n7 W7 hn7 hB7; replace hB7 := Lib.hid hB7; replace hn7 := Lib.hid hn7)
            clear hB6 hn6 d0 d1 d2 d3 hcs
            obtain ⟨d0, d1, d2, d3⟩ := segs4' (hs.out.after hB7.out.2)
            obtain ⟨nb', no', eo, hcs, -⟩ := (hRN.out.after hB7.out.2) j s hsj.out
            injection eo with eo
            injection eo with eo1 eo2
            subst eo1 eo2
            go_wp2_with (at_builtin; go_loud (refine bufS (.tmp 64) (.tmp 72) _ _ w s rfl rfl rfl rfl hB7.out (by have := hl6.out; simp only [List.length_cons, List.length_nil, List.length_append]; omega) ?_); intro a8 c8 n8 W8 hn8 hB8; replace hB8 := Lib.hid hB8; replace hn8 := Lib.hid hn8)
            go_roundw
            case rel => exact ⟨j + 1, n8, a8, c8, by omega, by go_num, rfl, by rw [hn8.out, hft.out, ← hL6.out]; simp [encN], by rw [hft.out, ← List.append_assoc, hL6.out]; simpa [encN] using hB8.out⟩
            case measure => simp [intOf]; omega
          · obtain rfl : j = m := by omega
            have hall : Hid (L6 = L5 ++ xnm.flatMap encN) := Lib.hid (by rw [← hL6.out, List.take_of_length_le (by rw [hm.out]; exact Nat.le_refl _)])
            go_upto_region 16 with fail
            have hfin : Hid (L6 ++ [41] = encL ((l.take (k + 1)).map Zi.key)) := Lib.hid (by rw [htk.out, hall.out, ← hL5.out, ← hL3.out]; simp)
            go_wp2_with (at_builtin; go_loud (refine bufL (W := W6) (.tmp 74) (.tmp 75) _ L6 w [41] rfl rfl rfl rfl hB6.out (by have := hl5.out; rw [hall.out]; simp only [List.length_cons, List.length_nil, List.length_append]; omega) rfl ?_); intro a9 c9 n9 W9 hn9 hB9; rw [hfin.out] at hn9 hB9; replace hB9 := Lib.hid hB9; replace hn9 := Lib.hid hn9)
            go_roundw
            case rel => exact ⟨k + 1, n9, a9, c9, by omega, by go_num, rfl, hn9.out, hB9.out⟩
            case measure => simp [intOf]; omega
    · obtain rfl : k = n := by omega
      have hall : L0 = encL (l.map Zi.key) := by rw [← hL0.out, List.take_of_length_le (by rw [hn.out]; exact Nat.le_refl _)]
      have hcv := bu_str hB.out hbn.out (by rw [hall]; simp [encL])
      rw [hall] at hcv
      go_wp2
      exact bodyPost_ret (v := .string (bs (encL (l.map Zi.key)))) (by simp [results, Try.results36, go_sem]) rfl ⟨rfl, hB.out.2⟩
end Go.Proofs.Ytjigljpodkfchad
