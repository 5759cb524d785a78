/- mangleCorners on a fresh tracker, on codes. -/
import Derived.Test.YthdogpahkglaoaaDoorBcl
import Derived.Test.YthdogpahkglaoaaDoorBck
import Derived.Test.YthdogpahkglaoaaDoorBco
set_option linter.unusedVariables false
set_option linter.unusedSimpArgs false
namespace Go.Proofs.YthdogpahkglaoaaDoor
open Go.RowKit
theorem w8n (args : Array Value) (b : Addr) (R : Value) (Dd : Addr) (m : Bool) (w : World) (Q : Ending → World → Prop) (h : Calls Tryd.prog 18 #[.pointer (some b), R, .pointer (some Dd), .bool m] w Q) (hQ : ∀ e w', Q e w' → e = .returned (.tuple #[])) : Calls Tryd.prog 8 #[.pointer (some b), R, .pointer (some Dd), .bool m] w Q := by
  replace h := Lib.hid h
  replace hQ := Lib.hid hQ
  go_enter Tryd.func8, Tryd.ntmps8
  go_wp2_with (go_at_call 18; (with_reducible refine h.out.mono ?_); intro e w1 hq; obtain rfl := hQ.out _ _ hq; replace hq := Lib.hid hq)
  exact bodyPost_end (v := .tuple #[]) (by simp [results, Tryd.results8, go_sem]) rfl hq.out
set_option maxRecDepth 100000 in
set_option maxHeartbeats 4000000 in
theorem comp_no2 (b R n c : Nat) (F : Nat → Cn) (imp m : Bool) (lo len : Int) (w : World) (h : Trk w b F imp) (hk : ∀ i, i < 4 → ((F i).t1.kd == 0) = false) (hs : ∀ i, i < 4 → (F i).st = 2 ∧ (F i).un = ⟨#[]⟩) : Calls Tryd.prog 26 #[.pointer (some ⟨b, 0, none⟩), .slice (some ⟨R, 0, none⟩) n c, .agg #[.int .i32 lo, .int .i32 len], .bool m] w (NoP w) := by
  have H := Lib.hid h
  have HS := Lib.hid hs
  have hbl : b < w.heap.size := h.room.lt (by omega)
  have d0 := fun o => al (by have := h.cn 0 (by omega) 5 _ rfl; simpa using this : w.cell? ⟨b, 5, none⟩ = some (.int .u8 (F 0).t1.kd)) o
  have d1 := fun o => al (by have := h.cn 1 (by omega) 5 _ rfl; simpa using this : w.cell? ⟨b, 23, none⟩ = some (.int .u8 (F 1).t1.kd)) o
  have d2 := fun o => al (by have := h.cn 2 (by omega) 5 _ rfl; simpa using this : w.cell? ⟨b, 41, none⟩ = some (.int .u8 (F 2).t1.kd)) o
  have d3 := fun o => al (by have := h.cn 3 (by omega) 5 _ rfl; simpa using this : w.cell? ⟨b, 59, none⟩ = some (.int .u8 (F 3).t1.kd)) o
  have e0 := hk 0 (by omega)
  have e1 := hk 1 (by omega)
  have e2 := hk 2 (by omega)
  have e3 := hk 3 (by omega)
  clear h hs hk
  go_enter Tryd.func26, Tryd.ntmps26
  go_upto_region 4 with fail
  refine wp_gen (fun W hW => ?_)
  have hb : Hid (Below w.heap.size w W) := Lib.hid (by rw [hW]; exact ba _ _)
  have kk0 : Hid (W.cell? ⟨w.heap.size, 0, none⟩ = some (.int .i32 lo)) := Lib.hid (by rw [hW]; simp [go_sem])
  have kk1 : Hid (W.cell? ⟨w.heap.size, 1, none⟩ = some (.int .i32 len)) := Lib.hid (by rw [hW]; simp [go_sem])
  have hPW : Hid (w.heap.size + 1 = W.heap.size) := Lib.hid (by rw [hW]; simp)
  clear hW d0 d1 d2 d3
  have C34 : Hid (∀ w, Calls Tryd.prog 34 #[.agg #[.string ⟨#[]⟩, .int .u8 2], .agg #[.string ⟨#[]⟩, .int .u8 2]] w (Gv (.bool false) w)) := Lib.hid (fun w => safe_c 2 2 ⟨#[]⟩ (.inr (.inl rfl)) (.inr rfl) (.inr rfl) w)
  replace H : Hid (Trk W b F imp) := Lib.hid (H.out.after hb.out)
  generalize hP : w.heap.size = P at kk0 kk1 ⊢
  replace hP := Lib.hid hP
  replace hbl : b < P := by have := hP.out; omega
  go_loopw [65] (fun v wr => ∃ i : Nat, i = 0 ∧ v = .int .i64 i ∧ Below W.heap.size W wr) (fun v _ => 3 - (intOf v).toNat)
  case atStart => exact ⟨0, rfl, rfl, Below.refl _ _⟩
  case round =>
    obtain ⟨i, hi, rfl, hB⟩ := hrel
    obtain ⟨w1, rfl⟩ : ∃ w1 : World, w1 = wr := ⟨_, rfl⟩
    replace hB := Lib.hid hB
    · have hlt : i < 3 := by omega
      replace hi := Lib.hid hi
      have i0 : (0 : Int) ≤ i := by omega
      have i1 : (i : Int) < 3 := by omega
      have sg : Hid (Seg w1 b (18 + i * 18) (cnL (F (i + 1)))) := Lib.hid (((H.out.cn (i + 1) (by omega)).after hB.out).cast (by omega))
      have HN := Lib.hid (by have := Room.newN w1 zCn (n := 18) rfl 66; simpa using this : Room (w1.alloc (.cells zCn 66)) w1.heap.size 18)
      have b14 : Hid (Seg w1 b 0 (cnL (F 0))) := Lib.hid (((H.out.cn 0 (by omega)).after hB.out).cast (by omega))
      have un1 := Lib.hid (HS.out (i + 1) (by omega))
      have un0 := Lib.hid (HS.out 0 (by omega))
      go_upto_region 6 with (first | ((with_reducible refine wpList_at (o := ⟨some 68, .load 66 (.tmp 67), _, _, _, _⟩) ?_); refine wpList_load_seg (op := ⟨some 68, .load 66 (.tmp 67), _, _, _, _⟩) rfl 66 (.tmp 67) rfl b (18 + i * 18) rfl (cnL (F (i + 1))) _ Tryd.underlying66 rfl (i66 (F (i + 1))) sg.out ?_) | ((with_reducible refine wpList_at (o := ⟨none, .store 66 (.tmp 10) (.tmp 68), _, _, _, _⟩) ?_); refine wpList_store_room (op := ⟨none, .store 66 (.tmp 10) (.tmp 68), _, _, _, _⟩) rfl 66 (.tmp 10) (.tmp 68) rfl w1.heap.size 0 18 (cnL (F (i + 1))) HN.out (l18 (F (i + 1))) rfl rfl (i66 (F (i + 1))) (cnL_one (F (i + 1))) ?_; intro W2 hW2))
      have B2 : Hid (Below w1.heap.size w1 W2) := Lib.hid (by
        rw [hW2]
        exact (Only.setCells (S := fun z => z = w1.heap.size) _ rfl _ _ (Only.of (ba w1 _))).below w1.heap.size (Nat.le_refl _) (fun z e => by omega))
      have s2 : Hid (Seg W2 w1.heap.size 0 (cnL (F (i + 1)))) := Lib.hid (by rw [hW2]; exact Seg.put HN.out (l18 (F (i + 1))))
      have sb := Lib.hid (b14.out.after B2.out)
      have y14 : ∀ d os, (Sort.grow (redrawn W2 d) os).cell? ⟨w1.heap.size, 14, none⟩ = some (.string ⟨#[]⟩) := fun d os => cell_regrown (by rw [← un1.out.2]; exact s2.out 14 _ rfl) d os
      have y15 : ∀ d os, (Sort.grow (redrawn W2 d) os).cell? ⟨w1.heap.size, 15, none⟩ = some (.int .u8 2) := fun d os => cell_regrown (by rw [← un1.out.1]; exact s2.out 15 _ rfl) d os
      have z14 : ∀ d os, (Sort.grow (redrawn W2 d) os).cell? ⟨b, 14, none⟩ = some (.string ⟨#[]⟩) := fun d os => cell_regrown (by rw [← un0.out.2]; exact sb.out 14 _ rfl) d os
      have z15 : ∀ d os, (Sort.grow (redrawn W2 d) os).cell? ⟨b, 15, none⟩ = some (.int .u8 2) := fun d os => cell_regrown (by rw [← un0.out.1]; exact sb.out 15 _ rfl) d os
      clear hW2 HN sg b14 un1 un0 s2 sb
      go_upto_region 7 with (fail)
      refine drawn_tail 8 (by kernel_rfl) (by kernel_rfl) (by kernel_rfl) (fun Q hQ => ?_)
      simp only [List.take_succ_cons, List.take_zero, List.drop_succ_cons, List.drop_zero]
      repeat (quiet_step (fail))
      refine wpQuiet_nil ?_
      intro W3 hw
      have B3 : Hid (Below W.heap.size W W3) := Lib.hid (by
        obtain ⟨⟨d, os⟩, rfl⟩ := hw
        exact hB.out.trans ((B2.out.trans ((below_regrown _ d os).mono B2.out.size)).mono hB.out.size))
      clear hw y14 y15 z14 z15
      have b03 : Hid (Below w.heap.size w W3) := Lib.hid (hb.out.trans (B3.out.mono hb.out.size))
      go_wp2_with (go_at_call 34; (with_reducible refine (C34.out _).mono ?_); rintro e wz ⟨rfl, hz⟩; replace hz := Lib.hid hz)
      have := hP.out
      exact bodyPost_ret (v := .tuple #[]) (by simp [results, Tryd.results26, go_sem]) rfl ⟨rfl, b03.out.trans (hz.out.mono b03.out.size)⟩
theorem SimC.kd_ne {t : Tk} {c : Int} (h : SimC t c) (hc : 0 ≤ c ∧ c ≤ 7) : (t.kd == 0) = false := by
  rw [h.kd]
  rcases code8 hc with rfl | rfl | rfl | rfl | rfl | rfl | rfl | rfl <;> rfl
theorem tokG_sim {X Y : Nat → Tk} {x y : Nat → Int} {m : Bool} {P1 P2 : Nat → Tk} (hX : ∀ i, i < 4 → SimC (X i) (x i)) (hY : ∀ i, i < 4 → SimC (Y i) (y i)) (h1 : ∀ i, P1 i = { pick4 (X 0) (X 1) (X 2) (X 3) i with ws := wsF i (mK x) m }) (h2 : ∀ i, P2 i = { pick4 (Y 0) (Y 1) (Y 2) (Y 3) i with ws := wsF i (mK y) m }) (i : Nat) :
    SimC (tokG (mEq x y) m (mK x) P1 P2 i) (mC x y i) ∧ (tokG (mEq x y) m (mK x) P1 P2 i).ws = mW x y m i := by
  unfold tokG mC mW
  by_cases e : mEq x y = true
  · rw [if_pos e, if_pos e, if_pos e, h1]
    exact ⟨(pick_sim hX i).ws _, rfl⟩
  · rw [if_neg e, if_neg e, if_neg e]
    unfold tok3
    by_cases c1 : i < mK x
    · rw [if_pos c1, if_pos c1, if_pos c1, h1]
      exact ⟨(pick_sim hX i).ws _, rfl⟩
    rw [if_neg c1, if_neg c1, if_neg c1]
    by_cases c2 : i = mK x
    · rw [if_pos c2, if_pos c2, if_pos c2]
      exact ⟨⟨rfl, rfl, rfl, rfl⟩, rfl⟩
    rw [if_neg c2, if_neg c2, if_neg c2, h2]
    exact ⟨(pick_sim hY _).ws _, rfl⟩
theorem comp_sim (b R c : Nat) (F : Nat → Cn) (X Y : Nat → Tk) (x y : Nat → Int) (imp m : Bool) (D : Nat → Value) (L : Nat → Int) (lo len : Int) (w : World) (h : Trk w b F imp) (hR : Rul w R 1 D L) (hbR : b ≠ R) (hF : ∀ i, i < 4 → (F i).t1 = X i ∧ (F i).t2 = Y i ∧ (F i).st = 0 ∧ (F i).un = ⟨#[]⟩ ∧ (F i).ix = 0) (hX : ∀ i, i < 4 → SimC (X i) (x i)) (hY : ∀ i, i < 4 → SimC (Y i) (y i)) (hx : I4 x) (hy : I4 y) :
    Calls Tryd.prog 26 #[.pointer (some ⟨b, 0, none⟩), .slice (some ⟨R, 0, none⟩) 1 c, .agg #[.int .i32 lo, .int .i32 len], .bool m] w (fun e w' => ∃ G, (∀ i, SimC (G i) (mC x y i) ∧ (G i).ws = mW x y m i) ∧ CompP R 1 (mN x y) G (fun _ => 0) D L lo len imp w e w') := by
  have f0 := hF 0 (by omega); have f1 := hF 1 (by omega); have f2 := hF 2 (by omega); have f3 := hF 3 (by omega)
  have := comp_g (mEq x y) b R 1 1 c (Nat.le_refl _) F imp m D L (fun _ => 0) lo len w h hR hbR (by omega) (fun i hi => ⟨by omega, (hF i hi).2.2.2.2⟩) (fun i hi => by rw [(hF i hi).1]; exact (hX i hi).kd_ne ⟨(hx i hi).1, by have := (hx i hi).2; omega⟩) (fun i hi => ⟨(hF i hi).2.2.1, (hF i hi).2.2.2.1⟩) (fun i hi => by rw [(hF i hi).1, (hF i hi).2.1]; exact ⟨(hX i hi).ch, (hY i hi).ch⟩) (mK x) (mK y)
    (by rw [f0.1, f1.1, f2.1, f3.1]; exact (kMin_sim hX hx).symm) (by rw [f0.2.1, f1.2.1, f2.2.1, f3.2.1]; exact (kMin_sim hY hy).symm)
    (by rw [f0.1, f1.1, f2.1, f3.1, f0.2.1, f1.2.1, f2.2.1, f3.2.1]; exact lEq_sim (u := fun i => wsF i (mK x) m) (v := fun i => wsF i (mK y) m) hX hx hY hy)
  refine this.mono fun e w' hq => ⟨_, ?_, hq⟩
  exact tokG_sim hX hY (fun i => by rw [f0.1, f1.1, f2.1, f3.1]) (fun i => by rw [f0.2.1, f1.2.1, f2.2.1, f3.2.1])
/-- what a shorthand's list of codes says, if it is one that merges -/
def OkL (g : Nat → Int) (N bs sa : Nat) : Prop := OkS g N bs sa ∧ ∀ i, i < N → i ≠ bs → g i ≤ 4
/-- the declaration at Q says the codes c with the whitespace u -/
structure DcC (w : World) (Q T n : Nat) (G : Nat → Tk) (c u : Nat → Int) (lo len : Int) (imp : Bool) : Prop where
  cc : ∃ cc, Seg w Q 0 (dcL ktB (.slice (some ⟨T, 0, none⟩) n cc) lo len 66 imp)
  obj : ∃ cs : Array Value, w.heap[Q]? = some (.cells cs 39)
  tok : ∀ i, i < n → TAt w T (i * 7) (G i)
  sim : ∀ i, SimC (G i) (c i) ∧ (G i).ws = u i
structure CrnP (w : World) (b R N : Nat) (g : Nat → Int) (imp m : Bool) (D : Value) (lo len : Int) (e : Ending) (w' : World) : Prop where
  ret : e = .returned (.tuple #[])
  only : Only (fun z => z = b ∨ z = R) w w'
  l : ∃ l, w'.cell? ⟨R, 1, none⟩ = some (.int .i32 l)
  cas : (w'.cell? ⟨R, 0, none⟩ = some D ∧ ¬ ∃ bs sa, OkL g N bs sa) ∨ ∃ bs sa, OkL g N bs sa ∧ ∃ Q T G, w.heap.size ≤ Q ∧ w.heap.size ≤ T ∧ w'.cell? ⟨R, 0, none⟩ = some (.iface 36 (.pointer (some ⟨Q, 0, none⟩))) ∧ DcC w' Q T (mN (xqI bs g) (q2I g N bs sa)) G (mC (xqI bs g) (q2I g N bs sa)) (mW (xqI bs g) (q2I g N bs sa) m) lo len imp
theorem crn_c (b R c Dd T cc N : Nat) (imp m : Bool) (g : Nat → Int) (G : Nat → Tk) (kt : ByteArray) (lo len key : Int) (D : Nat → Value) (L : Nat → Int) (w : World) (h : Trk w b (fun _ => Cn0) false) (hR : Rul w R 1 D L) (hD : Seg w Dd 0 (dcL kt (.slice (some ⟨T, 0, none⟩) N cc) lo len key imp)) (ht : ∀ i, i < N → TAt w T (i * 7) (G i)) (hg : ∀ i, i < N → SimC (G i) (g i) ∧ 0 ≤ g i ∧ g i ≤ 7)
    (hN : N ≤ 4096) (hNc : N ≤ cc) (hTl : T < w.heap.size) (hbD : b ≠ Dd) (hbT : b ≠ T) (hbR : b ≠ R) :
    Calls Tryd.prog 8 #[.pointer (some ⟨b, 0, none⟩), .slice (some ⟨R, 0, none⟩) 1 c, .pointer (some ⟨Dd, 0, none⟩), .bool m] w (CrnP w b R N g imp m (D 0) lo len) := by
  have nn : ∀ bs sa, OkS g N bs sa → ∀ i, 0 ≤ xqI bs g i ∧ 0 ≤ q2I g N bs sa i := fun bs sa h i => ⟨x1_all (p := fun c => 0 ≤ c) h (fun j hj _ => (hg j hj).2.1) i, q2_all (p := fun c => 0 ≤ c) h (fun j hj _ => (hg j hj).2.1) i⟩
  have l5 : ∀ bs sa, OkS g N bs sa → ∀ i, xqI bs g i ≤ 7 := fun bs sa h i => xqI_all (p := fun c => c ≤ 7) h.b1 (fun j hj => (hg j (by have := h.bN; omega)).2.2) i
  have sx : ∀ bs sa, OkS g N bs sa → ∀ i, SimC (xq bs G i) (xqI bs g i) := fun bs sa h i => xq_sim h.b1 (fun j hj => (hg j (by have := h.bN; omega)).1) i
  have sy : ∀ bs sa, OkS g N bs sa → ∀ i, SimC (q2F G N bs sa i) (q2I g N bs sa i) := fun bs sa h i => q2_sim h (fun j hj => (hg j hj).1) i
  have hM := mcs_all b R c Dd T cc N (fun _ => Cn0) false imp m g G kt lo len key
    (fun bs sa st w1 e w' => (st = 2 ∧ NoP w1 e w') ∨ (st = 0 ∧ ∃ G', (∀ i, SimC (G' i) (mC (xqI bs g) (q2I g N bs sa) i) ∧ (G' i).ws = mW (xqI bs g) (q2I g N bs sa) m i) ∧ CompP R 1 (mN (xqI bs g) (q2I g N bs sa)) G' (fun _ => 0) D L lo len imp w1 e w'))
    w h rfl hD ht hg hN hNc hTl hbD hbT
    (fun bs sa st w1 hok hst t1 o1 => by
      rcases hst.1 with rfl | rfl
      · have hl := hst.2.1 rfl
        refine (comp_sim b R c (crF (xq bs G) (q2F G N bs sa) 0) (xq bs G) (q2F G N bs sa) (xqI bs g) (q2I g N bs sa) imp m D L lo len w1 t1 (hR.only o1 (fun e => hbR e.symm)) hbR (fun i _ => ⟨rfl, rfl, rfl, rfl, rfl⟩) (fun i _ => sx bs sa hok i) (fun i _ => sy bs sa hok i) (fun i _ => ⟨(nn bs sa hok i).1, x1_all (p := fun c => c ≤ 4) hok hl i⟩) (fun i _ => ⟨(nn bs sa hok i).2, q2_all (p := fun c => c ≤ 4) hok hl i⟩)).mono fun e w' hq => .inr ⟨rfl, hq⟩
      · exact (comp_no2 b R 1 c (crF (xq bs G) (q2F G N bs sa) 2) imp m lo len w1 t1 (fun i _ => (sx bs sa hok i).kd_ne ⟨(nn bs sa hok i).1, l5 bs sa hok i⟩) (fun i _ => ⟨rfl, rfl⟩)).mono fun e w' hq => .inl ⟨rfl, hq⟩)
    (fun bs sa st w1 e w' hq => by
      rcases hq with ⟨-, hq⟩ | ⟨-, G', -, hq⟩
      · exact hq.1
      · exact hq.1)
  have hM' : Calls Tryd.prog 18 #[.pointer (some ⟨b, 0, none⟩), .slice (some ⟨R, 0, none⟩) 1 c, .pointer (some ⟨Dd, 0, none⟩), .bool m] w (CrnP w b R N g imp m (D 0) lo len) := hM.mono fun e w' hq => by
    obtain ⟨he, hq⟩ := hq
    have d0 : w.cell? ⟨R, 0, none⟩ = some (D 0) := by simpa using hR.d 0 (by omega)
    have l0 : w.cell? ⟨R, 1, none⟩ = some (.int .i32 (L 0)) := by simpa using hR.l 0 (by omega)
    have hRb : ∀ o, ¬ ((⟨R, o, none⟩ : Addr).block = b) := fun o e => hbR e.symm
    rcases hq with ⟨o, hno⟩ | ⟨bs, sa, st, hok, hst, w1, t1, o1, hq⟩
    · exact ⟨he, o.wide (fun _ e => .inl e), ⟨_, o.keep l0 (hRb _)⟩, .inl ⟨o.keep d0 (hRb _), fun ⟨bs, sa, hh⟩ => hno ⟨bs, sa, hh.1⟩⟩⟩
    · rcases hq with ⟨rfl, hn⟩ | ⟨rfl, G', hs, -, T', cc', Q, hT, hQ, hr, hsg, htk, hO, hobj⟩
      · have o2 : Only (fun z => z = b) w w' := o1.trans (Only.of hn.2)
        refine ⟨he, o2.wide (fun _ e => .inl e), ⟨_, o2.keep l0 (hRb _)⟩, .inl ⟨o2.keep d0 (hRb _), fun ⟨bs', sa', hh⟩ => ?_⟩⟩
        obtain ⟨rfl, rfl⟩ := hok.same hh.1.sl
        have := hst.2.2 hh.2
        omega
      · refine ⟨he, (o1.wide (fun _ e => .inl e)).trans (hO.wide (fun _ e => .inr e)), ⟨_, hr.l 0 (by omega)⟩, .inr ⟨bs, sa, ⟨hok, hst.2.1 rfl⟩, Q, T', G', Nat.le_trans o1.size hQ, Nat.le_trans o1.size hT, hr.d 0 (by omega), ⟨⟨cc', hsg⟩, ⟨_, hobj⟩, htk, hs⟩⟩⟩
  exact w8n #[] ⟨b, 0, none⟩ _ ⟨Dd, 0, none⟩ m w _ hM' (fun e w' hq => hq.ret)
end Go.Proofs.YthdogpahkglaoaaDoor
