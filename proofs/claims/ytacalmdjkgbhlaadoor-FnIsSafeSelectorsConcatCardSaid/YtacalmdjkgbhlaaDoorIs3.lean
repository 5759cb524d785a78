/- FnIsSafeSelectorsConcat: zzBuildCompound. -/
import Derived.Test.YtacalmdjkgbhlaaDoorIs2
set_option linter.unusedVariables false
set_option linter.unusedSimpArgs false
namespace Go.Proofs.YtacalmdjkgbhlaaDoor
open Go.RowKit
theorem info60 : (Tryd.prog.info? 60).map (fun i => (i.zero.map (·.cells), i.size, i.bytes)) = some (some #[.nilIface, .int .i32 0, .int .i32 0], 3, 24) := by kernel_rfl
theorem info40 : (Tryd.prog.info? 40).map (fun i => (i.zero.map (·.cells), i.size, i.bytes)) = some (some #[.int .i32 0], 1, 4) := by kernel_rfl
theorem SubR.one (t : SubR) : t.arr.all (·.oneCell') = true := by simp [Value.oneCell']
theorem CpR.one (t : CpR) : t.arr.all (·.oneCell') = true := by simp [Value.oneCell']
theorem CxR.one (t : CxR) : t.arr.all (·.oneCell') = true := by simp [Value.oneCell']
theorem own_below {w w' : World} {B : Nat} {e : TypeId} {z : Nat} {v : Value} {n : Nat} {xs : List Value} (h : w.ownsRow B e z v n xs) (hb : Below w.heap.size w w') : w'.ownsRow B e z v n xs := (Kp.of (S := fun _ => False) hb).own h (fun _ _ q => q)
theorem Seg.set {w : World} {b : Nat} {vs : List Value} (h : Seg w b 0 vs) (j : Nat) (v : Value) (hj : j < vs.length) : Seg (w.setCell ⟨b, j, none⟩ v) b 0 (vs.set j v) := fun i u hi => by
  rw [List.getElem?_set] at hi
  rw [Nat.zero_add]
  by_cases e : j = i
  · subst e
    rw [if_pos rfl, if_pos hj] at hi
    have := h j vs[j] (List.getElem?_eq_getElem hj)
    rw [Nat.zero_add] at this
    rw [cs this]
    exact hi
  · rw [if_neg e] at hi
    have := h i u hi
    rw [Nat.zero_add] at this
    rw [co (by intro q; injection q; omega)]
    exact this
theorem seg6 {w : World} {b : Nat} {v0 v1 v2 v3 v4 v5 : Value} (h : Seg w b 0 [v0, v1, v2, v3, v4, v5]) : w.cell? ⟨b, 0, none⟩ = some v0 ∧ w.cell? ⟨b, 1, none⟩ = some v1 ∧ w.cell? ⟨b, 2, none⟩ = some v2 ∧ w.cell? ⟨b, 3, none⟩ = some v3 ∧ w.cell? ⟨b, 4, none⟩ = some v4 ∧ w.cell? ⟨b, 5, none⟩ = some v5 :=
  ⟨by simpa using h 0 _ rfl, by simpa using h 1 _ rfl, by simpa using h 2 _ rfl, by simpa using h 3 _ rfl, by simpa using h 4 _ rfl, by simpa using h 5 _ rfl⟩
theorem mk38 (W : World) : (Instr.makeSlice 38 (.int .i64 1) (.int .i64 1)).run Tryd.prog W = .ok (.slice (some ⟨W.heap.size, 0, none⟩) 1 1) (W.alloc (.cells (madeCells #[.int .i32 0] 1) 40)) := by
  have := make_z (b := 4) #[.int .i32 0] Tryd.underlying38 info40 1 (by omega) (by omega) W
  simpa using this
def CompP (kn : ByteArray → Bool) (c : Cq) (w : World) (e : Ending) (w' : World) : Prop := ∃ r : CpR, e = .returned (.agg r.arr) ∧ r.safe = safeC kn c ∧ GCp kn (fun b => b < w.heap.size) w' r ∧ r.ls.length ≤ maxLen ∧ Below w.heap.size w w'
/-- how the selector that is built stands -/
structure SelSt (W : World) (V : Nat) (tp : Option Addr) (nx : Option Addr) (nn nc : Nat) (cb : Int) (wx : World) : Prop where
  seg : Seg wx V 0 (selL (.pointer tp) (.slice none 0 0) (.slice nx nn nc) cb)
  only : Only (fun z => z = V) W wx
theorem info111 : (Tryd.prog.info? 111).map (fun i => (i.zero.map (·.cells), i.size, i.bytes)) = some (some tkZ, 7, 40) := by kernel_rfl
theorem mk65 (W : World) : (Instr.makeSlice 65 (.int .i64 0) (.int .i64 0)).run Tryd.prog W = .ok (.slice (some ⟨W.heap.size, 0, none⟩) 0 0) (W.alloc (.cells (madeCells tkZ 0) 111)) := by
  have := make_z (b := 40) tkZ Tryd.underlying65 info111 0 (by omega) (by omega) W
  simpa using this
theorem build_step {w3 w5 w7 w8 : World} {M k c6 : Nat} {a6 : Option Addr} {subs2 : Value} {ls : List SubR} {ss : List Sb} {s' : SubR} {fs : Bool} (hlen : ls.length = k) (hall : ls.all SubR.d = (ss.take k).all safeS) (hstep : (ss.take (k + 1)).all safeS = ((ss.take k).all safeS && fs))
    (hO : w5.ownsRow w3.heap.size 60 3 (.slice a6 k c6) k (flat SubR.cells ls)) (hG : ∀ s ∈ ls, GSub (fun b => (Value.slice a6 k c6).ownBlock = some b ∨ b < M) w5 s) (hB : Below w3.heap.size w3 w5) (hw : M ≤ w5.heap.size) (b7 : Below w5.heap.size w5 w7) (hs : GSub (fun b => b < w5.heap.size) w7 s') (hd : s'.d = fs)
    (hO8 : w8.ownsRow w3.heap.size 60 3 subs2 (k + 1) (flat SubR.cells ls ++ s'.arr.toList)) (hkp : Kp (fun b => (Value.slice a6 k c6).ownBlock = some b) w7 w8) (hnew : ∀ b, subs2.ownBlock = some b → (Value.slice a6 k c6).ownBlock = some b ∨ w7.heap.size ≤ b) :
    ∃ ls' : List SubR, ls'.length = k + 1 ∧ ls'.all SubR.d = (ss.take (k + 1)).all safeS ∧ w8.ownsRow w3.heap.size 60 3 subs2 (k + 1) (flat SubR.cells ls') ∧ (∀ s ∈ ls', GSub (fun b => subs2.ownBlock = some b ∨ b < M) w8 s) ∧ Below w3.heap.size w3 w8 ∧ ∃ a c, subs2 = .slice a (k + 1) c := by
  have h57 := b7.size
  have h35 := hB.size
  refine ⟨ls ++ [s'], by simp [hlen], by rw [List.all_append, hall, hstep]; simp [hd], by rw [← flat_add]; exact hO8, fun s hm => ?_, hB.trans ((b7.mono h35).trans (hkp.below (by omega) (fun b e => (hO.lt b e).1))), ?_⟩
  · rcases List.mem_append.1 hm with hm | hm
    · exact ((hG s hm).keep (Kc.of_below b7) (fun _ _ q => q)).keep (Kc.of_kp hkp (fun b _ q => .inl q)) (fun b hb q => by
        rcases q with q | q
        · rcases hnew b q with q | q
          · exact .inl q
          · omega
        · exact .inr q)
    · rw [List.mem_singleton] at hm
      subst hm
      exact hs.keep (Kc.of_kp hkp (fun b _ q => (hO.lt b q).2)) (fun b hb q => by
        rcases q with q | q
        · rcases hnew b q with q | q
          · exact (hO.lt b q).2
          · omega
        · show b < w5.heap.size
          omega)
  · obtain ⟨g, c, e, -⟩ := own_some hO8 (by omega)
    exact ⟨_, c, e⟩
def LpS (M : Nat) (w3 : World) (n : Nat) (ss : List Sb) (subs v : Value) (wr : World) : Prop := ∃ (k : Nat) (ls : List SubR), k ≤ n ∧ v = .int .i64 k ∧ ls.length = k ∧ ls.all SubR.d = (ss.take k).all safeS ∧ wr.ownsRow w3.heap.size 60 3 subs k (flat SubR.cells ls) ∧ (∀ s ∈ ls, GSub (fun b => subs.ownBlock = some b ∨ b < M) wr s) ∧ Below w3.heap.size w3 wr ∧ (∃ a c, subs = .slice a k c)
set_option maxRecDepth 100000 in
set_option maxHeartbeats 4000000 in
theorem comp_c0 (kn : ByteArray → Bool) (C : Cq) (ne cb tk : Int) (pf : Bool) (tn : ByteArray) (ss : List Sb) (n : Nat) (sT : Bool) (hnn : ss.length = n) (hst : sT = if tk = 0 then true else !pf && !(tk == 1 && !kn tn)) (hsc : safeC kn C = (ne == 0 && cb == 0 && sT && ss.all safeS)) (a : Option Addr) (cc : Nat) (O : Nat → Prop) (w : World) (hs : RS O w a ss) (hn : n ≤ 1048576) (ht : tn.size ≤ maxLen) : Calls Tryd.prog 10 #[.agg #[.int .u8 ne, .int .u8 cb, .int .u8 tk, .bool pf, .string tn, .slice a n cc]] w (CompP kn C w) := by
  have HS := Lib.hid hs
  have HT := Lib.hid ht
  have m38 := mk38
  replace hst := Lib.hid hst
  replace hsc := Lib.hid hsc
  replace hnn := Lib.hid hnn
  have m37 := make0_z (P := Tryd.prog) #[.nilIface, .int .i32 0, .int .i32 0] Tryd.underlying37 info60 n (by omega) (by omega)
  clear hs ht
  go_enter Tryd.func10, Tryd.ntmps10
  go_upto_region 2 with fail
  refine wp_gen (fun W hW => ?_)
  have bW : Hid (Below w.heap.size w W) := Lib.hid (by rw [hW]; exact (ba _ _).trans ((ba _ _).mono (by simp)) |>.trans ((ba _ _).mono (by simp; omega)))
  have sP : Hid (Seg W w.heap.size 0 [.int .u8 ne, .int .u8 cb, .int .u8 tk, .bool pf, .string tn, .slice a n cc]) := Lib.hid (by
    rw [hW]
    exact ((Seg.new w [.int .u8 ne, .int .u8 cb, .int .u8 tk, .bool pf, .string tn, .slice a n cc] _).after (ba _ _)).after (ba _ _))
  have rR : Hid (Room W (w.heap.size + 1) 6) := Lib.hid (by
    rw [hW]
    have := (Room.newN (w.alloc (.cells [.int .u8 ne, .int .u8 cb, .int .u8 tk, .bool pf, .string tn, .slice a n cc].toArray 32)) #[.pointer none, .slice none 0 0, .slice none 0 0, .int .i32 0, .int .u8 0, .bool false] (n := 6) rfl 44).after (ba _ (.cells #[.pointer none, .slice none 0 0, .slice none 0 0, .int .i32 0, .int .u8 0, .bool false] 44))
    simpa using this)
  have rV : Hid (Room W (w.heap.size + 1 + 1) 6) := Lib.hid (by
    rw [hW]
    have := Room.newN ((w.alloc (.cells [.int .u8 ne, .int .u8 cb, .int .u8 tk, .bool pf, .string tn, .slice a n cc].toArray 32)).alloc (.cells #[.pointer none, .slice none 0 0, .slice none 0 0, .int .i32 0, .int .u8 0, .bool false] 44)) #[.pointer none, .slice none 0 0, .slice none 0 0, .int .i32 0, .int .u8 0, .bool false] (n := 6) rfl 44
    simpa using this)
  have s0 : Hid (SelSt W (w.heap.size + 1 + 1) none none 0 0 0 W) := Lib.hid ⟨by
    rw [hW]
    have := Seg.new ((w.alloc (.cells [.int .u8 ne, .int .u8 cb, .int .u8 tk, .bool pf, .string tn, .slice a n cc].toArray 32)).alloc (.cells #[.pointer none, .slice none 0 0, .slice none 0 0, .int .i32 0, .int .u8 0, .bool false] 44)) [.pointer none, .slice none 0 0, .slice none 0 0, .int .i32 0, .int .u8 0, .bool false] 44
    simpa using this, Only.refl _⟩
  clear hW
  have hPw := Lib.hid (rfl : w.heap.size = w.heap.size)
  obtain ⟨P, hP⟩ : ∃ y, w.heap.size = y := ⟨_, rfl⟩
  rw [hP] at sP rR rV s0 hPw ⊢
  replace hPw := Lib.hid hP
  clear hP
  obtain ⟨R, hR⟩ : ∃ y, P + 1 = y := ⟨_, rfl⟩
  obtain ⟨V, hV⟩ : ∃ y, R + 1 = y := ⟨_, rfl⟩
  rw [hR] at rR
  rw [hR, hV] at rV s0
  rw [hR, hV]
  have lt1 : P < R := by omega
  have lt2 : R < V := by omega
  have lt3 : V < W.heap.size := rV.out.lt (by omega)
  clear hR hV
  obtain ⟨p0, p1, p2, p3, p4, p5⟩ := seg6 sP.out
  obtain ⟨v0, v1, v2, v3, v4, v5⟩ := seg6 s0.out.seg
  obtain ⟨_, _, fz2⟩ := rV.out 2 (by omega)
  go_upto_if 12 with fail
  go_cut [] (fun wx => ∃ nx nn nc, (nn == 0) = (ne == 0) ∧ SelSt W V none nx nn nc 0 wx)
  case first =>
    cases h0 : ne == 0
    · have h1 : (ne != 0) = true := by rw [bne, h0]; rfl
      have al2 := fun o => al v2 o
      have af2 := fun o => af (ba W o) v2 fz2
      go_wp2
      go_meet
      refine ⟨some ⟨W.heap.size, 0, none⟩, 1, 1, by rw [h0]; rfl, ?_, ?_⟩
      · exact (s0.out.seg.set 2 _ (by decide)).after (ba _ _)
      · exact ((Only.refl (S := fun z => z = V) _).set _ _ rfl).trans (Only.of (ba _ _))
    · have h1 : (ne != 0) = false := by rw [bne, h0]; rfl
      go_wp2
      go_meet
      exact ⟨none, 0, 0, by rw [h0]; rfl, s0.out⟩
  case rest =>
    obtain ⟨nx, nn, nc, hnz, hSt⟩ := hcut
    obtain ⟨w1, rfl⟩ : ∃ w1 : World, w1 = wc := ⟨_, rfl⟩
    replace hSt := Lib.hid hSt
    replace hnz := Lib.hid hnz
    clear v0 v1 v2 v3 v4 v5 fz2 p0 p1 p2 p3 p4 p5 s0
    have sP1 := Lib.hid (sP.out.only hSt.out.only (by omega))
    obtain ⟨p0, p1, p2, p3, p4, p5⟩ := seg6 sP1.out
    obtain ⟨v0, v1, v2, v3, v4, v5⟩ := seg6 hSt.out.seg
    obtain ⟨_, _, f3⟩ := (hSt.out.only.rooms _ _ rV.out) 3 (by omega)
    obtain ⟨_, _, f4⟩ := (hSt.out.only.rooms _ _ rV.out) 4 (by omega)
    go_upto_region 5 with fail
    refine wp_gen (fun w2 hW => ?_)
    have hSt2 : Hid (SelSt W V none nx nn nc cb w2) := Lib.hid (by rw [hW]; exact ⟨(hSt.out.seg.set 3 (.int .i32 0) (by show 3 < 6; omega)).set 4 (.int .u8 cb) (by show 4 < 6; omega), (hSt.out.only.set _ _ rfl).set _ _ rfl⟩)
    clear hW v0 v1 v2 v3 v4 v5 f3 f4 p0 p1 p2 p3 p4 p5 hSt sP1
    have sP2 := Lib.hid (sP.out.only hSt2.out.only (by omega))
    obtain ⟨p0, p1, p2, p3, p4, p5⟩ := seg6 sP2.out
    have v0 := (seg6 hSt2.out.seg).1
    obtain ⟨_, _, f0⟩ := (hSt2.out.only.rooms _ _ rV.out) 0 (by omega)
    go_upto_if 21 with fail
    go_cut [] (fun wx => ∃ tp, GTs kn (fun b => b ≤ V) wx tp sT ∧ SelSt W V tp nx nn nc cb wx)
    case first =>
      have hVs := hSt2.out.only.size
      by_cases h0 : tk = 0
      · have e0 : (tk != 0) = false := by rw [h0]; rfl
        go_wp2
        go_meet
        exact ⟨none, .inl ⟨rfl, by rw [hst.out, if_pos h0]⟩, hSt2.out⟩
      · have e0 : (tk != 0) = true := by simpa [bne] using h0
        have hst2 : Hid (sT = (!pf && !(tk == 1 && !kn tn))) := Lib.hid (by rw [hst.out, if_neg h0])
        replace h0 := Lib.hid h0
        cases h1 : tk == 1 <;> cases pf
        · have x3 := fun o => al p3 o
          go_upto_region 12 with fail
          refine wp_gen (fun w3 hW => ?_)
          have b3 : Hid (Below w2.heap.size w2 w3) := Lib.hid (by rw [hW]; exact ba _ _)
          have n0 : w3.cell? ⟨w2.heap.size, 0, none⟩ = some (.pointer none) := by rw [hW]; simp [go_sem]
          have n1 : w3.cell? ⟨w2.heap.size, 1, none⟩ = some (.string tn) := by rw [hW]; simp [go_sem]
          have n4 : w3.cell? ⟨w2.heap.size, 4, none⟩ = some (.int .u8 13) := by rw [hW]; simp [go_sem]
          have v0' := ac b3.out v0
          have f0' := af b3.out v0 f0
          clear hW x3
          go_wp2
          go_meet
          refine ⟨some ⟨w2.heap.size, 0, none⟩, .inr ⟨w2.heap.size, none, tn, 13, rfl, (by show ¬ w2.heap.size ≤ V; omega), ?_, ?_, ?_, by rw [hst2.out, h1]; cases kn tn <;> rfl, HT.out⟩, (hSt2.out.seg.after b3.out).set 0 _ (by show 0 < 6; omega), (hSt2.out.only.trans (Only.of b3.out)).set _ _ rfl⟩
          · rw [co (by intro q; injection q; omega)]; exact n0
          · rw [co (by intro q; injection q; omega)]; exact n1
          · rw [co (by intro q; injection q; omega)]; exact n4
        · have x3 := fun o => al p3 o
          go_upto_region 12 with fail
          refine wp_gen (fun w3 hW => ?_)
          have b3 : Hid (Below w2.heap.size w2 w3) := Lib.hid (by rw [hW]; exact (ba _ _).alloc (by simp) _)
          have n0 : w3.cell? ⟨w2.heap.size, 0, none⟩ = some (.pointer (some ⟨w2.heap.size + 1, 0, none⟩)) := by rw [hW]; simp [go_sem]
          have n1 : w3.cell? ⟨w2.heap.size, 1, none⟩ = some (.string tn) := by rw [hW]; simp [go_sem]
          have n4 : w3.cell? ⟨w2.heap.size, 4, none⟩ = some (.int .u8 13) := by rw [hW]; simp [go_sem]
          have v0' := ac b3.out v0
          have f0' := af b3.out v0 f0
          clear hW x3
          go_wp2
          go_meet
          refine ⟨some ⟨w2.heap.size, 0, none⟩, .inr ⟨w2.heap.size, (some ⟨w2.heap.size + 1, 0, none⟩), tn, 13, rfl, (by show ¬ w2.heap.size ≤ V; omega), ?_, ?_, ?_, by rw [hst2.out, h1]; cases kn tn <;> rfl, HT.out⟩, (hSt2.out.seg.after b3.out).set 0 _ (by show 0 < 6; omega), (hSt2.out.only.trans (Only.of b3.out)).set _ _ rfl⟩
          · rw [co (by intro q; injection q; omega)]; exact n0
          · rw [co (by intro q; injection q; omega)]; exact n1
          · rw [co (by intro q; injection q; omega)]; exact n4
        · have x3 := fun o => al p3 o
          go_upto_region 12 with fail
          refine wp_gen (fun w3 hW => ?_)
          have b3 : Hid (Below w2.heap.size w2 w3) := Lib.hid (by rw [hW]; exact ba _ _)
          have n0 : w3.cell? ⟨w2.heap.size, 0, none⟩ = some (.pointer none) := by rw [hW]; simp [go_sem]
          have n1 : w3.cell? ⟨w2.heap.size, 1, none⟩ = some (.string tn) := by rw [hW]; simp [go_sem]
          have n4 : w3.cell? ⟨w2.heap.size, 4, none⟩ = some (.int .u8 29) := by rw [hW]; simp [go_sem]
          have v0' := ac b3.out v0
          have f0' := af b3.out v0 f0
          clear hW x3
          go_wp2
          go_meet
          refine ⟨some ⟨w2.heap.size, 0, none⟩, .inr ⟨w2.heap.size, none, tn, 29, rfl, (by show ¬ w2.heap.size ≤ V; omega), ?_, ?_, ?_, by rw [hst2.out, h1]; cases kn tn <;> rfl, HT.out⟩, (hSt2.out.seg.after b3.out).set 0 _ (by show 0 < 6; omega), (hSt2.out.only.trans (Only.of b3.out)).set _ _ rfl⟩
          · rw [co (by intro q; injection q; omega)]; exact n0
          · rw [co (by intro q; injection q; omega)]; exact n1
          · rw [co (by intro q; injection q; omega)]; exact n4
        · have x3 := fun o => al p3 o
          go_upto_region 12 with fail
          refine wp_gen (fun w3 hW => ?_)
          have b3 : Hid (Below w2.heap.size w2 w3) := Lib.hid (by rw [hW]; exact (ba _ _).alloc (by simp) _)
          have n0 : w3.cell? ⟨w2.heap.size, 0, none⟩ = some (.pointer (some ⟨w2.heap.size + 1, 0, none⟩)) := by rw [hW]; simp [go_sem]
          have n1 : w3.cell? ⟨w2.heap.size, 1, none⟩ = some (.string tn) := by rw [hW]; simp [go_sem]
          have n4 : w3.cell? ⟨w2.heap.size, 4, none⟩ = some (.int .u8 29) := by rw [hW]; simp [go_sem]
          have v0' := ac b3.out v0
          have f0' := af b3.out v0 f0
          clear hW x3
          go_wp2
          go_meet
          refine ⟨some ⟨w2.heap.size, 0, none⟩, .inr ⟨w2.heap.size, (some ⟨w2.heap.size + 1, 0, none⟩), tn, 29, rfl, (by show ¬ w2.heap.size ≤ V; omega), ?_, ?_, ?_, by rw [hst2.out, h1]; cases kn tn <;> rfl, HT.out⟩, (hSt2.out.seg.after b3.out).set 0 _ (by show 0 < 6; omega), (hSt2.out.only.trans (Only.of b3.out)).set _ _ rfl⟩
          · rw [co (by intro q; injection q; omega)]; exact n0
          · rw [co (by intro q; injection q; omega)]; exact n1
          · rw [co (by intro q; injection q; omega)]; exact n4
    case rest =>
      obtain ⟨tp, hG, hSt3⟩ := hcut
      obtain ⟨w3, rfl⟩ : ∃ w3 : World, w3 = wc := ⟨_, rfl⟩
      replace hG := Lib.hid hG
      replace hSt3 := Lib.hid hSt3
      clear v0 f0 p0 p1 p2 p3 p4 p5
      have sP3 := Lib.hid (sP.out.only hSt3.out.only (by omega))
      have p5 := (seg6 sP3.out).2.2.2.2.2
      have bW3 : Hid (Below w.heap.size w w3) := Lib.hid (bW.out.trans (hSt3.out.only.below w.heap.size bW.out.size (fun z e => by have := hPw.out; omega)))
      have hV3 := hSt3.out.only.size
      clear sP2 hSt2
      go_upto_region 14 with fail
      clear m37 m38
      refine wp_gen (fun w4 hW => ?_)
      have hO : Hid (w4.ownsRow w3.heap.size 60 3 (.slice (some ⟨w3.heap.size, 0, none⟩) 0 n) 0 (flat SubR.cells [])) := Lib.hid (by rw [hW]; exact World.ownsRow_made _ _ _ (by omega) (by unfold maxLen; omega) (by rw [size_madeCells]))
      have b4 : Hid (Below w3.heap.size w3 w4) := Lib.hid (by rw [hW]; exact ba _ _)
      clear hW p5
      go_wp2
      go_loopw [6, 7] (fun subs v wr => LpS (V + 1) w3 n ss subs v wr) (fun _ v _ => n - (intOf v).toNat)
      case atStart => exact ⟨0, [], by omega, rfl, rfl, rfl, hO.out, (fun s h => by simp at h), b4.out, _, _, rfl⟩
      case round =>
        clear hO b4
        obtain ⟨k, ls, hk, rfl, hlen, hall, hO, hGs, hB, a6, c6, rfl⟩ := hrel
        obtain ⟨w5, rfl⟩ : ∃ w5 : World, w5 = wr := ⟨_, rfl⟩
        replace hlen := Lib.hid hlen
        replace hall := Lib.hid hall
        replace hO := Lib.hid hO
        replace hGs := Lib.hid hGs
        replace hB := Lib.hid hB
        have p5 := ac hB.out (seg6 sP3.out).2.2.2.2.2
        by_cases hlt : k < n
        · obtain ⟨sb, hsb⟩ : ∃ sb, ss[k]? = some sb := ⟨_, List.getElem?_eq_getElem (by rw [hnn.out]; exact hlt)⟩
          have hS5 : RS O w5 a ss := HS.out.after (bW3.out.trans (hB.out.mono bW3.out.size))
          obtain ⟨xb, xo, hax, -, hx⟩ := hS5 k sb hsb
          have hstep := Lib.hid (all_step (f := safeS) hsb)
          have hsS : Hid (safeS sb = if sb.k = 0 then sb.m == 0 else if sb.k = 1 then !sb.ha && !sb.el && isW sb.nm else if sb.k = 2 then false else true) := Lib.hid rfl
          have d0 : w5.cell? ⟨xb, xo + k * 5, none⟩ = some (.int .u8 sb.k) := by simpa using hx 0 _ rfl
          have d1 : w5.cell? ⟨xb, xo + k * 5 + 1, none⟩ = some (.int .u8 sb.m) := by simpa using hx 1 _ rfl
          have d2 : w5.cell? ⟨xb, xo + k * 5 + 2, none⟩ = some (.string sb.nm) := by simpa using hx 2 _ rfl
          have d3 : w5.cell? ⟨xb, xo + k * 5 + 3, none⟩ = some (.bool sb.ha) := by simpa using hx 3 _ rfl
          have d4 : w5.cell? ⟨xb, xo + k * 5 + 4, none⟩ = some (.bool sb.el) := by simpa using hx 4 _ rfl
          rw [hax] at p5
          clear hsb hS5 hx
          obtain ⟨sk, sm, snm, sha, sel⟩ := sb
          dsimp only at d0 d1 d2 d3 d4 hsS
          generalize hfs : safeS (⟨sk, sm, snm, sha, sel⟩ : Sb) = fs at *
          have k0 : (0 : Int) ≤ k := by omega
          have k1 : (k : Int) < n := by omega
          have hwz := hB.out.size
          go_upto_region 18 with fail
          refine wp_gen (fun w6 hW => ?_)
          have b6 : Hid (Below w5.heap.size w5 w6) := Lib.hid (by rw [hW]; exact ba _ _)
          have e0 : w6.cell? ⟨w5.heap.size, 0, none⟩ = some (.int .u8 sk) := by rw [hW]; simp [go_sem]
          have e1 : w6.cell? ⟨w5.heap.size, 1, none⟩ = some (.int .u8 sm) := by rw [hW]; simp [go_sem]
          have e2 : w6.cell? ⟨w5.heap.size, 2, none⟩ = some (.string snm) := by rw [hW]; simp [go_sem]
          have e3 : w6.cell? ⟨w5.heap.size, 3, none⟩ = some (.bool sha) := by rw [hW]; simp [go_sem]
          have e4 : w6.cell? ⟨w5.heap.size, 4, none⟩ = some (.bool sel) := by rw [hW]; simp [go_sem]
          clear hW d0 d1 d2 d3 d4
          have hO6 := Lib.hid (own_below hO.out b6.out)
          have h56 := b6.out.size
          have hwW : V + 1 ≤ w5.heap.size := by omega
          have C11 := Lib.hid (fun W => attr_c sm W)
          have C12 := Lib.hid (fun xx W => pseudo_c snm xx sel W)
          have C13 := Lib.hid (fun W => list_c W)
          have C14 := Lib.hid (fun W => class_c W)
          have m65 := mk65
          clear p5
          replace hfs := Lib.hid hfs
          generalize w5.heap.size = P8 at e0 e1 e2 e3 e4 ⊢
          by_cases q0 : sk = 0
          · have t0 : (sk == 0) = true := by rw [q0]; rfl
            have hfd : Hid (fs = (sm == 0)) := Lib.hid (by rw [hsS.out, if_pos q0])
            subst q0
            go_wp2_with (first | (go_at_call 11; (with_reducible refine (C11.out _).mono ?_); rintro e w7 ⟨s', rfl, hd, hs', b7⟩; replace hd := Lib.hid hd; replace hs' := Lib.hid hs'; replace b7 := Lib.hid b7; have hO7 := Lib.hid (own_below hO6.out b7.out); have hz7 : w3.heap.size ≤ w7.heap.size := Nat.le_trans hwz (Nat.le_trans h56 b7.out.size)) | (at_builtin; refine app1n (w := w7) (.tmp 64) (.tmp 68) 37 60 w3.heap.size 3 24 #[.nilIface, .int .i32 0, .int .i32 0] s'.arr _ k _ rfl rfl rfl rfl rfl Tryd.underlying37 info60 rfl (by omega) hO7.out rfl (SubR.one s') (by omega) (by omega) hz7 ?_; intro subs2 w8 hO8 hkp hnew; replace hO8 := Lib.hid hO8; replace hkp := Lib.hid hkp; replace hnew := Lib.hid hnew))
            obtain ⟨ls', r1, r2, r3, r4, r5, r6⟩ := build_step (M := V + 1) hlen.out hall.out hstep.out hO.out hGs.out hB.out hwW (b6.out.trans (b7.out.mono h56)) (hs'.out.keep (Kc.of_below (Below.refl _ _)) (fun b _ q => Nat.lt_of_lt_of_le q h56)) (hd.out.trans hfd.out.symm) hO8.out hkp.out hnew.out
            replace r3 := Lib.hid r3
            replace r4 := Lib.hid r4
            replace r6 := Lib.hid r6
            go_roundw
            case rel => exact ⟨k + 1, ls', by omega, by go_num, r1, r2, r3.out, r4.out, r5, r6.out⟩
            case measure => simp [intOf]; omega
          · have t0 : (sk == 0) = false := by simpa using q0
            by_cases q1 : sk = 1
            · have t1 : (sk == 1) = true := by rw [q1]; rfl
              have hfd : Hid (fs = (!sha && !sel && isW snm)) := Lib.hid (by rw [hsS.out, if_neg q0, if_pos q1])
              subst q1
              cases sha
              · go_wp2_with (first | (go_at_call 12; (with_reducible refine (C12.out none _).mono ?_); rintro e w7 ⟨s', rfl, hd, hs', b7⟩; replace hd := Lib.hid hd; replace hs' := Lib.hid hs'; replace b7 := Lib.hid b7; have hO7 := Lib.hid (own_below hO6.out b7.out); have hz7 : w3.heap.size ≤ w7.heap.size := Nat.le_trans hwz (Nat.le_trans h56 b7.out.size)) | (at_builtin; refine app1n (w := w7) (.tmp 75) (.tmp 82) 37 60 w3.heap.size 3 24 #[.nilIface, .int .i32 0, .int .i32 0] s'.arr _ k _ rfl rfl rfl rfl rfl Tryd.underlying37 info60 rfl (by omega) hO7.out rfl (SubR.one s') (by omega) (by omega) hz7 ?_; intro subs2 w8 hO8 hkp hnew; replace hO8 := Lib.hid hO8; replace hkp := Lib.hid hkp; replace hnew := Lib.hid hnew))
                obtain ⟨ls', r1, r2, r3, r4, r5, r6⟩ := build_step (M := V + 1) hlen.out hall.out hstep.out hO.out hGs.out hB.out hwW (b6.out.trans (b7.out.mono h56)) (hs'.out.keep (Kc.of_below (Below.refl _ _)) (fun b _ q => Nat.lt_of_lt_of_le q h56)) (hd.out.trans (by rw [hfd.out]; rfl)) hO8.out hkp.out hnew.out
                replace r3 := Lib.hid r3
                replace r4 := Lib.hid r4
                replace r6 := Lib.hid r6
                go_roundw
                case rel => exact ⟨k + 1, ls', by omega, by go_num, r1, r2, r3.out, r4.out, r5, r6.out⟩
                case measure => simp [intOf]; omega
              · go_upto_region 26 with fail
                refine wp_gen (fun wq hW => ?_)
                have bq : Hid (Below w5.heap.size w5 wq) := Lib.hid (by rw [hW]; exact b6.out.trans ((ba _ _).mono h56))
                have bq6 : Below w6.heap.size w6 wq := by rw [hW]; exact ba _ _
                replace e2 := ac bq6 e2
                replace e4 := ac bq6 e4
                have hO6q := Lib.hid (own_below hO6.out bq6)
                have hq5 := bq.out.size
                clear hW bq6
                go_wp2_with (first | (go_at_call 12; (with_reducible refine (C12.out _ _).mono ?_); rintro e w7 ⟨s', rfl, hd, hs', b7⟩; replace hd := Lib.hid hd; replace hs' := Lib.hid hs'; replace b7 := Lib.hid b7; have hO7 := Lib.hid (own_below hO6q.out b7.out); have hz7 : w3.heap.size ≤ w7.heap.size := Nat.le_trans hwz (Nat.le_trans hq5 b7.out.size)) | (at_builtin; refine app1n (w := w7) (.tmp 75) (.tmp 82) 37 60 w3.heap.size 3 24 #[.nilIface, .int .i32 0, .int .i32 0] s'.arr _ k _ rfl rfl rfl rfl rfl Tryd.underlying37 info60 rfl (by omega) hO7.out rfl (SubR.one s') (by omega) (by omega) hz7 ?_; intro subs2 w8 hO8 hkp hnew; replace hO8 := Lib.hid hO8; replace hkp := Lib.hid hkp; replace hnew := Lib.hid hnew))
                obtain ⟨ls', r1, r2, r3, r4, r5, r6⟩ := build_step (M := V + 1) hlen.out hall.out hstep.out hO.out hGs.out hB.out hwW (bq.out.trans (b7.out.mono hq5)) (hs'.out.keep (Kc.of_below (Below.refl _ _)) (fun b _ q => Nat.lt_of_lt_of_le q hq5)) (hd.out.trans (by rw [hfd.out]; rfl)) hO8.out hkp.out hnew.out
                replace r3 := Lib.hid r3
                replace r4 := Lib.hid r4
                replace r6 := Lib.hid r6
                go_roundw
                case rel => exact ⟨k + 1, ls', by omega, by go_num, r1, r2, r3.out, r4.out, r5, r6.out⟩
                case measure => simp [intOf]; omega
            · have t1 : (sk == 1) = false := by simpa using q1
              by_cases q2 : sk = 2
              · have t2 : (sk == 2) = true := by rw [q2]; rfl
                have hfd : Hid (fs = false) := Lib.hid (by rw [hsS.out, if_neg q0, if_neg q1, if_pos q2])
                subst q2
                go_wp2_with (first | (go_at_call 13; (with_reducible refine (C13.out _).mono ?_); rintro e w7 ⟨s', rfl, hd, hs', b7⟩; replace hd := Lib.hid hd; replace hs' := Lib.hid hs'; replace b7 := Lib.hid b7; have hO7 := Lib.hid (own_below hO6.out b7.out); have hz7 : w3.heap.size ≤ w7.heap.size := Nat.le_trans hwz (Nat.le_trans h56 b7.out.size)) | (at_builtin; refine app1n (w := w7) (.tmp 86) (.tmp 88) 37 60 w3.heap.size 3 24 #[.nilIface, .int .i32 0, .int .i32 0] s'.arr _ k _ rfl rfl rfl rfl rfl Tryd.underlying37 info60 rfl (by omega) hO7.out rfl (SubR.one s') (by omega) (by omega) hz7 ?_; intro subs2 w8 hO8 hkp hnew; replace hO8 := Lib.hid hO8; replace hkp := Lib.hid hkp; replace hnew := Lib.hid hnew))
                obtain ⟨ls', r1, r2, r3, r4, r5, r6⟩ := build_step (M := V + 1) hlen.out hall.out hstep.out hO.out hGs.out hB.out hwW (b6.out.trans (b7.out.mono h56)) (hs'.out.keep (Kc.of_below (Below.refl _ _)) (fun b _ q => Nat.lt_of_lt_of_le q h56)) (hd.out.trans hfd.out.symm) hO8.out hkp.out hnew.out
                replace r3 := Lib.hid r3
                replace r4 := Lib.hid r4
                replace r6 := Lib.hid r6
                go_roundw
                case rel => exact ⟨k + 1, ls', by omega, by go_num, r1, r2, r3.out, r4.out, r5, r6.out⟩
                case measure => simp [intOf]; omega
              · have t2 : (sk == 2) = false := by simpa using q2
                have hfd : Hid (fs = true) := Lib.hid (by rw [hsS.out, if_neg q0, if_neg q1, if_neg q2])
                go_wp2_with (first | (go_at_call 14; (with_reducible refine (C14.out _).mono ?_); rintro e w7 ⟨s', rfl, hd, hs', b7⟩; replace hd := Lib.hid hd; replace hs' := Lib.hid hs'; replace b7 := Lib.hid b7; have hO7 := Lib.hid (own_below hO6.out b7.out); have hz7 : w3.heap.size ≤ w7.heap.size := Nat.le_trans hwz (Nat.le_trans h56 b7.out.size)) | (at_builtin; refine app1n (w := w7) (.tmp 58) (.tmp 60) 37 60 w3.heap.size 3 24 #[.nilIface, .int .i32 0, .int .i32 0] s'.arr _ k _ rfl rfl rfl rfl rfl Tryd.underlying37 info60 rfl (by omega) hO7.out rfl (SubR.one s') (by omega) (by omega) hz7 ?_; intro subs2 w8 hO8 hkp hnew; replace hO8 := Lib.hid hO8; replace hkp := Lib.hid hkp; replace hnew := Lib.hid hnew))
                obtain ⟨ls', r1, r2, r3, r4, r5, r6⟩ := build_step (M := V + 1) hlen.out hall.out hstep.out hO.out hGs.out hB.out hwW (b6.out.trans (b7.out.mono h56)) (hs'.out.keep (Kc.of_below (Below.refl _ _)) (fun b _ q => Nat.lt_of_lt_of_le q h56)) (hd.out.trans hfd.out.symm) hO8.out hkp.out hnew.out
                replace r3 := Lib.hid r3
                replace r4 := Lib.hid r4
                replace r6 := Lib.hid r6
                go_roundw
                case rel => exact ⟨k + 1, ls', by omega, by go_num, r1, r2, r3.out, r4.out, r5, r6.out⟩
                case measure => simp [intOf]; omega
        · obtain rfl : k = n := by omega
          have hsc2 : Hid (safeC kn C = (nn == 0 && cb == 0 && sT && ls.all SubR.d)) := Lib.hid (by
            have h2 := hall.out
            rw [← hnn.out, all_full] at h2
            rw [hsc.out, hnz.out, h2])
          have hV5 := hB.out.size
          have sV5 := Lib.hid (hSt3.out.seg.after hB.out)
          have rV5 := Lib.hid ((hSt3.out.only.rooms _ _ rV.out).after hB.out)
          have rR5 := Lib.hid ((hSt3.out.only.rooms _ _ rR.out).after hB.out)
          have v1 := (seg6 sV5.out).2.1
          obtain ⟨_, _, f1⟩ := rV5.out 1 (by omega)
          go_upto_region 30 with fail
          refine wp_gen (fun w6 hW => ?_)
          have o6 : Hid (Only (fun z => z = V ∨ z = R) w5 w6) := Lib.hid (by rw [hW]; exact (Only.refl _).set _ _ (.inl rfl))
          have sV6 : Hid (Seg w6 V 0 [.pointer tp, .slice a6 k c6, .slice nx nn nc, .int .i32 0, .int .u8 cb, .bool false]) := Lib.hid (by rw [hW]; exact sV5.out.set 1 (.slice a6 k c6) (by show 1 < 6; omega))
          clear hW v1 f1
          obtain ⟨x0, x1, x2, x3, x4, x5⟩ := seg6 sV6.out
          have rR6 := o6.out.rooms _ _ rR5.out
          obtain ⟨_, y0, g0⟩ := rR6 0 (by omega)
          obtain ⟨_, y1, g1⟩ := rR6 1 (by omega)
          obtain ⟨_, y2, g2⟩ := rR6 2 (by omega)
          obtain ⟨_, y3, g3⟩ := rR6 3 (by omega)
          obtain ⟨_, y4, g4⟩ := rR6 4 (by omega)
          obtain ⟨_, y5, g5⟩ := rR6 5 (by omega)
          go_wp2
          have fin : ∀ w7, Only (fun z => z = V ∨ z = R) w6 w7 → CompP kn C w (.returned (.agg (CpR.arr ⟨tp, sT, a6, c6, ls, nx, nn, nc, cb⟩))) w7 := fun w7 h67 => by
            have h57 := o6.out.trans h67
            have hPw' := hPw.out
            refine ⟨_, rfl, by rw [hsc2.out]; rfl, ⟨(hG.out.keep (Kc.of_below hB.out) (fun _ _ q => q)).keep (Kc.of_only h57 (fun b _ q => by rcases q with rfl | rfl <;> omega)) (fun b _ q => by show b ≤ V; omega), fun i s hi => ?_⟩, ?_, ?_⟩
            · have hil : i < k := by rw [← hlen.out]; exact (List.getElem?_eq_some_iff.1 hi).1
              obtain ⟨g, c9, e9, hg1, hg2, -, -⟩ := own_some hO.out (by omega)
              injection e9 with e9 _ _
              subst e9
              refine ⟨g, rfl, by omega, fun j v hj => h57.keep (own_at SubR.len hO.out hi hj) (by show ¬ (g = V ∨ g = R); omega), ?_⟩
              exact (hGs.out s (List.mem_of_getElem? hi)).keep (Kc.of_only h57 (fun b _ q => .inr (by rcases q with rfl | rfl <;> omega))) (fun b _ q => .inr (by omega))
            · have := own_shape hO.out
              obtain ⟨_, _, e9, h9, h9'⟩ := this
              injection e9 with _ _ e9
              show ls.length ≤ maxLen
              rw [hlen.out]
              omega
            · exact (bW3.out.trans (hB.out.mono bW3.out.size)).trans (h57.below w.heap.size (by have := bW3.out.size; omega) (fun z q => by rcases q with rfl | rfl <;> omega))
          refine bodyPost_ret (v := .agg (CpR.arr ⟨tp, sT, a6, c6, ls, nx, nn, nc, cb⟩)) (by simp [results, Tryd.results10, go_sem, y0, y1, y2, y3, y4, y5, hlen.out]) rfl (fin _ ?_)
          exact ((((((Only.refl _).set _ _ (.inr rfl)).set _ _ (.inr rfl)).set _ _ (.inr rfl)).set _ _ (.inr rfl)).set _ _ (.inr rfl)).set _ _ (.inr rfl)
end Go.Proofs.YtacalmdjkgbhlaaDoor
