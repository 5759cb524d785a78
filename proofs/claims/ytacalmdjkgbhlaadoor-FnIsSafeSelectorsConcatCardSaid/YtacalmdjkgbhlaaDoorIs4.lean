/- FnIsSafeSelectorsConcat: zzBuild. -/
import Derived.Test.YtacalmdjkgbhlaaDoorIs3
set_option linter.unusedVariables false
set_option linter.unusedSimpArgs false
namespace Go.Proofs.YtacalmdjkgbhlaaDoor
open Go.RowKit
/-- one element more in a row that is built -/
theorem step_g {T D : Type} {f : T → List Value} {safe : T → Bool} {saf : D → Bool} {G : (Nat → Prop) → World → T → Prop} {ty z : Nat} (keep : ∀ (O O' : Nat → Prop) (w w' : World) (x : T), G O w x → Kc O w w' → (∀ b, b < w.heap.size → O' b → O b) → G O' w' x)
    {w3 w5 w7 w8 : World} {M k c6 : Nat} {a6 : Option Addr} {subs2 : Value} {ls : List T} {ss : List D} {s' : T} {fs : Bool} (hlen : ls.length = k) (hall : ls.all safe = (ss.take k).all saf) (hstep : (ss.take (k + 1)).all saf = ((ss.take k).all saf && fs))
    (hO : w5.ownsRow w3.heap.size ty z (.slice a6 k c6) k (flat f ls)) (hG : ∀ s ∈ ls, G (fun b => (Value.slice a6 k c6).ownBlock = some b ∨ b < M) w5 s) (hB : Below w3.heap.size w3 w5) (hw : M ≤ w5.heap.size) (b7 : Below w5.heap.size w5 w7) (hs : G (fun b => b < w5.heap.size) w7 s') (hd : safe s' = fs)
    (hO8 : w8.ownsRow w3.heap.size ty z subs2 (k + 1) (flat f ls ++ f s')) (hkp : Kp (fun b => (Value.slice a6 k c6).ownBlock = some b) w7 w8) (hnew : ∀ b, subs2.ownBlock = some b → (Value.slice a6 k c6).ownBlock = some b ∨ w7.heap.size ≤ b) :
    ∃ ls' : List T, ls'.length = k + 1 ∧ ls'.all safe = (ss.take (k + 1)).all saf ∧ w8.ownsRow w3.heap.size ty z subs2 (k + 1) (flat f ls') ∧ (∀ s ∈ ls', G (fun b => subs2.ownBlock = some b ∨ b < M) w8 s) ∧ Below w3.heap.size w3 w8 ∧ ∃ a c, subs2 = .slice a (k + 1) c := by
  have h57 := b7.size
  have h35 := hB.size
  refine ⟨ls ++ [s'], by simp [hlen], by rw [List.all_append, hall, hstep]; simp [hd], by rw [← flat_add]; exact hO8, fun s hm => ?_, hB.trans ((b7.mono h35).trans (hkp.below (by omega) (fun b e => (hO.lt b e).1))), ?_⟩
  · rcases List.mem_append.1 hm with hm | hm
    · exact keep _ _ _ _ _ (keep _ _ _ _ _ (hG s hm) (Kc.of_below b7) (fun _ _ q => q)) (Kc.of_kp hkp (fun b _ q => .inl q)) (fun b hb q => by
        rcases q with q | q
        · rcases hnew b q with q | q
          · exact .inl q
          · omega
        · exact .inr q)
    · rw [List.mem_singleton] at hm
      subst hm
      exact keep _ _ _ _ _ hs (Kc.of_kp hkp (fun b _ q => (hO.lt b q).2)) (fun b hb q => by
        rcases q with q | q
        · rcases hnew b q with q | q
          · exact (hO.lt b q).2
          · omega
        · show b < w5.heap.size
          omega)
  · obtain ⟨g, c, e, -⟩ := own_some hO8 (by omega)
    exact ⟨_, c, e⟩
theorem comp_c (kn : ByteArray → Bool) (c : Cq) (a : Option Addr) (cc : Nat) (O : Nat → Prop) (w : World) (hs : RS O w a c.ss) (hn : c.ss.length ≤ 1048576) (ht : c.tn.size ≤ maxLen) : Calls Tryd.prog 10 #[.agg #[.int .u8 c.ne, .int .u8 c.co, .int .u8 c.tk, .bool c.pf, .string c.tn, .slice a c.ss.length cc]] w (CompP kn c w) :=
  comp_c0 kn c c.ne c.co c.tk c.pf c.tn c.ss c.ss.length (safeT kn c) rfl rfl rfl a cc O w hs hn ht
theorem info44 : (Tryd.prog.info? 44).map (fun i => (i.zero.map (·.cells), i.size, i.bytes)) = some (some #[.pointer none, .slice none 0 0, .slice none 0 0, .int .i32 0, .int .u8 0, .bool false], 6, 72) := by kernel_rfl
theorem info47 : (Tryd.prog.info? 47).map (fun i => (i.zero.map (·.cells), i.size, i.bytes)) = some (some #[.slice none 0 0], 1, 24) := by kernel_rfl
/-- what zzBuild answers -/
def BuildP (kn : ByteArray → Bool) (gs : List (List Cq)) (w : World) (e : Ending) (w' : World) : Prop := ∃ ga gc ls, e = .returned (.slice ga ls.length gc) ∧ ls.length ≤ maxLen ∧ RCx kn (fun _ => False) w' ga ls ∧ ls.all CxR.safe = safeG kn gs ∧ Below w.heap.size w w'
/-- a compound, and the length of its row -/
def GCpL (kn : ByteArray → Bool) (O : Nat → Prop) (w : World) (r : CpR) : Prop := GCp kn O w r ∧ r.ls.length ≤ maxLen
def GCxL (kn : ByteArray → Bool) (O : Nat → Prop) (w : World) (r : CxR) : Prop := RCp kn O w r.a r.ls ∧ r.ls.length ≤ maxLen
theorem GCpL.keep {kn : ByteArray → Bool} (O O' : Nat → Prop) (w w' : World) (r : CpR) (h : GCpL kn O w r) (hk : Kc O w w') (ho : ∀ b, b < w.heap.size → O' b → O b) : GCpL kn O' w' r := ⟨h.1.keep hk ho, h.2⟩
theorem GCxL.keep {kn : ByteArray → Bool} (O O' : Nat → Prop) (w w' : World) (r : CxR) (h : GCxL kn O w r) (hk : Kc O w w') (ho : ∀ b, b < w.heap.size → O' b → O b) : GCxL kn O' w' r := ⟨h.1.keep hk ho, h.2⟩
def LpC (kn : ByteArray → Bool) (M : Nat) (w3 : World) (n : Nat) (g : List Cq) (comps v : Value) (wr : World) : Prop := ∃ (k : Nat) (ls : List CpR), k ≤ n ∧ v = .int .i64 k ∧ ls.length = k ∧ ls.all CpR.safe = (g.take k).all (safeC kn) ∧ wr.ownsRow w3.heap.size 44 6 comps k (flat CpR.cells ls) ∧ (∀ s ∈ ls, GCpL kn (fun b => comps.ownBlock = some b ∨ b < M) wr s) ∧ Below w3.heap.size w3 wr ∧ (∃ a c, comps = .slice a k c)
def LpX (kn : ByteArray → Bool) (M : Nat) (w3 : World) (n : Nat) (gs : List (List Cq)) (out v : Value) (wr : World) : Prop := ∃ (k : Nat) (ls : List CxR), k ≤ n ∧ v = .int .i64 k ∧ ls.length = k ∧ ls.all CxR.safe = (gs.take k).all (fun r => r.all (safeC kn)) ∧ wr.ownsRow w3.heap.size 47 1 out k (flat CxR.cells ls) ∧ (∀ s ∈ ls, GCxL kn (fun b => out.ownBlock = some b ∨ b < M) wr s) ∧ Below w3.heap.size w3 wr ∧ (∃ a c, out = .slice a k c)
theorem rcp_of_own {kn : ByteArray → Bool} {O O' : Nat → Prop} {w : World} {B n c : Nat} {a : Option Addr} {ls : List CpR} (hl : ls.length = n) (hO : w.ownsRow B 44 6 (.slice a n c) n (flat CpR.cells ls)) (hG : ∀ s ∈ ls, GCpL kn O w s) (ho : ∀ b, b < w.heap.size → O' b → O b) (hB : ∀ b, B ≤ b → ¬ O' b) : RCp kn O' w a ls := fun i s hi => by
  have hil : i < n := by rw [← hl]; exact (List.getElem?_eq_some_iff.1 hi).1
  obtain ⟨g, c9, e9, hg1, hg2, -, -⟩ := own_some hO (by omega)
  injection e9 with e9 _ _
  subst e9
  have hg := hG s (List.mem_of_getElem? hi)
  exact ⟨g, rfl, hB g hg1, fun j v hj => own_at CpR.len hO hi hj, hg.1.keep (fun _ _ q _ => q) ho, hg.2⟩
theorem rcx_of_own {kn : ByteArray → Bool} {O : Nat → Prop} {w : World} {B n c : Nat} {a : Option Addr} {ls : List CxR} (hl : ls.length = n) (hO : w.ownsRow B 47 1 (.slice a n c) n (flat CxR.cells ls)) (hG : ∀ s ∈ ls, GCxL kn O w s) : RCx kn (fun _ => False) w a ls := fun i s hi => by
  have hil : i < n := by rw [← hl]; exact (List.getElem?_eq_some_iff.1 hi).1
  obtain ⟨g, c9, e9, hg1, hg2, -, -⟩ := own_some hO (by omega)
  injection e9 with e9 _ _
  subst e9
  have hg := hG s (List.mem_of_getElem? hi)
  refine ⟨g, rfl, id, ?_, hg.1.keep (fun _ _ q _ => q) (fun _ _ q => q.elim), hg.2⟩
  have := own_at CxR.len hO hi (j := 0) (u := .slice s.a s.ls.length s.c) rfl
  simpa using this
set_option maxRecDepth 100000 in
set_option maxHeartbeats 4000000 in
theorem build8_c (kn : ByteArray → Bool) (gs : List (List Cq)) (a : Option Addr) (cc : Nat) (O : Nat → Prop) (w : World) (h : RG O w a gs) (hn : gs.length ≤ 1048576) (hin : ∀ g ∈ gs, g.length ≤ 1048576 ∧ ∀ c ∈ g, c.ss.length ≤ 1048576) : Calls Tryd.prog 8 #[.slice a gs.length cc] w (BuildP kn gs w) := by
  have H := Lib.hid h
  have HI := Lib.hid hin
  obtain ⟨n, hnn⟩ : ∃ n, gs.length = n := ⟨_, rfl⟩
  rw [hnn] at hn ⊢
  replace hnn := Lib.hid hnn
  have m28 := make0_z (P := Tryd.prog) #[.slice none 0 0] Tryd.underlying28 info47 n (by omega) (by omega)
  simp only [Nat.mul_one] at m28
  clear h hin
  go_enter Tryd.func8, Tryd.ntmps8
  go_upto_region 2 with fail
  clear m28
  refine wp_gen (fun W hW => ?_)
  have hO : Hid (W.ownsRow w.heap.size 47 1 (.slice (some ⟨w.heap.size, 0, none⟩) 0 n) 0 (flat CxR.cells [])) := Lib.hid (by rw [hW]; exact World.ownsRow_made _ _ _ (by omega) (by unfold maxLen; omega) (by rw [size_madeCells]; omega))
  have bW : Hid (Below w.heap.size w W) := Lib.hid (by rw [hW]; exact ba _ _)
  clear hW
  go_wp2
  go_loopw [3, 4] (fun out v wr => LpX kn w.heap.size w n gs out v wr) (fun _ v _ => n - (intOf v).toNat)
  case atStart => exact ⟨0, [], by omega, rfl, rfl, rfl, hO.out, (fun s h => by simp at h), bW.out, _, _, rfl⟩
  case round =>
    clear hO bW
    obtain ⟨i, ls, hi, rfl, hlen, hall, hO, hGs, hB, a6, c6, rfl⟩ := hrel
    obtain ⟨w1, rfl⟩ : ∃ w1 : World, w1 = wr := ⟨_, rfl⟩
    replace hlen := Lib.hid hlen
    replace hall := Lib.hid hall
    replace hO := Lib.hid hO
    replace hGs := Lib.hid hGs
    replace hB := Lib.hid hB
    by_cases hlt : i < n
    · obtain ⟨g, hg⟩ : ∃ g, gs[i]? = some g := ⟨_, List.getElem?_eq_getElem (by rw [hnn.out]; exact hlt)⟩
      obtain ⟨ab, ao, a', c', rfl, -, hc, -, hRC, -⟩ := (H.out.after hB.out) i g hg
      have hstep := Lib.hid (all_step (f := fun r => r.all (safeC kn)) hg)
      obtain ⟨hgn, hgs⟩ := HI.out g (List.mem_of_getElem? hg)
      replace hgs := Lib.hid hgs
      replace hRC := Lib.hid hRC
      have i0 : (0 : Int) ≤ i := by omega
      have i1 : (i : Int) < n := by omega
      obtain ⟨m, hmm⟩ : ∃ m, g.length = m := ⟨_, rfl⟩
      rw [hmm] at hc hgn
      replace hmm := Lib.hid hmm
      have m35 := make0_z (P := Tryd.prog) #[.pointer none, .slice none 0 0, .slice none 0 0, .int .i32 0, .int .u8 0, .bool false] Tryd.underlying35 info44 m (by omega) (by omega)
      clear hg
      go_upto_region 7 with fail
      clear m35 hc
      refine wp_gen (fun w2 hW => ?_)
      have hO2 : Hid (w2.ownsRow w1.heap.size 44 6 (.slice (some ⟨w1.heap.size, 0, none⟩) 0 m) 0 (flat CpR.cells [])) := Lib.hid (by rw [hW]; exact World.ownsRow_made _ _ _ (by omega) (by unfold maxLen; omega) (by rw [size_madeCells]))
      have b2 : Hid (Below w1.heap.size w1 w2) := Lib.hid (by rw [hW]; exact ba _ _)
      clear hW
      go_wp2
      go_loopw [6, 7] (fun comps v wr => LpC kn w1.heap.size w1 m g comps v wr) (fun _ v _ => m - (intOf v).toNat)
      case atStart => exact ⟨0, [], by omega, rfl, rfl, rfl, hO2.out, (fun s h => by simp at h), b2.out, _, _, rfl⟩
      case round =>
        clear hO2 b2
        obtain ⟨j, lc, hj, rfl, hlc, hac, hOc, hGc, hBc, a7, c7, rfl⟩ := hrel
        obtain ⟨w3, rfl⟩ : ∃ w3 : World, w3 = wr := ⟨_, rfl⟩
        replace hlc := Lib.hid hlc
        replace hac := Lib.hid hac
        replace hOc := Lib.hid hOc
        replace hGc := Lib.hid hGc
        replace hBc := Lib.hid hBc
        have h13 := hBc.out.size
        by_cases hltj : j < m
        · obtain ⟨c, hcq⟩ : ∃ c, g[j]? = some c := ⟨_, List.getElem?_eq_getElem (by rw [hmm.out]; exact hltj)⟩
          obtain ⟨gb, go, ca, cz, rfl, -, hs, -, hRS, htn, -⟩ := (hRC.out.after hBc.out) j c hcq
          have hst2 := Lib.hid (all_step (f := safeC kn) hcq)
          have hss := hgs.out c (List.mem_of_getElem? hcq)
          have C10 := Lib.hid (comp_c kn c ca cz O w3 hRS hss htn)
          have d0 : w3.cell? ⟨gb, go + j * 6, none⟩ = some (.int .u8 c.ne) := by simpa using hs 0 _ rfl
          have d1 : w3.cell? ⟨gb, go + j * 6 + 1, none⟩ = some (.int .u8 c.co) := by simpa using hs 1 _ rfl
          have d2 : w3.cell? ⟨gb, go + j * 6 + 2, none⟩ = some (.int .u8 c.tk) := by simpa using hs 2 _ rfl
          have d3 : w3.cell? ⟨gb, go + j * 6 + 3, none⟩ = some (.bool c.pf) := by simpa using hs 3 _ rfl
          have d4 : w3.cell? ⟨gb, go + j * 6 + 4, none⟩ = some (.string c.tn) := by simpa using hs 4 _ rfl
          have d5 : w3.cell? ⟨gb, go + j * 6 + 5, none⟩ = some (.slice ca c.ss.length cz) := by simpa using hs 5 _ rfl
          have j0 : (0 : Int) ≤ j := by omega
          have j1 : (j : Int) < m := by omega
          clear hcq hs hRS htn hss
          go_wp2_with (first | (go_at_call 10; (with_reducible refine C10.out.mono ?_); rintro e w7 ⟨r, rfl, hd, hs', hlr, b7⟩; replace hd := Lib.hid hd; replace hs' := Lib.hid hs'; replace b7 := Lib.hid b7; have hO7 := Lib.hid (own_below hOc.out b7.out); have hz7 : w1.heap.size ≤ w7.heap.size := Nat.le_trans h13 b7.out.size) | (at_builtin; refine app1n (w := w7) (.tmp 30) (.tmp 36) 35 44 w1.heap.size 6 72 #[.pointer none, .slice none 0 0, .slice none 0 0, .int .i32 0, .int .u8 0, .bool false] r.arr _ j _ rfl rfl rfl rfl rfl Tryd.underlying35 info44 rfl (by omega) hO7.out rfl (CpR.one r) (by omega) (by omega) hz7 ?_; intro comps2 w8 hO8 hkp hnew; replace hO8 := Lib.hid hO8; replace hkp := Lib.hid hkp; replace hnew := Lib.hid hnew))
          obtain ⟨ls', r1, r2, r3, r4, r5, r6⟩ := step_g (G := GCpL kn) (M := w1.heap.size) (GCpL.keep (kn := kn)) hlc.out hac.out hst2.out hOc.out hGc.out hBc.out h13 b7.out ⟨hs'.out, hlr⟩ hd.out hO8.out hkp.out hnew.out
          replace r3 := Lib.hid r3
          replace r4 := Lib.hid r4
          replace r6 := Lib.hid r6
          go_roundw
          case rel => exact ⟨j + 1, ls', by omega, by go_num, r1, r2, r3.out, r4.out, r5, r6.out⟩
          case measure => simp [intOf]; omega
        · obtain rfl : j = m := by omega
          have hO3 := Lib.hid (own_below hO.out hBc.out)
          have hz3 : w.heap.size ≤ w3.heap.size := Nat.le_trans hB.out.size h13
          have hsf : Hid (CxR.safe ⟨a7, c7, lc⟩ = g.all (safeC kn)) := Lib.hid (by
            have := hac.out
            rw [← hmm.out, all_full] at this
            exact this)
          have hR7 : Hid (GCxL kn (fun b => b < w1.heap.size) w3 ⟨a7, c7, lc⟩) := Lib.hid ⟨rcp_of_own hlc.out hOc.out hGc.out (fun b _ q => .inr q) (fun b h q => by omega), by
            show lc.length ≤ maxLen
            rw [hlc.out]
            unfold maxLen
            omega⟩
          have harr : Hid (([.slice a7 j c7] : List Value) = CxR.cells ⟨a7, c7, lc⟩) := Lib.hid (by show _ = [Value.slice a7 lc.length c7]; rw [hlc.out])
          obtain ⟨v6, hv6⟩ : ∃ y : Int, (j : Int) = y := ⟨_, rfl⟩
          go_wp2_with (at_builtin; refine app1n (w := w3) (.tmp 38) (.tmp 41) 28 47 w.heap.size 1 24 #[.slice none 0 0] #[.slice a7 j c7] _ i _ rfl rfl rfl rfl rfl Tryd.underlying28 info47 rfl (by omega) hO3.out rfl (by simp [Value.oneCell']) (by omega) (by omega) hz3 ?_; intro out2 w8 hO8 hkp hnew; replace hO8 := Lib.hid hO8; replace hkp := Lib.hid hkp; replace hnew := Lib.hid hnew)
          have hO9 := hO8.out
          rw [show (#[Value.slice a7 j c7] : Array Value).toList = CxR.cells ⟨a7, c7, lc⟩ from harr.out] at hO9
          obtain ⟨ls', r1, r2, r3, r4, r5, r6⟩ := step_g (G := GCxL kn) (M := w.heap.size) (GCxL.keep (kn := kn)) hlen.out hall.out hstep.out hO.out hGs.out hB.out hB.out.size hBc.out hR7.out hsf.out hO9 hkp.out hnew.out
          replace r3 := Lib.hid r3
          replace r4 := Lib.hid r4
          replace r6 := Lib.hid r6
          go_roundw
          case rel => exact ⟨i + 1, ls', by omega, by go_num, r1, r2, r3.out, r4.out, r5, r6.out⟩
          case measure => simp [intOf]; omega
    · obtain rfl : i = n := by omega
      go_wp2
      go_ret
      refine ⟨a6, c6, ls, by rw [hlen.out]; rfl, by rw [hlen.out]; unfold maxLen; omega, rcx_of_own hlen.out hO.out hGs.out, ?_, hB.out⟩
      rw [hall.out, ← hnn.out, all_full]
      rfl
set_option maxRecDepth 100000 in
set_option maxHeartbeats 4000000 in
theorem safe7_c (kn : ByteArray → Bool) (a : Option Addr) (c : Nat) (ls : List CxR) (w : World) (h : RCx kn (fun _ => False) w a ls) (hn : ls.length ≤ maxLen) (hR : Res kn w) : Calls Tryd.prog 7 #[.slice a ls.length c] w (Gv (.bool (ls.all CxR.safe)) w) := by
  have C9 := Lib.hid (safe9_c kn a c ls w h hn hR)
  clear h hR
  generalize ls.all CxR.safe = b at *
  generalize ls.length = n at *
  go_enter Tryd.func7, Tryd.ntmps7
  go_wp2_with (go_at_call 9; (with_reducible refine C9.out.mono ?_); rintro e w2 ⟨rfl, b2⟩; replace b2 := Lib.hid b2)
  go_ret
  exact ⟨rfl, b2.out⟩
end Go.Proofs.YtacalmdjkgbhlaaDoor
