/- FnIsSafeSelectorsConcat: zzCloneGroups. -/
import Derived.Test.YtacalmdjkgbhlaaDoorIs6
import Derived.Lib.SliceRun
import Derived.WalkSpells
set_option linter.unusedVariables false
set_option linter.unusedSimpArgs false
namespace Go.Proofs.YtacalmdjkgbhlaaDoor
open Go.RowKit
theorem info26 : (Tryd.prog.info? 26).map (fun i => (i.zero.map (·.cells), i.size, i.bytes)) = some (some #[.slice none 0 0], 1, 24) := by kernel_rfl
theorem info32 : (Tryd.prog.info? 32).map (fun i => (i.zero.map (·.cells), i.size, i.bytes)) = some (some #[.int .u8 0, .int .u8 0, .int .u8 0, .bool false, .string ⟨#[]⟩, .slice none 0 0], 6, 48) := by kernel_rfl
theorem info34 : (Tryd.prog.info? 34).map (fun i => (i.zero.map (·.cells), i.size, i.bytes)) = some (some #[.int .u8 0, .int .u8 0, .string ⟨#[]⟩, .bool false, .bool false], 5, 32) := by kernel_rfl
theorem i32s (c : Cq) (a : Option Addr) (cc : Nat) : (Tryd.prog.info? 32).map (·.size) = some (CqL c a cc).length := by show _ = some 6; kernel_rfl
theorem i34s (s : Sb) : (Tryd.prog.info? 34).map (·.size) = some (SbL s).length := by show _ = some 5; kernel_rfl
theorem CqL.one (c : Cq) (a : Option Addr) (cc : Nat) : ∀ v ∈ CqL c a cc, v.oneCell' = true := by intro v hv; simp [CqL] at hv; rcases hv with rfl | rfl | rfl | rfl | rfl | rfl <;> rfl
theorem SbL.one (s : Sb) : ∀ v ∈ SbL s, v.oneCell' = true := by intro v hv; simp [SbL] at hv; rcases hv with rfl | rfl | rfl | rfl | rfl <;> rfl
theorem Below.setCellsB {B b : Nat} {w w' : World} (h : Below B w w') (hb : B ≤ b) : ∀ (vs : List Value) (o : Nat), Below B w (w'.setCells b o vs) := by
  intro vs
  induction vs generalizing w' with
  | nil => intro o; exact h
  | cons v r ih => intro o; rw [World.setCells]; exact ih (h.setCell hb _) _
theorem Kc.setCells {O : Nat → Prop} {w w' : World} {b : Nat} (h : Kc O w w') (hb : O b) : ∀ (vs : List Value) (o : Nat), Kc O w (w'.setCells b o vs) := by
  intro vs
  induction vs generalizing w' with
  | nil => intro o; exact h
  | cons v r ih =>
    intro o
    rw [World.setCells]
    exact ih (fun a u hc hn => by rw [co (by rintro rfl; exact hn hb)]; exact h a u hc hn) _
theorem Kc.setCell {O : Nat → Prop} {w w' : World} {p : Addr} (h : Kc O w w') (hb : O p.block) (v : Value) : Kc O w (w'.setCell p v) := fun a u hc hn => by rw [co (by rintro rfl; exact hn hb)]; exact h a u hc hn
/-- what the clone answers -/
def ClP (gs : List (List Cq)) (w : World) (e : Ending) (w' : World) : Prop := ∃ a c, e = .returned (.slice a gs.length c) ∧ (a = none → gs = [] ∧ c = 0) ∧ RG (fun b => b < w.heap.size) w' a gs ∧ Below w.heap.size w w'
def Cl2 (w : World) (P : Nat) (ss : List Sb) (k : Nat) : Prop := Room w P (ss.length * 5) ∧ ∀ k' s, k' < k → ss[k']? = some s → Seg w P (k' * 5) (SbL s)
def Cl1 (w : World) (P : Nat) (g : List Cq) (j : Nat) : Prop := Room w P (g.length * 6) ∧ ∀ j' c, j' < j → g[j']? = some c → ∃ a' c', Seg w P (j' * 6) (CqL c a' c') ∧ (a' = none → c.ss = [] ∧ c' = 0) ∧ RS (fun b => b ≤ P) w a' c.ss
def Cl0 (w : World) (P : Nat) (gs : List (List Cq)) (i : Nat) : Prop := Room w P gs.length ∧ (∀ i' g, i' < i → gs[i']? = some g → ∃ a' c', w.cell? ⟨P, i', none⟩ = some (.slice a' g.length c') ∧ (a' = none → g = [] ∧ c' = 0) ∧ RC (fun b => b ≤ P) w a' g) ∧ ∀ i', i ≤ i' → i' < gs.length → w.cell? ⟨P, i', none⟩ = some (.slice none 0 0)
theorem Cl2.step {w W : World} {P k : Nat} {ss : List Sb} {s : Sb} (h : Cl2 w P ss k) (hs : ss[k]? = some s) (hW : W = w.setCells P (k * 5) (SbL s)) : Cl2 W P ss (k + 1) := by
  subst hW
  have hk : k < ss.length := (List.getElem?_eq_some_iff.1 hs).1
  refine ⟨Room.setCells _ _ _ _ h.1, fun k' s' hk' hs' => ?_⟩
  by_cases e : k' = k
  · subst e; rw [hs] at hs'; cases hs'
    exact Seg.put h.1 (by show k' * 5 + 5 ≤ _; omega)
  · exact (h.2 k' s' (by omega) hs').far (by show k' * 5 + 5 ≤ k * 5 ∨ _; omega)
theorem Cl2.rs {w : World} {P : Nat} {ss : List Sb} {O : Nat → Prop} (h : Cl2 w P ss ss.length) (hO : ¬ O P) : RS O w (some ⟨P, 0, none⟩) ss := fun i s hi => ⟨P, 0, rfl, hO, by simpa using h.2 i s (List.getElem?_eq_some_iff.1 hi).1 hi⟩
theorem Cl1.step {w3 w6 W : World} {P j cz : Nat} {ca : Option Addr} {g : List Cq} {c : Cq} (h : Cl1 w3 P g j) (hc : g[j]? = some c) (hb : Below w3.heap.size w3 w6) (hP : P < w3.heap.size) (hW : W = w6.setCells P (j * 6) (CqL c ca cz)) (hz : ca = none → c.ss = [] ∧ cz = 0) (hr : RS (fun b => b ≤ P) w6 ca c.ss) : Cl1 W P g (j + 1) := by
  subst hW
  have hk : j < g.length := (List.getElem?_eq_some_iff.1 hc).1
  have hk2 : Kc (fun b => b ≤ P) w6 (w6.setCells P (j * 6) (CqL c ca cz)) := Kc.setCells (O := fun b => b ≤ P) (fun a v h _ => h) (Nat.le_refl _) _ _
  refine ⟨Room.setCells _ _ _ _ (h.1.after hb), fun j' c' hj' hc' => ?_⟩
  by_cases e : j' = j
  · subst e; rw [hc] at hc'; cases hc'
    exact ⟨ca, cz, Seg.put (h.1.after hb) (by show j' * 6 + 6 ≤ _; omega), hz, hr.keep hk2 (fun _ _ q => q)⟩
  · obtain ⟨a1, c1, h1, h2, h3⟩ := h.2 j' c' (by omega) hc'
    exact ⟨a1, c1, (h1.after hb).far (by show j' * 6 + 6 ≤ j * 6 ∨ _; omega), h2, (h3.after hb).keep hk2 (fun _ _ q => q)⟩
theorem Cl1.rc {w : World} {P : Nat} {g : List Cq} {O : Nat → Prop} (h : Cl1 w P g g.length) (hO : ¬ O P) (ho : ∀ b, O b → b ≤ P) (hs : ∀ c ∈ g, c.tn.size ≤ maxLen ∧ c.ss.length ≤ maxLen) : RC O w (some ⟨P, 0, none⟩) g := fun i c hi => by
  obtain ⟨a1, c1, h1, h2, h3⟩ := h.2 i c (List.getElem?_eq_some_iff.1 hi).1 hi
  exact ⟨P, 0, a1, c1, rfl, hO, by simpa using h1, h2, h3.keep (fun _ _ q _ => q) (fun b _ q => ho b q), hs c (List.mem_of_getElem? hi)⟩
theorem Cl0.skip {w w' : World} {P i : Nat} {gs : List (List Cq)} {g : List Cq} (h : Cl0 w P gs i) (hb : Below w.heap.size w w') (hg : gs[i]? = some g) (hz : g = []) : Cl0 w' P gs (i + 1) := by
  subst hz
  have hk : i < gs.length := (List.getElem?_eq_some_iff.1 hg).1
  refine ⟨h.1.after hb, fun i' g' hi' hg' => ?_, fun i' h1 h2 => ac hb (h.2.2 i' (by omega) h2)⟩
  by_cases e : i' = i
  · subst e; rw [hg] at hg'; cases hg'
    exact ⟨none, 0, ac hb (h.2.2 i' (by omega) hk), fun _ => ⟨rfl, rfl⟩, fun j c hj => by simp at hj⟩
  · obtain ⟨a1, c1, h1, h2, h3⟩ := h.2.1 i' g' (by omega) hg'
    exact ⟨a1, c1, ac hb h1, h2, h3.after hb⟩
theorem Cl0.step {w1 w6 : World} {P i cz : Nat} {x : Addr} {gs : List (List Cq)} {g : List Cq} (h : Cl0 w1 P gs i) (hg : gs[i]? = some g) (hb : Below w1.heap.size w1 w6) (hr : RC (fun b => b ≤ P) w6 (some x) g) : Cl0 (w6.setCell ⟨P, i, none⟩ (.slice (some x) g.length cz)) P gs (i + 1) := by
  have hk : i < gs.length := (List.getElem?_eq_some_iff.1 hg).1
  have hk2 : Kc (fun b => b ≤ P) w6 (w6.setCell ⟨P, i, none⟩ (.slice (some x) g.length cz)) := Kc.setCell (O := fun b => b ≤ P) (fun a v h _ => h) (Nat.le_refl _) _
  refine ⟨(h.1.after hb).set _ _, fun i' g' hi' hg' => ?_, fun i' h1 h2 => by rw [co (by intro e; injection e; omega)]; exact ac hb (h.2.2 i' (by omega) h2)⟩
  by_cases e : i' = i
  · subst e; rw [hg] at hg'; cases hg'
    exact ⟨some x, cz, cs (ac hb (h.2.2 i' (by omega) hk)), (fun q => by cases q), hr.keep hk2 (fun _ _ q => q)⟩
  · obtain ⟨a1, c1, h1, h2, h3⟩ := h.2.1 i' g' (by omega) hg'
    exact ⟨a1, c1, by rw [co (by intro e; injection e; omega)]; exact ac hb h1, h2, (h3.after hb).keep hk2 (fun _ _ q => q)⟩
theorem Cl0.rg {w : World} {P : Nat} {gs : List (List Cq)} (h : Cl0 w P gs gs.length) (hm : ∀ g ∈ gs, g.length ≤ maxLen) : RG (fun b => b < P) w (some ⟨P, 0, none⟩) gs := fun i g hi => by
  obtain ⟨a1, c1, h1, h2, h3⟩ := h.2.1 i g (List.getElem?_eq_some_iff.1 hi).1 hi
  exact ⟨P, 0, a1, c1, rfl, by omega, by simpa using h1, h2, h3.keep (fun _ _ q _ => q) (fun b _ q => by show b ≤ P; have : b < P := q; omega), hm g (List.mem_of_getElem? hi)⟩
set_option maxRecDepth 100000 in
set_option maxHeartbeats 4000000 in
theorem clone_c (gs : List (List Cq)) (a : Option Addr) (cc : Nat) (O : Nat → Prop) (w : World) (h : RG O w a gs) (hnil : a = none → gs = [] ∧ cc = 0) (hn : gs.length ≤ 1048576) (hin : ∀ g ∈ gs, Bc g) : Calls Tryd.prog 6 #[.slice a gs.length cc] w (ClP gs w) := by
  cases a with
  | none =>
    obtain ⟨rfl, rfl⟩ := hnil rfl
    clear h hn hin hnil
    have q22 := fun W => Lib.run_eql_slice_nil (P := Tryd.prog) W 22 26 none 0 0 0 0 Tryd.underlying22
    go_enter Tryd.func6, Tryd.ntmps6
    go_wp2
    go_ret
    exact ⟨none, 0, rfl, fun _ => ⟨rfl, rfl⟩, fun i g hi => by simp at hi, Below.refl _ _⟩
  | some x0 =>
  have H := Lib.hid h
  have HI := Lib.hid hin
  obtain ⟨n, hnn⟩ : ∃ n, gs.length = n := ⟨_, rfl⟩
  rw [hnn] at hn ⊢
  replace hnn := Lib.hid hnn
  have m22 := make_z (P := Tryd.prog) #[.slice none 0 0] Tryd.underlying22 info26 n (by omega) (by omega)
  simp only [Nat.mul_one] at m22
  clear h hin hnil
  have q22 := fun W => Lib.run_eql_slice_nil (P := Tryd.prog) W 22 26 (some x0) n cc 0 0 Tryd.underlying22
  have q26 := fun W A n c => Lib.run_eql_slice_nil (P := Tryd.prog) W 26 32 A n c 0 0 Tryd.underlying26
  have q30 := fun W A n c => run_neq_slice_nil_any (P := Tryd.prog) W 30 34 A n c 0 0 Tryd.underlying30
  go_enter Tryd.func6, Tryd.ntmps6
  go_upto_region 4 with fail
  clear m22
  refine wp_gen (fun W hW => ?_)
  have h0 : Hid (Cl0 W w.heap.size gs 0) := Lib.hid ⟨by rw [hW, hnn.out]; exact Room.made _ _ _ _, fun i' g hi' => by omega, fun i' _ hi => by rw [hW, made_at _ _ _ _ _ (by rw [← hnn.out]; exact hi)]; simp [Nat.mod_one]⟩
  have bW : Hid (Below w.heap.size w W) := Lib.hid (by rw [hW]; exact ba _ _)
  have zW : Hid (w.heap.size < W.heap.size) := Lib.hid (by rw [hW]; simp [go_sem])
  clear hW
  go_wp2
  go_loopw [4] (fun v wr => ∃ i : Nat, i ≤ n ∧ v = .int .i64 i ∧ Cl0 wr w.heap.size gs i ∧ Below w.heap.size w wr ∧ w.heap.size < wr.heap.size) (fun v _ => n - (intOf v).toNat)
  case atStart => exact ⟨0, by omega, rfl, h0.out, bW.out, zW.out⟩
  case round =>
    clear h0 bW zW
    obtain ⟨i, hi, rfl, h0, hB, hz0⟩ := hrel
    obtain ⟨w1, rfl⟩ : ∃ w1 : World, w1 = wr := ⟨_, rfl⟩
    replace h0 := Lib.hid h0
    replace hB := Lib.hid hB
    replace hz0 := Lib.hid hz0
    by_cases hlt : i < n
    · obtain ⟨g, hg⟩ : ∃ g, gs[i]? = some g := ⟨_, List.getElem?_eq_getElem (by rw [hnn.out]; exact hlt)⟩
      obtain ⟨ab, ao, a', c', hx0, -, hc, hz, hRC, hgm⟩ := (H.out.after hB.out) i g hg
      cases hx0
      obtain ⟨hgn, hgs⟩ := HI.out g (List.mem_of_getElem? hg)
      replace hgs := Lib.hid hgs
      replace hg := Lib.hid hg
      have i0 : (0 : Int) ≤ i := by omega
      have i1 : (i : Int) < n := by omega
      cases a' with
      | none =>
        obtain ⟨hge, rfl⟩ := hz rfl
        have hl0 : g.length = 0 := by rw [hge]; rfl
        rw [hl0] at hc
        replace hge := Lib.hid hge
        clear hRC hgm hgn hl0 hz
        go_wp2
        go_roundw
        case rel => exact ⟨i + 1, by omega, by go_num, h0.out.skip (Below.refl _ _) hg.out hge.out, hB.out, hz0.out⟩
        case measure => simp [intOf]; omega
      | some x' =>
      replace hRC := Lib.hid hRC
      clear hz
      obtain ⟨m, hmm⟩ : ∃ m, g.length = m := ⟨_, rfl⟩
      rw [hmm] at hc hgn hgm
      replace hmm := Lib.hid hmm
      have c00 := Lib.hid (h0.out.2.2 i (Nat.le_refl _) (by rw [hnn.out]; exact hlt))
      have m26 := make_z (P := Tryd.prog) #[.int .u8 0, .int .u8 0, .int .u8 0, .bool false, .string ⟨#[]⟩, .slice none 0 0] Tryd.underlying26 info32 m (by omega) (by omega)
      clear hgm
      go_upto_region 9 with fail
      clear m26
      refine wp_gen (fun w2 hW => ?_)
      have h1 : Hid (Cl1 w2 w1.heap.size g 0) := Lib.hid ⟨by rw [hW, hmm.out]; exact Room.made _ _ _ _, fun j' c hj' => by omega⟩
      have b2 : Hid (Below w1.heap.size w1 w2) := Lib.hid (by rw [hW]; exact ba _ _)
      have z2 : Hid (w1.heap.size < w2.heap.size) := Lib.hid (by rw [hW]; simp [go_sem])
      have hcR := Lib.hid hc
      clear hW hc
      go_wp2
      go_loopw [6] (fun v wr => ∃ j : Nat, j ≤ m ∧ v = .int .i64 j ∧ Cl1 wr w1.heap.size g j ∧ Below w1.heap.size w1 wr ∧ w1.heap.size < wr.heap.size) (fun v _ => m - (intOf v).toNat)
      case atStart => exact ⟨0, by omega, rfl, h1.out, b2.out, z2.out⟩
      case round =>
        clear h1 b2 z2
        obtain ⟨j, hj, rfl, h1, hBj, hz1⟩ := hrel
        obtain ⟨w3, rfl⟩ : ∃ w3 : World, w3 = wr := ⟨_, rfl⟩
        have B3 : Hid (Below w.heap.size w w3) := Lib.hid (hB.out.trans (hBj.mono hB.out.size))
        replace h1 := Lib.hid h1
        replace hBj := Lib.hid hBj
        replace hz1 := Lib.hid hz1
        have hc := ac hBj.out hcR.out
        by_cases hltj : j < m
        · obtain ⟨c, hcq⟩ : ∃ c, g[j]? = some c := ⟨_, List.getElem?_eq_getElem (by rw [hmm.out]; exact hltj)⟩
          obtain ⟨gb, go, ca, cz, hx', -, hs, hz, hRS, htn, -⟩ := (hRC.out.after hBj.out) j c hcq
          cases hx'
          have hss := hgs.out c (List.mem_of_getElem? hcq)
          replace hcq := Lib.hid hcq
          have d5 : w3.cell? ⟨gb, go + j * 6 + 5, none⟩ = some (.slice ca c.ss.length cz) := by simpa using hs 5 _ rfl
          have d0 : w3.cell? ⟨gb, go + j * 6, none⟩ = some (.int .u8 c.ne) := by simpa using hs 0 _ rfl
          have d1 : w3.cell? ⟨gb, go + j * 6 + 1, none⟩ = some (.int .u8 c.co) := by simpa using hs 1 _ rfl
          have d2 : w3.cell? ⟨gb, go + j * 6 + 2, none⟩ = some (.int .u8 c.tk) := by simpa using hs 2 _ rfl
          have d3 : w3.cell? ⟨gb, go + j * 6 + 3, none⟩ = some (.bool c.pf) := by simpa using hs 3 _ rfl
          have d4 : w3.cell? ⟨gb, go + j * 6 + 4, none⟩ = some (.string c.tn) := by simpa using hs 4 _ rfl
          have j0 : (0 : Int) ≤ j := by omega
          have j1 : (j : Int) < m := by omega
          replace hRS := Lib.hid hRS
          clear htn hs
          cases ca with
          | none =>
            obtain ⟨hse, rfl⟩ := hz rfl
            have hl0 : c.ss.length = 0 := by rw [hse]; rfl
            rw [hl0] at d5
            have hCq : Hid (([.int .u8 c.ne, .int .u8 c.co, .int .u8 c.tk, .bool c.pf, .string c.tn, .slice none 0 0] : List Value) = CqL c none 0) := Lib.hid (by rw [CqL, hl0])
            replace hse := Lib.hid hse
            clear hss hl0 hz
            go_upto_region 13 with fail
            refine wp_gen (fun w4 hW => ?_)
            have b4 : Hid (Below w3.heap.size w3 w4) := Lib.hid (by rw [hW]; exact ba _ _)
            have e0 : w4.cell? ⟨w3.heap.size, 0, none⟩ = some (.int .u8 c.ne) := by rw [hW]; simp [go_sem]
            have e1 : w4.cell? ⟨w3.heap.size, 1, none⟩ = some (.int .u8 c.co) := by rw [hW]; simp [go_sem]
            have e2 : w4.cell? ⟨w3.heap.size, 2, none⟩ = some (.int .u8 c.tk) := by rw [hW]; simp [go_sem]
            have e3 : w4.cell? ⟨w3.heap.size, 3, none⟩ = some (.bool c.pf) := by rw [hW]; simp [go_sem]
            have e4 : w4.cell? ⟨w3.heap.size, 4, none⟩ = some (.string c.tn) := by rw [hW]; simp [go_sem]
            have e5 : w4.cell? ⟨w3.heap.size, 5, none⟩ = some (.slice none 0 0) := by rw [hW]; simp [go_sem]
            have ef : w4.frozen? ⟨w3.heap.size, 5, none⟩ = false := by rw [hW]; simp [go_sem]
            have hP7 : Hid (w3.heap.size < w4.heap.size) := Lib.hid (by rw [hW]; simp [go_sem])
            clear hW d0 d1 d2 d3 d4 d5
            have rm4 := Lib.hid (h1.out.1.after b4.out)
            rw [hmm.out] at rm4
            go_wp2_with ((with_reducible refine wpList_at (o := ⟨none, .store 32 (.tmp 75) (.tmp 74), _, _, _, _⟩) ?_); refine wpList_store_room (op := ⟨none, .store 32 (.tmp 75) (.tmp 74), _, _, _, _⟩) rfl 32 (.tmp 75) (.tmp 74) rfl w1.heap.size (j * 6) (m * 6) ([.int .u8 c.ne, .int .u8 c.co, .int .u8 c.tk, .bool c.pf, .string c.tn, .slice none 0 0]) rm4.out (by show j * 6 + 6 ≤ m * 6; omega) rfl rfl (i32s c none 0) (by rw [hCq.out]; exact CqL.one c none 0) ?_; intro w7 hW7; replace hW7 := Lib.hid hW7)
            go_roundw
            case rel =>
              have e7 := hW7.out
              rw [hCq.out] at e7
              exact ⟨j + 1, by omega, by go_num, h1.out.step hcq.out b4.out hz1.out e7 (fun _ => ⟨hse.out, rfl⟩) (fun i s hi => by rw [hse.out] at hi; simp at hi), by rw [e7]; exact Below.setCellsB (hBj.out.trans (b4.out.mono hBj.out.size)) (Nat.le_refl _) _ _, by rw [e7, setCells_size]; exact Nat.lt_of_lt_of_le hz1.out b4.out.size⟩
            case measure => simp [intOf]; omega
          | some xs =>
            clear hz
            obtain ⟨nS, hnS⟩ : ∃ y, c.ss.length = y := ⟨_, rfl⟩
            rw [hnS] at d5 hss
            replace hnS := Lib.hid hnS
            have m30 := make_z (P := Tryd.prog) #[.int .u8 0, .int .u8 0, .string ⟨#[]⟩, .bool false, .bool false] Tryd.underlying30 info34 nS (by omega) (by omega)
            go_upto_region 13 with fail
            refine wp_gen (fun w4 hW => ?_)
            have b4 : Hid (Below w3.heap.size w3 w4) := Lib.hid (by rw [hW]; exact ba _ _)
            have e0 : w4.cell? ⟨w3.heap.size, 0, none⟩ = some (.int .u8 c.ne) := by rw [hW]; simp [go_sem]
            have e1 : w4.cell? ⟨w3.heap.size, 1, none⟩ = some (.int .u8 c.co) := by rw [hW]; simp [go_sem]
            have e2 : w4.cell? ⟨w3.heap.size, 2, none⟩ = some (.int .u8 c.tk) := by rw [hW]; simp [go_sem]
            have e3 : w4.cell? ⟨w3.heap.size, 3, none⟩ = some (.bool c.pf) := by rw [hW]; simp [go_sem]
            have e4 : w4.cell? ⟨w3.heap.size, 4, none⟩ = some (.string c.tn) := by rw [hW]; simp [go_sem]
            have e5 : w4.cell? ⟨w3.heap.size, 5, none⟩ = some (.slice (some xs) nS cz) := by rw [hW]; simp [go_sem]
            have ef : w4.frozen? ⟨w3.heap.size, 5, none⟩ = false := by rw [hW]; simp [go_sem]
            have hP7 : Hid (w3.heap.size < w4.heap.size) := Lib.hid (by rw [hW]; simp [go_sem])
            clear hW d0 d1 d2 d3 d4 d5
            go_upto_region 15 with fail
            clear m30
            refine wp_gen (fun w5 hW => ?_)
            have b5 : Hid (Below w4.heap.size w4 w5) := Lib.hid (by rw [hW]; exact ba _ _)
            have h2 : Hid (Cl2 w5 w4.heap.size c.ss 0) := Lib.hid ⟨by rw [hW, hnS.out]; exact Room.made _ _ _ _, fun k' s hk' => by omega⟩
            have z5 : Hid (w4.heap.size < w5.heap.size) := Lib.hid (by rw [hW]; simp [go_sem])
            clear hW
            have B5 : Hid (Below w3.heap.size w3 w5) := Lib.hid (b4.out.trans (b5.out.mono b4.out.size))
            go_wp2
            go_loopw [9] (fun v wr => ∃ k : Nat, k ≤ nS ∧ v = .int .i64 k ∧ Cl2 wr w4.heap.size c.ss k ∧ Below w4.heap.size w4 wr) (fun v _ => nS - (intOf v).toNat)
            case atStart => exact ⟨0, by omega, rfl, h2.out, b5.out⟩
            case round =>
              clear h2 b5 B5 z5
              obtain ⟨k, hk, rfl, h2, hBk⟩ := hrel
              obtain ⟨w5, rfl⟩ : ∃ w5 : World, w5 = wr := ⟨_, rfl⟩
              have B5 : Hid (Below w3.heap.size w3 w5) := Lib.hid (b4.out.trans (hBk.mono b4.out.size))
              have f0 := ac hBk e0
              have f1 := ac hBk e1
              have f2 := ac hBk e2
              have f3 := ac hBk e3
              have f4 := ac hBk e4
              have f5 := ac hBk e5
              have ff := af hBk e5 ef
              replace h2 := Lib.hid h2
              replace hBk := Lib.hid hBk
              by_cases hltk : k < nS
              · obtain ⟨sb, hsb⟩ : ∃ sb, c.ss[k]? = some sb := ⟨_, List.getElem?_eq_getElem (by rw [hnS.out]; exact hltk)⟩
                obtain ⟨xb, xo, hax, -, hx⟩ := (hRS.out.after B5.out) k sb hsb
                cases hax
                have g0 : w5.cell? ⟨xb, xo + k * 5, none⟩ = some (.int .u8 sb.k) := by simpa using hx 0 _ rfl
                have g1 : w5.cell? ⟨xb, xo + k * 5 + 1, none⟩ = some (.int .u8 sb.m) := by simpa using hx 1 _ rfl
                have g2 : w5.cell? ⟨xb, xo + k * 5 + 2, none⟩ = some (.string sb.nm) := by simpa using hx 2 _ rfl
                have g3 : w5.cell? ⟨xb, xo + k * 5 + 3, none⟩ = some (.bool sb.ha) := by simpa using hx 3 _ rfl
                have g4 : w5.cell? ⟨xb, xo + k * 5 + 4, none⟩ = some (.bool sb.el) := by simpa using hx 4 _ rfl
                have k0 : (0 : Int) ≤ k := by omega
                have k1 : (k : Int) < nS := by omega
                have rm5 := Lib.hid h2.out.1
                rw [hnS.out] at rm5
                replace hsb := Lib.hid hsb
                clear hx
                go_wp2_with ((with_reducible refine wpList_at (o := ⟨none, .store 34 (.tmp 69) (.tmp 68), _, _, _, _⟩) ?_); refine wpList_store_room (op := ⟨none, .store 34 (.tmp 69) (.tmp 68), _, _, _, _⟩) rfl 34 (.tmp 69) (.tmp 68) rfl w4.heap.size (k * 5) (nS * 5) (SbL sb) rm5.out (by show k * 5 + 5 ≤ nS * 5; omega) rfl rfl (i34s sb) (SbL.one sb) ?_; intro w6 hW6; replace hW6 := Lib.hid hW6)
                go_roundw
                case rel => exact ⟨k + 1, by omega, by go_num, h2.out.step hsb.out hW6.out, by rw [hW6.out]; exact Below.setCellsB hBk.out (Nat.le_refl _) _ _⟩
                case measure => simp [intOf]; omega
              · obtain rfl : nS = k := by omega
                have hR5 : Hid (RS (fun b => b < w4.heap.size) w5 (some ⟨w4.heap.size, 0, none⟩) c.ss) := Lib.hid (Cl2.rs (by rw [hnS.out]; exact h2.out) (by show ¬ _ < _; omega))
                have hCq : Hid (([.int .u8 c.ne, .int .u8 c.co, .int .u8 c.tk, .bool c.pf, .string c.tn, .slice (some ⟨w4.heap.size, 0, none⟩) nS nS] : List Value) = CqL c (some ⟨w4.heap.size, 0, none⟩) nS) := Lib.hid (by rw [CqL, hnS.out])
                clear e0 e1 e2 e3 e4 e5 ef
                go_upto_region 20 with fail
                refine wp_gen (fun w6 hW => ?_)
                have e0 : w6.cell? ⟨w3.heap.size, 0, none⟩ = some (.int .u8 c.ne) := by rw [hW, co (by simp)]; exact f0
                have e1 : w6.cell? ⟨w3.heap.size, 1, none⟩ = some (.int .u8 c.co) := by rw [hW, co (by simp)]; exact f1
                have e2 : w6.cell? ⟨w3.heap.size, 2, none⟩ = some (.int .u8 c.tk) := by rw [hW, co (by simp)]; exact f2
                have e3 : w6.cell? ⟨w3.heap.size, 3, none⟩ = some (.bool c.pf) := by rw [hW, co (by simp)]; exact f3
                have e4 : w6.cell? ⟨w3.heap.size, 4, none⟩ = some (.string c.tn) := by rw [hW, co (by simp)]; exact f4
                have e5 : w6.cell? ⟨w3.heap.size, 5, none⟩ = some (.slice (some ⟨w4.heap.size, 0, none⟩) nS nS) := by rw [hW]; exact cs f5
                have b6 : Hid (Below w3.heap.size w3 w6) := Lib.hid (by rw [hW]; exact B5.out.setCell (Nat.le_refl _) _)
                have hR6 : Hid (RS (fun b => b < w4.heap.size) w6 (some ⟨w4.heap.size, 0, none⟩) c.ss) := Lib.hid (hR5.out.keep (Kc.setCell (p := ⟨w3.heap.size, 5, none⟩) (O := fun b => b < w4.heap.size) (fun _ _ q _ => q) hP7.out _ |> fun q => by rw [hW]; exact q) (fun _ _ q => q))
                clear hW f0 f1 f2 f3 f4 f5 ff hR5
                have rm6 := Lib.hid (h1.out.1.after b6.out)
                rw [hmm.out] at rm6
                go_wp2_with ((with_reducible refine wpList_at (o := ⟨none, .store 32 (.tmp 75) (.tmp 74), _, _, _, _⟩) ?_); refine wpList_store_room (op := ⟨none, .store 32 (.tmp 75) (.tmp 74), _, _, _, _⟩) rfl 32 (.tmp 75) (.tmp 74) rfl w1.heap.size (j * 6) (m * 6) ([.int .u8 c.ne, .int .u8 c.co, .int .u8 c.tk, .bool c.pf, .string c.tn, .slice (some ⟨w4.heap.size, 0, none⟩) nS nS]) rm6.out (by show j * 6 + 6 ≤ m * 6; omega) rfl rfl (i32s c none 0) (by rw [hCq.out]; exact CqL.one c _ _) ?_; intro w7 hW7; replace hW7 := Lib.hid hW7)
                go_roundw
                case rel =>
                  have e7 := hW7.out
                  rw [hCq.out] at e7
                  exact ⟨j + 1, by omega, by go_num, h1.out.step hcq.out b6.out hz1.out e7 (fun q => by cases q) (hR6.out.keep (fun _ _ q _ => q) (fun b _ q => by have h1' : b ≤ w1.heap.size := q; have := hz1.out; have := hP7.out; show b < _; omega)), by rw [e7]; exact Below.setCellsB (hBj.out.trans (b6.out.mono hBj.out.size)) (Nat.le_refl _) _ _, by rw [e7, setCells_size]; exact Nat.lt_of_lt_of_le hz1.out b6.out.size⟩
                case measure => simp [intOf]; omega
        · obtain rfl : m = j := by omega
          have hR3 : Hid (RC (fun b => b ≤ w.heap.size) w3 (some ⟨w1.heap.size, 0, none⟩) g) := Lib.hid (Cl1.rc (by rw [hmm.out]; exact h1.out) (by show ¬ _ ≤ _; have := hz0.out; omega) (fun b q => by have := hz0.out; have q' : b ≤ w.heap.size := q; omega) (fun c hc => by
            obtain ⟨q, hq, hqc⟩ := List.getElem_of_mem hc
            obtain ⟨gb, go, ca, cz, -, -, -, -, -, h8, h9⟩ := hRC.out q c (by rw [List.getElem?_eq_getElem hq, hqc])
            exact ⟨h8, h9⟩))
          have rm3 := (h0.out.1.after hBj.out) i (by rw [hnn.out]; exact hlt)
          have cz3 := ac hBj.out c00.out
          have fz3 := af hBj.out c00.out (by obtain ⟨u, -, q⟩ := h0.out.1 i (by rw [hnn.out]; exact hlt); exact q)
          clear rm3
          go_wp2
          go_roundw
          case rel => exact ⟨i + 1, by omega, by go_num, by
            have := h0.out.step (cz := m) hg.out hBj.out hR3.out
            rw [hmm.out] at this
            exact this, (hB.out.trans (hBj.out.mono hB.out.size)).setCell (Nat.le_refl _) _, by simp [World.setCell]; exact Nat.lt_trans hz0.out hz1.out⟩
          case measure => simp [intOf]; omega
    · obtain rfl : n = i := by omega
      go_wp2
      go_ret
      refine ⟨some ⟨w.heap.size, 0, none⟩, n, by rw [hnn.out]; rfl, (fun q => by cases q), Cl0.rg (by rw [hnn.out]; exact h0.out) (fun g hg => by
        obtain ⟨q, hq, hqc⟩ := List.getElem_of_mem hg
        obtain ⟨-, -, -, -, -, -, -, -, -, h9⟩ := H.out q g (by rw [List.getElem?_eq_getElem hq, hqc])
        exact h9), hB.out⟩
end Go.Proofs.YtacalmdjkgbhlaaDoor
