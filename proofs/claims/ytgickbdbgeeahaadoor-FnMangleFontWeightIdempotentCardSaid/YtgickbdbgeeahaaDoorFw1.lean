/- mangleFontWeight, given what strings.ToLower answers. -/
import Derived.Test.YtgickbdbgeeahaaDoorRows
import Derived.Test.YtgickbdbgeeahaaDoorAn
import Derived.WalkKit
import Derived.ProofKit
import Derived.OpenShut
import Derived.Below
import Derived.Outline
import Derived.Lib.Hide
import Derived.Deep.Cut
import Derived.LoopTactic
import Derived.WalkSpells
import Derived.Deep.QuietTactic
import Derived.BigQuiet
set_option linter.unusedVariables false
set_option linter.unusedSimpArgs false
namespace Go.Proofs.YtgickbdbgeeahaaDoor
open Go.RowKit
set_option maxRecDepth 100000
set_option maxHeartbeats 4000000
abbrev tkv (k : Int) (s : ByteArray) : Value := .agg #[.pointer none, .string s, .int .i32 0, .int .u32 0, .int .u16 0, .int .u8 k, .int .u8 0]
abbrev nrm : ByteArray := ⟨#[110, 111, 114, 109, 97, 108]⟩
abbrev bld : ByteArray := ⟨#[98, 111, 108, 100]⟩
/-- what strings.ToLower answers from w on -/
def Low (low : ByteArray → ByteArray) (w : World) : Prop := ∀ s w', s.size ≤ 1048576 → Below w.heap.size w w' → Calls Tryd.prog 7 #[.string s] w' (fun e w2 => e = .returned (.string (low s)) ∧ Below w'.heap.size w' w2)
abbrev isN (L : ByteArray) : Bool := L.toList == [110, 111, 114, 109, 97, 108]
abbrev isB (L : ByteArray) : Bool := L.toList == [98, 111, 108, 100]
def mK (low : ByteArray → ByteArray) (k : Int) (s : ByteArray) : Int := if k = 29 then (if isN (low s) = true then 30 else if isB (low s) = true then 30 else 29) else k
def mT (low : ByteArray → ByteArray) (k : Int) (s : ByteArray) : ByteArray := if k = 29 then (if isN (low s) = true then ⟨#[52, 48, 48]⟩ else if isB (low s) = true then ⟨#[55, 48, 48]⟩ else s) else s
def Gives (v : Value) (w : World) (e : Ending) (w' : World) : Prop := e = .returned v ∧ Below w.heap.size w w'
theorem mangle6_c (low : ByteArray → ByteArray) (p : Value) (k : Int) (s : ByteArray) (w : World) (hL : Low low w) (hs : s.size ≤ 1048576) (h0 : 0 ≤ k) (h1 : k ≤ 255) : Calls Tryd.prog 6 #[p, tkv k s] w (Gives (tkv (mK low k s) (mT low k s)) w) := by
  by_cases hk : k = 29
  · subst hk
    have hL' := Lib.hid (fun w' hb => hL s w' hs hb)
    clear hL
    go_enter Tryd.func6, Tryd.ntmps6
    go_upto_region 3 with fail
    refine wp_gen (fun W hW => ?_)
    have hbW : Below w.heap.size w W := by rw [hW]; exact (ba _ _).alloc (by simp) _
    have hV : Hid (W.ownsRow w.heap.size 75 7 (.slice (some ⟨w.heap.size, 0, none⟩) 1 1) 1 [.pointer none, .string s, .int .i32 0, .int .u32 0, .int .u16 0, .int .u8 29, .int .u8 0]) := Lib.hid (by rw [hW]; exact (World.ownsRow_lit w #[.pointer none, .string s, .int .i32 0, .int .u32 0, .int .u16 0, .int .u8 29, .int .u8 0] 1 (Nat.le_refl _) (by decide) rfl).alloc _)
    have hR : Hid (W.ownsRow w.heap.size 75 7 (.slice (some ⟨w.heap.size + 1, 0, none⟩) 1 1) 1 [.pointer none, .string ⟨#[]⟩, .int .i32 0, .int .u32 0, .int .u16 0, .int .u8 0, .int .u8 0]) := Lib.hid (by
      rw [hW]
      have := World.ownsRow_lit (base := w.heap.size) (e := 75) (size := 7) (w.alloc (.cells #[.pointer none, .string s, .int .i32 0, .int .u32 0, .int .u16 0, .int .u8 29, .int .u8 0] 75)) #[.pointer none, .string ⟨#[]⟩, .int .i32 0, .int .u32 0, .int .u16 0, .int .u8 0, .int .u8 0] 1 (by simp) (by decide) rfl
      simp only [World.alloc, Array.size_push] at this ⊢
      exact this)
    clear hW
    have D := Lib.hid (hL'.out W hbW)
    replace hbW := Lib.hid hbW
    clear hL'
    have e1 : W.cell? ⟨w.heap.size, 1, none⟩ = some (.string s) := hV.out.cellAt 1 (by omega)
    have hz : w.heap.size ≤ W.heap.size := hbW.out.size
    generalize hP : w.heap.size = P at *
    replace hP := Lib.hid hP
    go_upto_region 4 with (go_at_call 7; (with_reducible refine D.out.mono ?_); rintro e w2 ⟨rfl, hb⟩; replace hV := Lib.hid ((Kp.of (S := fun _ => False) hb).own hV.out (fun _ _ q => q)); replace hR := Lib.hid ((Kp.of (S := fun _ => False) hb).own hR.out (fun _ _ q => q)); replace hbW := Lib.hid (hbW.out.trans (hb.mono hz)); clear hb)
    clear e1 D
    have hKT : ∀ v, Value.agg #[.pointer none, .string (if isN (low s) = true then ⟨#[52, 48, 48]⟩ else if isB (low s) = true then ⟨#[55, 48, 48]⟩ else s), .int .i32 0, .int .u32 0, .int .u16 0, .int .u8 (if isN (low s) = true then 30 else if isB (low s) = true then 30 else 29), .int .u8 0] = v → v = tkv (mK low 29 s) (mT low 29 s) := fun v h => by rw [← h]; simp [mK, mT, tkv]
    replace hKT := Lib.hid hKT
    generalize low s = L at *
    have c : ∀ j, j < 7 → w2.frozen? ⟨P, j, none⟩ = false := fun j hj => hV.out.frozenAt j
    have c' : ∀ j, j < 7 → w2.frozen? ⟨P + 1, j, none⟩ = false := fun j hj => hR.out.frozenAt j
    have e0 := hV.out.cellAt 0 (by omega); have e1 := hV.out.cellAt 1 (by omega); have e2 := hV.out.cellAt 2 (by omega); have e3 := hV.out.cellAt 3 (by omega); have e4 := hV.out.cellAt 4 (by omega); have e5 := hV.out.cellAt 5 (by omega); have e6 := hV.out.cellAt 6 (by omega)
    have g0 := hR.out.cellAt 0 (by omega); have g1 := hR.out.cellAt 1 (by omega); have g2 := hR.out.cellAt 2 (by omega); have g3 := hR.out.cellAt 3 (by omega); have g4 := hR.out.cellAt 4 (by omega); have g5 := hR.out.cellAt 5 (by omega); have g6 := hR.out.cellAt 6 (by omega)
    simp only [List.getElem?_cons_succ, List.getElem?_cons_zero] at e0 e1 e2 e3 e4 e5 e6 g0 g1 g2 g3 g4 g5 g6
    have f1 := c 1 (by omega); have f5 := c 5 (by omega)
    have h0 := c' 0 (by omega); have h1 := c' 1 (by omega); have h2 := c' 2 (by omega); have h3 := c' 3 (by omega); have h4 := c' 4 (by omega); have h5 := c' 5 (by omega); have h6 := c' 6 (by omega)
    clear c c' hV hR
    go_wp2_with fail
    all_goals
      first
        | (have t1 : isN L = true := by assumption
           have e := hKT.out (tkv 30 ⟨#[52, 48, 48]⟩) (by rw [if_pos t1, if_pos t1])
           rw [← e]
           refine bodyPost_ret (v := tkv 30 ⟨#[52, 48, 48]⟩) (by simp [results, Tryd.results6, go_sem, *]) rfl ⟨rfl, ?_⟩)
        | (have t1 : isN L = false := by assumption
           have t2 : isB L = true := by assumption
           have e := hKT.out (tkv 30 ⟨#[55, 48, 48]⟩) (by rw [if_neg (by simp [t1]), if_pos t2, if_neg (by simp [t1]), if_pos t2])
           rw [← e]
           refine bodyPost_ret (v := tkv 30 ⟨#[55, 48, 48]⟩) (by simp [results, Tryd.results6, go_sem, *]) rfl ⟨rfl, ?_⟩)
        | (have t1 : isN L = false := by assumption
           have t2 : isB L = false := by assumption
           have e := hKT.out (tkv 29 s) (by rw [if_neg (by simp [t1]), if_neg (by simp [t2]), if_neg (by simp [t1]), if_neg (by simp [t2])])
           rw [← e]
           refine bodyPost_ret (v := tkv 29 s) (by simp [results, Tryd.results6, go_sem, *]) rfl ⟨rfl, ?_⟩)
    all_goals (rw [hP.out]; repeat (refine Below.setCell ?_ (by simp) _))
    all_goals exact hbW.out
  · have hm : mK low k s = k := by unfold mK; rw [if_neg hk]
    have ht : mT low k s = s := by unfold mT; rw [if_neg hk]
    rw [hm, ht]
    clear hm ht hL
    have t0 : (k != 29) = true := by simpa using hk
    clear hk
    go_enter Tryd.func6, Tryd.ntmps6
    go_wp2_with fail
    exact bodyPost_ret (v := tkv k s) (by simp [results, Tryd.results6, go_sem]) rfl ⟨rfl, (ba _ _).alloc (by simp) _⟩
theorem zz5_c (low : ByteArray → ByteArray) (k : Int) (s : ByteArray) (w : World) (hL : Low low w) (hs : s.size ≤ 1048576) (h0 : 0 ≤ k) (h1 : k ≤ 255) : Calls Tryd.prog 5 #[.int .u8 k, .string s] w (Gives (.tuple #[.int .u8 (mK low k s), .string (mT low k s)]) w) := by
  have D := Lib.hid (fun w' (hb : Below w.heap.size w w') p => mangle6_c low p k s w' (fun s' w2 hs' hb2 => hL s' w2 hs' (hb.trans (hb2.mono hb.size))) hs h0 h1)
  clear hL
  go_enter Tryd.func5, Tryd.ntmps5
  go_upto_region 2 with fail
  refine wp_gen (fun W hW => ?_)
  have hbW : Below w.heap.size w W := by rw [hW]; exact ba _ _
  clear hW
  replace D := Lib.hid (D.out W hbW)
  replace hbW := Lib.hid hbW
  go_upto_region 3 with (go_at_call 6; (with_reducible refine (D.out _).mono ?_); rintro e w2 ⟨rfl, hb⟩; replace hbW := Lib.hid (hbW.out.trans (hb.mono hbW.out.size)); clear hb)
  refine wp_gen (fun W3 hW => ?_)
  have hb3 : Below w2.heap.size w2 W3 := by rw [hW]; exact ba _ _
  have e1 : W3.cell? ⟨w2.heap.size, 1, none⟩ = some (.string (mT low k s)) := by rw [hW]; simp [go_sem]
  have e5 : W3.cell? ⟨w2.heap.size, 5, none⟩ = some (.int .u8 (mK low k s)) := by rw [hW]; simp [go_sem]
  clear hW
  have hB := Lib.hid (hbW.out.trans (hb3.mono hbW.out.size))
  clear hb3 D hbW
  go_quiet (fail)
  go_wp2_with fail
  go_ret2
  exact ⟨rfl, bdN hB.out _⟩
theorem idem (low : ByteArray → ByteArray) (k : Int) (s : ByteArray) : mK low (mK low k s) (mT low k s) = mK low k s ∧ mT low (mK low k s) (mT low k s) = mT low k s := by
  by_cases hk : k = 29
  · subst hk
    by_cases h1 : isN (low s) = true
    · have e1 : mK low 29 s = 30 := by unfold mK; rw [if_pos rfl, if_pos h1]
      rw [e1]
      exact ⟨by unfold mK; rw [if_neg (by decide)], by unfold mT; rw [if_neg (by decide)]⟩
    · by_cases h2 : isB (low s) = true
      · have e1 : mK low 29 s = 30 := by unfold mK; rw [if_pos rfl, if_neg h1, if_pos h2]
        rw [e1]
        exact ⟨by unfold mK; rw [if_neg (by decide)], by unfold mT; rw [if_neg (by decide)]⟩
      · have e1 : mK low 29 s = 29 := by unfold mK; rw [if_pos rfl, if_neg h1, if_neg h2]
        have e2 : mT low 29 s = s := by unfold mT; rw [if_pos rfl, if_neg h1, if_neg h2]
        rw [e1, e2]
        exact ⟨e1, e2⟩
  · have e1 : mK low k s = k := by unfold mK; rw [if_neg hk]
    have e2 : mT low k s = s := by unfold mT; rw [if_neg hk]
    rw [e1, e2]
    exact ⟨e1, e2⟩
theorem mK_range (low : ByteArray → ByteArray) (k : Int) (s : ByteArray) (h0 : 0 ≤ k) (h1 : k ≤ 255) : 0 ≤ mK low k s ∧ mK low k s ≤ 255 := by
  unfold mK
  split
  · split
    · omega
    · split <;> omega
  · omega
theorem mT_size (low : ByteArray → ByteArray) (k : Int) (s : ByteArray) (h : s.size ≤ 1048576) : (mT low k s).size ≤ 1048576 := by
  unfold mT
  split
  · split
    · decide
    · split
      · decide
      · exact h
  · exact h
def SmallB (w : World) (N : Nat) (e : Ending) (w' : World) : Prop := ∃ b : Bool, e = .returned (.bool b) ∧ (b = true → N ≤ 1048576) ∧ w = w'
theorem bytes4_c (k : Int) (s : ByteArray) (w : World) (hs : s.size ≤ maxLen) : Calls Tryd.prog 4 #[.int .u8 k, .string s] w (SmallB w s.size) := by
  unfold maxLen at hs
  go_enter Tryd.func4, Tryd.ntmps4
  go_wp2_with fail
  all_goals (go_ret; exact ⟨_, rfl, (fun h => by first | exact absurd h (by decide) | omega), rfl⟩)
theorem walk (low : ByteArray → ByteArray) (k : Int) (s : ByteArray) (w : World) (hL : Low low w) (hs : s.size ≤ maxLen) (h0 : 0 ≤ k) (h1 : k ≤ 255) : Calls Tryd.prog 3 #[.int .u8 k, .string s] w fun e w' => e = .returned (.bool true) ∧ Below w.heap.size w w' := by
  have Z := Lib.hid (bytes4_c k s w hs)
  unfold maxLen at hs
  by_cases hsm : s.size ≤ 1048576
  · have D1 := Lib.hid (show Calls Tryd.prog 5 #[.int .u8 k, .string s] w (fun e w' => e = .returned (.tuple #[.int .u8 (mK low k s), .string (mT low k s)]) ∧ Below w.heap.size w w') from zz5_c low k s w hL hsm h0 h1)
    have D2 := Lib.hid (fun w1 (hb : Below w.heap.size w w1) => (show Calls Tryd.prog 5 #[.int .u8 (mK low k s), .string (mT low k s)] w1 (fun e w' => e = .returned (.tuple #[.int .u8 (mK low k s), .string (mT low k s)]) ∧ Below w1.heap.size w1 w') from by
      have := zz5_c low (mK low k s) (mT low k s) w1 (fun s' w2 hs' hb2 => hL s' w2 hs' (hb.trans (hb2.mono hb.size))) (mT_size low k s hsm) (mK_range low k s h0 h1).1 (mK_range low k s h0 h1).2
      rw [(idem low k s).1, (idem low k s).2] at this
      exact this))
    clear hL
    generalize mK low k s = K at *
    generalize mT low k s = T at *
    go_enter Tryd.func3, Tryd.ntmps3
    go_wp2_with (first | (go_at_call 4; (with_reducible refine Z.out.mono ?_); rintro e w' ⟨b, rfl, hbz, rfl⟩; replace hbz := Lib.hid hbz; cases b) | (go_at_call 5; (with_reducible refine D1.out.mono ?_); rintro e w1 ⟨rfl, hb⟩; replace hb := Lib.hid hb) | (go_at_call 5; (with_reducible refine (D2.out _ hb.out).mono ?_); rintro e w2 ⟨rfl, hb2⟩; have hb3 := Lib.hid (hb.out.trans (hb2.mono hb.out.size)); clear hb2))
    all_goals go_ret
    all_goals first | exact ⟨rfl, Below.refl _ _⟩ | exact ⟨by simp, hb3.out⟩ | exact ⟨rfl, hb3.out⟩
  · clear hL
    go_enter Tryd.func3, Tryd.ntmps3
    go_upto_region 3 with (go_at_call 4; (with_reducible refine Z.out.mono ?_); rintro e w' ⟨b, rfl, hbz, rfl⟩; replace hbz := Lib.hid hbz; cases b)
    all_goals (first | (go_ret; exact ⟨rfl, Below.refl _ _⟩) | (exfalso; exact hsm (hbz.out trivial)))
end Go.Proofs.YtgickbdbgeeahaaDoor
