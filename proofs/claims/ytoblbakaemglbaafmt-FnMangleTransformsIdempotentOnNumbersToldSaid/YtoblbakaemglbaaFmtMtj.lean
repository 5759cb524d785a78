/- FnMangleTransformsIdempotentOnNumbers: mangleTransforms at every name. -/
import Derived.Test.YtoblbakaemglbaaFmtMt7
import Derived.Test.YtoblbakaemglbaaFmtMt8
import Derived.Test.YtoblbakaemglbaaFmtMt9
import Derived.Test.YtoblbakaemglbaaFmtMta
import Derived.Test.YtoblbakaemglbaaFmtMtb
import Derived.Test.YtoblbakaemglbaaFmtMtc
import Derived.Test.YtoblbakaemglbaaFmtMtd
import Derived.Test.YtoblbakaemglbaaFmtMte
import Derived.Test.YtoblbakaemglbaaFmtMtf
import Derived.Test.YtoblbakaemglbaaFmtMtg
import Derived.Test.YtoblbakaemglbaaFmtMth
import Derived.Test.YtoblbakaemglbaaFmtMti
import Derived.LoopN
set_option linter.unusedVariables false
set_option linter.unusedSimpArgs false
namespace Go.Proofs.YtoblbakaemglbaaFmt
open Go.RowKit
theorem mt_all (T C A N : Nat) (s : St) (m k : Nat) (p : Option Addr) (w : World) (h : MSs w T C A N s) (hN : N ≤ 8191) (alt : ∀ j, j < s.n → (s.G (s.o + j)).kd = if j % 2 = 0 then 30 else 10) (hn : s.n = 2 * m + 1) (hL : Low lowS w) (hnm : s.nm.size ≤ 1048576) (hk : k < 22) (hlow : lowS s.nm = nameK (k : Nat)) : Calls Tryf.prog 12 #[.pointer p, .slice (some ⟨T, 0, none⟩) 1 1] w (MtS T C A N (amt k s) w) := by
  obtain ⟨nm, G, o, n⟩ := s
  simp only at alt hn hnm hlow
  rcases (by omega : k = 0 ∨ k = 1 ∨ k = 2 ∨ k = 3 ∨ k = 4 ∨ k = 5 ∨ k = 6 ∨ k = 7 ∨ k = 8 ∨ k = 9 ∨ k = 10 ∨ k = 11 ∨ k = 12 ∨ k = 13 ∨ k = 14 ∨ k = 15 ∨ k = 16 ∨ k = 17 ∨ k = 18 ∨ k = 19 ∨ k = 20 ∨ k = 21) with rfl | rfl | rfl | rfl | rfl | rfl | rfl | rfl | rfl | rfl | rfl | rfl | rfl | rfl | rfl | rfl | rfl | rfl | rfl | rfl | rfl | rfl
  · have e : amt 0 ⟨nm, G, o, n⟩ = arm false 0 ⟨nm, G, o, n⟩ := by simp [amt, arm]
    rw [e]
    exact mt_0 lowS T C A N nm G o n m p w h hN alt hn hL hnm (by rw [hlow]; rfl)
  · have e : amt 1 ⟨nm, G, o, n⟩ = arm false 1 ⟨nm, G, o, n⟩ := by simp [amt, arm]
    rw [e]
    exact mt_1 lowS T C A N nm G o n m p w h hN alt hn hL hnm (by rw [hlow]; rfl)
  · have e : amt 2 ⟨nm, G, o, n⟩ = arm false 2 ⟨nm, G, o, n⟩ := by simp [amt, arm]
    rw [e]
    exact mt_2 lowS T C A N nm G o n m p w h hN alt hn hL hnm (by rw [hlow]; rfl)
  · have e : amt 3 ⟨nm, G, o, n⟩ = arm false 3 ⟨nm, G, o, n⟩ := by simp [amt, arm]
    rw [e]
    exact mt_3 lowS T C A N nm G o n m p w h hN alt hn hL hnm (by rw [hlow]; rfl)
  · have e : amt 4 ⟨nm, G, o, n⟩ = arm false 4 ⟨nm, G, o, n⟩ := by simp [amt, arm]
    rw [e]
    exact mt_4 lowS T C A N nm G o n m p w h hN alt hn hL hnm (by rw [hlow]; rfl)
  · have e : amt 5 ⟨nm, G, o, n⟩ = arm false 5 ⟨nm, G, o, n⟩ := by simp [amt, arm]
    rw [e]
    exact mt_5 lowS T C A N nm G o n m p w h hN alt hn hL hnm (by rw [hlow]; rfl)
  · have e : amt 6 ⟨nm, G, o, n⟩ = arm false 6 ⟨nm, G, o, n⟩ := by simp [amt, arm]
    rw [e]
    exact mt_6 lowS T C A N nm G o n m p w h hN alt hn hL hnm (by rw [hlow]; rfl)
  · have e : amt 7 ⟨nm, G, o, n⟩ = arm false 7 ⟨nm, G, o, n⟩ := by simp [amt, arm]
    rw [e]
    exact mt_7 lowS T C A N nm G o n m p w h hN alt hn hL hnm (by rw [hlow]; rfl)
  · have e : amt 8 ⟨nm, G, o, n⟩ = arm false 8 ⟨nm, G, o, n⟩ := by simp [amt, arm]
    rw [e]
    exact mt_8 lowS T C A N nm G o n m p w h hN alt hn hL hnm (by rw [hlow]; rfl)
  · have e : amt 9 ⟨nm, G, o, n⟩ = arm false 9 ⟨nm, G, o, n⟩ := by simp [amt, arm]
    rw [e]
    exact mt_9 lowS T C A N nm G o n m p w h hN alt hn hL hnm (by rw [hlow]; rfl)
  · have e : amt 10 ⟨nm, G, o, n⟩ = arm false 10 ⟨nm, G, o, n⟩ := by simp [amt, arm]
    rw [e]
    exact mt_10 lowS T C A N nm G o n m p w h hN alt hn hL hnm (by rw [hlow]; rfl)
  · have e : amt 11 ⟨nm, G, o, n⟩ = arm false 11 ⟨nm, G, o, n⟩ := by simp [amt, arm]
    rw [e]
    exact mt_11 lowS T C A N nm G o n m p w h hN alt hn hL hnm (by rw [hlow]; rfl)
  · exact mt_12 lowS T C A N nm G o n m p w h hN alt hn hL hnm (by rw [hlow]; rfl)
  · have e : amt 13 ⟨nm, G, o, n⟩ = arm false 13 ⟨nm, G, o, n⟩ := by simp [amt, arm]
    rw [e]
    exact mt_13 lowS T C A N nm G o n m p w h hN alt hn hL hnm (by rw [hlow]; rfl)
  · have e : amt 14 ⟨nm, G, o, n⟩ = arm false 14 ⟨nm, G, o, n⟩ := by simp [amt, arm]
    rw [e]
    exact mt_14 lowS T C A N nm G o n m p w h hN alt hn hL hnm (by rw [hlow]; rfl)
  · have e : amt 15 ⟨nm, G, o, n⟩ = arm false 15 ⟨nm, G, o, n⟩ := by simp [amt, arm]
    rw [e]
    exact mt_15 lowS T C A N nm G o n m p w h hN alt hn hL hnm (by rw [hlow]; rfl)
  · have e : amt 16 ⟨nm, G, o, n⟩ = arm false 16 ⟨nm, G, o, n⟩ := by simp [amt, arm]
    rw [e]
    exact mt_16 lowS T C A N nm G o n m p w h hN alt hn hL hnm (by rw [hlow]; rfl)
  · have e : amt 17 ⟨nm, G, o, n⟩ = arm false 17 ⟨nm, G, o, n⟩ := by simp [amt, arm]
    rw [e]
    exact mt_17 lowS T C A N nm G o n m p w h hN alt hn hL hnm (by rw [hlow]; rfl)
  · have e : amt 18 ⟨nm, G, o, n⟩ = arm false 18 ⟨nm, G, o, n⟩ := by simp [amt, arm]
    rw [e]
    exact mt_18 lowS T C A N nm G o n m p w h hN alt hn hL hnm (by rw [hlow]; rfl)
  · have e : amt 19 ⟨nm, G, o, n⟩ = arm false 19 ⟨nm, G, o, n⟩ := by simp [amt, arm]
    rw [e]
    exact mt_19 lowS T C A N nm G o n m p w h hN alt hn hL hnm (by rw [hlow]; rfl)
  · have e : amt 20 ⟨nm, G, o, n⟩ = arm false 20 ⟨nm, G, o, n⟩ := by simp [amt, arm]
    rw [e]
    exact mt_20 lowS T C A N nm G o n m p w h hN alt hn hL hnm (by rw [hlow]; rfl)
  · have e : amt 21 ⟨nm, G, o, n⟩ = arm false 21 ⟨nm, G, o, n⟩ := by simp [amt, arm]
    rw [e]
    exact mt_21 lowS T C A N nm G o n m p w h hN alt hn hL hnm (by rw [hlow]; rfl)
/-- numbers and commas take turns; the children begin at an even place, their number is odd -/
def Par (s : St) : Prop := (∀ j, (s.G j).kd = if j % 2 = 0 then 30 else 10) ∧ s.o % 2 = 0 ∧ s.n % 2 = 1
theorem Par.up {nm : ByteArray} {G : Nat → Tq} {o n o' : Nat} (h : Par ⟨nm, G, o, n⟩) (nm' : ByteArray) (e : o' % 2 = 0) (n' : Nat) (hn : n' % 2 = 1) : Par ⟨nm', G, o', n'⟩ := ⟨h.1, e, hn⟩
theorem par_ite {c : Prop} [Decidable c] {a b : St} (h1 : Par a) (h2 : Par b) : Par (if c then a else b) := by split <;> assumption
theorem Par.arm (b : Bool) (k : Nat) (s : St) (h : Par s) : Par (arm b k s) := by
  obtain ⟨nm, G, o, n⟩ := s
  have ho : o % 2 = 0 := h.2.1
  have hn : n % 2 = 1 := h.2.2
  have hp : ∀ j, (G j).kd = if j % 2 = 0 then 30 else 10 := h.1
  have g1 : ∀ nm', Par ⟨nm', fun j => if j = o + 2 then G (o + 6) else G j, o, 3⟩ := fun nm' => ⟨fun j => by
    show (if j = o + 2 then G (o + 6) else G j).kd = _
    by_cases e : j = o + 2
    · rw [if_pos e, hp, if_pos (by omega), if_pos (by omega)]
    · rw [if_neg e, hp], ho, (show 3 % 2 = 1 from rfl)⟩
  have g2 : ∀ nm', Par ⟨nm', fun j => if j = o + 2 then G (o + 10) else if j = o + 3 then G (o + 11) else if j = o + 4 then G (o + 20) else G j, o, 5⟩ := fun nm' => ⟨fun j => by
    show (if j = o + 2 then G (o + 10) else if j = o + 3 then G (o + 11) else if j = o + 4 then G (o + 20) else G j).kd = _
    by_cases e : j = o + 2
    · rw [if_pos e, hp, if_pos (by omega), if_pos (by omega)]
    · rw [if_neg e]
      by_cases e3 : j = o + 3
      · rw [if_pos e3, hp, if_neg (by omega), if_neg (by omega)]
      · rw [if_neg e3]
        by_cases e4 : j = o + 4
        · rw [if_pos e4, hp, if_pos (by omega), if_pos (by omega)]
        · rw [if_neg e4, hp], ho, (show 5 % 2 = 1 from rfl)⟩
  unfold Go.Proofs.YtoblbakaemglbaaFmt.arm
  dsimp only
  repeat' first
    | exact h
    | exact h.up _ (by omega) _ (by first | rfl | exact hn)
    | exact g1 _
    | exact g2 _
    | refine par_ite ?_ ?_
theorem Par.trim {s : St} (h : Par s) : Par (trim s) := ⟨fun j => by show (trm s.G s.o s.n j).kd = _; rw [kd_w]; exact h.1 j, h.2.1, h.2.2⟩
theorem Par.alt {s : St} (h : Par s) : ∀ j, j < s.n → (s.G (s.o + j)).kd = if j % 2 = 0 then 30 else 10 := fun j _ => by
  have := h.2.1
  rw [h.1]
  by_cases e : j % 2 = 0
  · rw [if_pos e, if_pos (by omega)]
  · rw [if_neg e, if_neg (by omega)]
set_option maxRecDepth 100000 in
set_option maxHeartbeats 8000000 in
theorem mt_e (T C A : Nat) (nm : ByteArray) (G : Nat → Tq) (p : Option Addr) (w : World) (h : MS w T C A 0 nm G 0 0) : Calls Tryf.prog 12 #[.pointer p, .slice (some ⟨T, 0, none⟩) 1 1] w (fun e w' => e = .returned (.slice (some ⟨T, 0, none⟩) 1 1) ∧ w = w') := by
  have c5 : w.cell? ⟨T, 5, none⟩ = some (.int .u8 27) := by simpa using h.tok 5 _ rfl
  have c0 : w.cell? ⟨T, 0, none⟩ = some (.pointer (some ⟨C, 0, none⟩)) := by simpa using h.tok 0 _ rfl
  have cc : w.cell? ⟨C, 0, none⟩ = some (.slice (some ⟨A, 0, none⟩) 0 0) := by simpa using h.ch
  have C13 := Lib.hid (comma0_c (some ⟨A, 0, none⟩) 0 w)
  clear h
  go_enter Tryf.func12, Tryf.ntmps12
  go_wp2
  refine wp_loop_rounds 2 ?_
  rw [rounds_succ]
  go_wp2_with (go_at_call 13; (with_reducible refine C13.out.mono ?_); rintro e w2 ⟨rfl, rfl⟩)
  rw [rounds_succ]
  go_wp2
  go_ret
  exact ⟨rfl, rfl⟩
set_option maxRecDepth 100000 in
set_option maxHeartbeats 8000000 in
theorem zz_all (T C A N : Nat) (s : St) (m k : Nat) (w : World) (h : MSs w T C A N s) (hN : N ≤ 8191) (alt : ∀ j, j < s.n → (s.G (s.o + j)).kd = if j % 2 = 0 then 30 else 10) (hn : s.n = 2 * m + 1) (hL : Low lowS w) (hnm : s.nm.size ≤ 1048576) (hk : k < 22) (hlow : lowS s.nm = nameK (k : Nat)) : Calls Tryf.prog 8 #[.slice (some ⟨T, 0, none⟩) 1 1] w (MtS T C A N (amt k s) w) := by
  have C12 := Lib.hid (fun (p : Option Addr) (w1 : World) (hb : Below w.heap.size w w1) => mt_all T C A N s m k p w1 (h.after hb) hN alt hn (hL.after hb) hnm hk hlow)
  clear h alt hn hL hnm hlow
  go_enter Tryf.func8, Tryf.ntmps8
  go_upto_region 2 with fail
  refine wp_gen (fun w1 hW => ?_)
  have b1 : Hid (Below w.heap.size w w1) := Lib.hid (by rw [hW]; exact ba _ _)
  clear hW
  go_wp2_with (go_at_call 12; (with_reducible refine (C12.out _ _ b1.out).mono ?_); rintro e w2 ⟨rfl, hM, hO⟩; replace hM := Lib.hid hM; replace hO := Lib.hid hO)
  go_ret
  exact ⟨rfl, hM.out, (Only.of b1.out).trans hO.out⟩
set_option maxRecDepth 100000 in
set_option maxHeartbeats 8000000 in
theorem zz_e (T C A : Nat) (nm : ByteArray) (G : Nat → Tq) (w : World) (h : MS w T C A 0 nm G 0 0) : Calls Tryf.prog 8 #[.slice (some ⟨T, 0, none⟩) 1 1] w (Gv (.slice (some ⟨T, 0, none⟩) 1 1) w) := by
  have C12 := Lib.hid (fun (p : Option Addr) (w1 : World) (hb : Below w.heap.size w w1) => mt_e T C A nm G p w1 (h.after hb))
  clear h
  go_enter Tryf.func8, Tryf.ntmps8
  go_upto_region 2 with fail
  refine wp_gen (fun w1 hW => ?_)
  have b1 : Hid (Below w.heap.size w w1) := Lib.hid (by rw [hW]; exact ba _ _)
  clear hW
  go_wp2_with (go_at_call 12; (with_reducible refine (C12.out _ _ b1.out).mono ?_); rintro e w2 ⟨rfl, rfl⟩)
  go_ret
  exact ⟨rfl, b1.out⟩
end Go.Proofs.YtoblbakaemglbaaFmt
