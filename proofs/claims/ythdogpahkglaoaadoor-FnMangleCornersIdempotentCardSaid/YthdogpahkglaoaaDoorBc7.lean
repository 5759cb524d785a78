/- zzCheckValue at one quad, zzDeclIs, the tracker made new. -/
import Derived.Test.YthdogpahkglaoaaDoorBc6
import Derived.Test.YthdogpahkglaoaaDoorBc2
set_option linter.unusedVariables false
set_option linter.unusedSimpArgs false
namespace Go.Proofs.YthdogpahkglaoaaDoor
open Go.RowKit
theorem minN_le (a b c d : Int) : 1 ≤ minN a b c d ∧ minN a b c d ≤ 4 := by
  unfold minN
  repeat' split
  all_goals omega
set_option maxRecDepth 100000 in
set_option maxHeartbeats 4000000 in
theorem value_c (T k cc : Nat) (a b c d : Int) (m : Bool) (F : Nat → Tk) (w : World) (hk : k = minN a b c d) (hF : ∀ i, i < k → TAt w T (i * 7) (F i) ∧ wantT a b c d k m i (F i)) (hr : ∀ i, i < 4 → 0 ≤ qI a b c d i ∧ qI a b c d i ≤ 255) :
    Calls Tryd.prog 13 #[.slice (some ⟨T, 0, none⟩) k cc, q4 a b c d, q4 a b c d, .bool m] w (Gv (.bool true) w) := by
  have k4 := (minN_le a b c d).2
  rw [← hk] at k4
  have C19 := Lib.hid (fun w => min_c a b c d w)
  rw [← hk] at C19
  have C20 := Lib.hid (fun w' (hb : Below w.heap.size w w') => check_c T k cc a b c d m F w' k4 (fun i hi => ⟨(hF i hi).1.after hb, (hF i hi).2⟩) hr)
  have eq : ∀ w, (Op.equalIn 10000 22 (q4 a b c d) (q4 a b c d)).run Tryd.prog w = .ok true w := fun w => by
    rw [eq22]; simp
  clear hF hr hk
  go_enter Tryd.func13, Tryd.ntmps13
  go_upto_region 1 with fail
  refine wp_gen (fun W hW => ?_)
  have hb : Hid (Below w.heap.size w W) := Lib.hid (by rw [hW]; exact (ba _ _).trans ((ba _ _).mono (by simp)))
  have hQ : Hid (Q4 W w.heap.size a b c d) := Lib.hid (by rw [hW]; exact ⟨by simp [go_sem], by simp [go_sem], by simp [go_sem], by simp [go_sem]⟩)
  have hQ2 : Hid (Q4 W (w.heap.size + 1) a b c d) := Lib.hid (by rw [hW]; exact ⟨by simp [go_sem], by simp [go_sem], by simp [go_sem], by simp [go_sem]⟩)
  clear hW
  generalize hP : w.heap.size = P at hQ hQ2 ⊢
  replace hP := Lib.hid hP
  obtain ⟨q0, q1, q2, q3⟩ := hQ.out
  go_upto_region 2 with (go_at_call 19; (with_reducible refine (C19.out _).mono ?_); rintro e w1 ⟨rfl, hb1⟩; replace hQ := Lib.hid (hQ.out.after hb1); replace hQ2 := Lib.hid (hQ2.out.after hb1); replace hb := Lib.hid (hb.out.trans (hb1.mono hb.out.size)); clear hb1)
  clear C19 q0 q1 q2 q3
  obtain ⟨q0, q1, q2, q3⟩ := hQ.out
  obtain ⟨r0, r1, r2, r3⟩ := hQ2.out
  go_wp2_with (go_at_call 20; (with_reducible refine (C20.out _ hb.out).mono ?_); rintro e w2 ⟨rfl, hb2⟩; replace hb := Lib.hid (hb.out.trans (hb2.mono hb.out.size)); clear hb2)
  go_ret
  exact ⟨rfl, hb.out⟩
theorem Seg.left {w : World} {b o : Nat} {xs ys : List Value} (h : Seg w b o (xs ++ ys)) : Seg w b o xs := fun j v hj => h j v (by rw [List.getElem?_append_left (List.getElem?_eq_some_iff.1 hj).1]; exact hj)
theorem Seg.right {w : World} {b o : Nat} {xs ys : List Value} (h : Seg w b o (xs ++ ys)) : Seg w b (o + xs.length) ys := fun j v hj => by
  rw [Nat.add_assoc]
  exact h (xs.length + j) v (by rw [List.getElem?_append_right (by omega), Nat.add_sub_cancel_left]; exact hj)
/-- a corner that nothing is known of -/
def Cn0 : Cn := ⟨tk0, tk0, ⟨#[]⟩, 0, 0, false⟩
/-- the tracker at b: its corners, and whether they are important -/
structure Trk (w : World) (b : Nat) (F : Nat → Cn) (imp : Bool) : Prop where
  cn : ∀ k, k < 4 → CAt w b k (F k)
  im : w.cell? ⟨b, 72, none⟩ = some (.bool imp)
  room : Room w b 73
theorem Trk.after {w w' : World} {b : Nat} {F : Nat → Cn} {imp : Bool} (h : Trk w b F imp) (hb : Below w.heap.size w w') : Trk w' b F imp := ⟨fun k hk => (h.cn k hk).after hb, ac hb h.im, h.room.after hb⟩
theorem Trk.only {S : Nat → Prop} {w w' : World} {b : Nat} {F : Nat → Cn} {imp : Bool} (h : Trk w b F imp) (ho : Only S w w') (hs : ¬ S b) : Trk w' b F imp := ⟨fun k hk => (h.cn k hk).only ho hs, ho.keep h.im hs, ho.room h.room hs⟩
theorem Trk.put {w w' : World} {b k : Nat} {F : Nat → Cn} {imp : Bool} {x : Cn} (h : Trk w b F imp) (hp : Put b k x w w') : Trk w' b (fun s => if s = k then x else F s) imp := ⟨fun s hs => by
  by_cases e : s = k
  · subst e; rw [if_pos rfl]; exact hp.side
  · rw [if_neg e]; exact hp.oth s _ e (h.cn s hs), by rw [hp.imp]; exact h.im, hp.room⟩
abbrev trkL (F : Nat → Cn) (imp : Bool) : List Value := cnL (F 0) ++ (cnL (F 1) ++ (cnL (F 2) ++ (cnL (F 3) ++ [.bool imp])))
theorem Trk.of_seg {w : World} {b : Nat} {F : Nat → Cn} {imp : Bool} (h : Seg w b 0 (trkL F imp)) (hr : Room w b 73) : Trk w b F imp := by
  have h1 := h.right
  have h2 := h1.right
  have h3 := h2.right
  have h4 := h3.right
  refine ⟨fun k hk => ?_, h4 0 _ rfl, hr⟩
  match k, hk with
  | 0, _ => exact h.left
  | 1, _ => exact h1.left
  | 2, _ => exact h2.left
  | 3, _ => exact h3.left
theorem zero69 : Tryd.zeroCells69 = (trkL (fun _ => Cn0) false).toArray := by kernel_rfl
theorem new_c (w : World) : Calls Tryd.prog 6 #[] w (fun e w' => e = .returned (.pointer (some ⟨w.heap.size, 0, none⟩)) ∧ Below w.heap.size w w' ∧ Trk w' w.heap.size (fun _ => Cn0) false ∧ w.heap.size < w'.heap.size) := by
  go_enter Tryd.func6, Tryd.ntmps6
  go_wp2
  go_ret
  refine ⟨rfl, ba _ _, ?_, by simp⟩
  rw [zero69]
  exact Trk.of_seg (Seg.new _ _ _) (Room.newN _ _ rfl _)
end Go.Proofs.YthdogpahkglaoaaDoor
