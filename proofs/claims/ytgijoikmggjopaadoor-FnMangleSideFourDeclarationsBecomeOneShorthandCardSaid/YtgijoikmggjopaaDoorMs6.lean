/- FnMangleSide: zzPerm. -/
import Derived.Test.YtgijoikmggjopaaDoorMs1
import Derived.WalkMore
set_option linter.unusedVariables false
set_option linter.unusedSimpArgs false
namespace Go.Proofs.YtgijoikmggjopaaDoor
open Go.RowKit
def mS (m : Nat) : Nat → Nat
  | 0 => m
  | i + 1 => mS m i / (4 - i)
def aS (m : Nat) : Nat → Nat → Nat
  | 0, x => x
  | i + 1, x => if mS m i % (4 - i) ≤ x ∧ x + 1 < 4 - i then aS m i (x + 1) else aS m i x
def pS (m i : Nat) : Nat := aS m i (mS m i % (4 - i))
theorem mS_le (m : Nat) : ∀ i, mS m i ≤ m
  | 0 => Nat.le_refl _
  | i + 1 => Nat.le_trans (Nat.div_le_self _ _) (mS_le m i)
theorem pS_lt : ∀ m, m < 24 → ∀ i, i < 4 → pS m i < 4 := by decide +kernel
theorem pS_inj : ∀ m, m < 24 → ∀ i, i < 4 → ∀ j, j < 4 → pS m i = pS m j → i = j := by decide +kernel
theorem pS_onto : ∀ m, m < 24 → ∀ s, s < 4 → ∃ i, i < 4 ∧ pS m i = s := by decide +kernel
structure PI (w : World) (P m i : Nat) (wr : World) : Prop where
  av : ∀ x, x < 4 → wr.cell? ⟨P + 1, x, none⟩ = some (.int .i64 (aS m i x))
  out : ∀ x, x < i → wr.cell? ⟨P + 1 + 1, x, none⟩ = some (.int .i64 (pS m x))
  ra : Room wr (P + 1) 4
  ro : Room wr (P + 1 + 1) 4
  rr : Room wr P 4
  below : Below w.heap.size w wr
set_option maxRecDepth 100000 in
set_option maxHeartbeats 4000000 in
theorem perm_c (o : Int) (m : Nat) (o0 : 0 ≤ o) (hm : o % 24 = m) (w : World) : Calls Tryd.prog 4 #[.int .u8 o] w (Gv (.agg #[.int .i64 (pS m 0), .int .i64 (pS m 1), .int .i64 (pS m 2), .int .i64 (pS m 3)]) w) := by
  have hm0 : m < 24 := by omega
  have htm : Int.tmod o 24 = m := by rw [Int.tmod_eq_emod_of_nonneg o0]; exact hm
  have hm1 : (0 : Int) ≤ m := by omega
  have hm2 : (m : Int) < 24 := by omega
  clear hm
  go_enter Tryd.func4, Tryd.ntmps4
  go_wp2
  refine wp_gen (fun W hW => ?_)
  obtain ⟨P, hP⟩ : ∃ x, w.heap.size = x := ⟨_, rfl⟩
  have h0 : Hid (PI w P m 0 W) := Lib.hid (by
    subst hP
    refine ⟨fun x hx => ?_, fun x hx => by omega, ?_, ?_, ?_, ?_⟩
    · rw [hW]
      match x, hx with
      | 0, _ => simp [go_sem, aS]
      | 1, _ => simp [go_sem, aS]
      | 2, _ => simp [go_sem, aS]
      | 3, _ => simp [go_sem, aS]
    · rw [hW]; have := (Room.newN (w.alloc (.cells #[.int .i64 0, .int .i64 0, .int .i64 0, .int .i64 0] 22)) #[.int .i64 0, .int .i64 1, .int .i64 2, .int .i64 3] (n := 4) rfl 22).after (ba _ (.cells #[.int .i64 0, .int .i64 0, .int .i64 0, .int .i64 0] 22)); simpa using this
    · rw [hW]; have := (Room.newN ((w.alloc (.cells #[.int .i64 0, .int .i64 0, .int .i64 0, .int .i64 0] 22)).alloc (.cells #[.int .i64 0, .int .i64 1, .int .i64 2, .int .i64 3] 22)) #[.int .i64 0, .int .i64 0, .int .i64 0, .int .i64 0] (n := 4) rfl 22); simpa using this
    · rw [hW]; exact ((Room.newN w #[.int .i64 0, .int .i64 0, .int .i64 0, .int .i64 0] (n := 4) rfl 22).after (ba _ _)).after (ba _ _)
    · rw [hW]; exact (ba _ _).trans ((ba _ _).mono (by simp)) |>.trans ((ba _ _).mono (by simp; omega)))
  have hPW : P + 1 + 1 < W.heap.size := by rw [hW, ← hP]; simp
  rw [hP]
  have HPE := Lib.hid hP
  clear hW hP
  go_loopw [5, 6] (fun u v wr => ∃ i : Nat, i ≤ 4 ∧ v = .int .i64 i ∧ u = .int .i64 (mS m i) ∧ PI w P m i wr) (fun _ v _ => 4 - (intOf v).toNat)
  case atStart => exact ⟨0, by omega, rfl, by first | rfl | simp [mS], h0.out⟩
  case round =>
    obtain ⟨i, hi, rfl, rfl, hP⟩ := hrel
    obtain ⟨w1, rfl⟩ : ∃ w1 : World, w1 = wr := ⟨_, rfl⟩
    rcases (by omega : i = 0 ∨ i = 1 ∨ i = 2 ∨ i = 3 ∨ i = 4) with rfl | rfl | rfl | rfl | rfl
    · obtain ⟨M, hM⟩ : ∃ M, M = mS m 0 := ⟨_, rfl⟩
      obtain ⟨j, hj⟩ : ∃ j, j = M % 4 := ⟨_, rfl⟩
      obtain ⟨q, hq⟩ : ∃ q, q = M / 4 := ⟨_, rfl⟩
      have jlt : j < 4 := by omega
      have HP : Hid (PI w P m 0 w1) := Lib.hid hP
      obtain ⟨Aj, hAj⟩ : ∃ y, y = aS m 0 j := ⟨_, rfl⟩
      have cA := HP.out.av j (by omega)
      rw [← hAj] at cA
      obtain ⟨vo, ko, fo⟩ := HP.out.ro 0 (by omega)
      have e1 : (M : Int) % 4 = j := by omega
      have e2 : (M : Int) / 4 = q := by omega
      have e3 : Int.tmod (M : Int) 4 = j := by rw [Int.tmod_eq_emod_of_nonneg (by omega)]; omega
      have e4 : Int.tdiv (M : Int) 4 = q := by rw [Int.tdiv_eq_ediv_of_nonneg (by omega)]; omega
      have j0 : (0 : Int) ≤ j := by omega
      have j1 : (j : Int) < 4 := by omega
      have q0 : (0 : Int) ≤ q := by omega
      have M0 : (0 : Int) ≤ M := by omega
      have M1 : (M : Int) < 24 := by have := mS_le m 0; omega
      have q1 : (q : Int) < 24 := by omega
      have HM := Lib.hid hM
      have Hj := Lib.hid hj
      have Hq := Lib.hid hq
      have HAj := Lib.hid hAj
      rw [← hM]
      clear hM hj hq hAj hP
      go_wp2
      refine wp_gen (fun W2 hW2 => ?_)
      have P2 : Hid (PI w P m 0 W2 ∧ W2.cell? ⟨P + 1 + 1, 0, none⟩ = some (.int .i64 (pS m 0))) := Lib.hid (by
        rw [hW2]
        refine ⟨⟨fun x hx => by rw [co (by intro e; injection e; omega)]; exact HP.out.av x hx, fun x hx => by rw [co (by intro e; injection e; omega)]; exact HP.out.out x hx, HP.out.ra.setA _ _, HP.out.ro.setA _ _, HP.out.rr.setA _ _, HP.out.below.setCell (by show w.heap.size ≤ P + 1 + 1; have := HPE.out; omega) _⟩, ?_⟩
        rw [cs ko]
        unfold pS
        rw [← HM.out, show 4 - 0 = 4 from rfl, ← Hj.out, ← HAj.out])
      have hl2 : P + 1 + 1 < W2.heap.size := by rw [hW2]; have := block_lt_of_cell ko; simpa [World.setCell] using this
      clear hW2 cA ko fo HP
      go_loopw [9] (fun v wi => ∃ t : Nat, j ≤ t ∧ t < 4 ∧ v = .int .i64 t ∧ (∀ x, x < 4 → wi.cell? ⟨P + 1, x, none⟩ = some (.int .i64 (if j ≤ x ∧ x < t then aS m 0 (x + 1) else aS m 0 x : Nat))) ∧ Room wi (P + 1) 4 ∧ Only (fun z => z = P + 1) W2 wi) (fun v _ => 4 - (intOf v).toNat)
      case atStart => exact ⟨j, Nat.le_refl _, jlt, rfl, fun x hx => by rw [if_neg (by omega)]; exact P2.out.1.av x hx, P2.out.1.ra, Only.refl _⟩
      case round =>
        obtain ⟨t, ht0, ht1, rfl, hav, hra, hon⟩ := hrel
        obtain ⟨wi, rfl⟩ : ∃ wi : World, wi = wr := ⟨_, rfl⟩
        have HAV := Lib.hid hav
        have HRA := Lib.hid hra
        have HON := Lib.hid hon
        have t0 : (0 : Int) ≤ t := by omega
        have t1 : (t : Int) < 4 := by omega
        by_cases hlt : t + 1 < 4
        · have t2 : (t : Int) + 1 < 4 := by omega
          obtain ⟨vt, et, ft⟩ := hra t (by omega)
          have cn := hav (t + 1) (by omega)
          rw [if_neg (by omega)] at cn
          clear hav hra hon
          have hli : P + 1 < wi.heap.size := HRA.out.lt (by omega)
          go_wp2
          go_roundw
          case rel =>
            refine ⟨t + 1, by omega, hlt, by go_num, fun x hx => ?_, HRA.out.setA _ _, HON.out.set _ _ rfl⟩
            by_cases e : x = t
            · subst e
              rw [if_pos (by omega)]
              exact cs et
            · rw [co (by intro h; injection h; omega)]
              have := HAV.out x hx
              by_cases e2 : j ≤ x ∧ x < t
              · rw [if_pos e2] at this; rw [if_pos (by omega)]; exact this
              · rw [if_neg e2] at this; rw [if_neg (by omega)]; exact this
          case measure => simp [intOf]; omega
        · have t2 : ¬ ((t : Int) + 1 < 4) := by omega
          clear hav hra hon
          go_wp2
          go_roundw
          case rel =>
            refine ⟨1, by omega, by first | rfl | go_num, ?_, ⟨fun x hx => ?_, fun x hx => ?_, HRA.out, HON.out.room P2.out.1.ro (by omega), HON.out.room P2.out.1.rr (by omega), P2.out.1.below.trans (HON.out.below w.heap.size P2.out.1.below.size (fun z e => by have := HPE.out; omega))⟩⟩
            · show _ = Value.int .i64 ((mS m 0 / (4 - 0) : Nat) : Int)
              rw [← HM.out, show 4 - 0 = 4 from rfl, ← Hq.out]
            · rw [HAV.out x hx]
              congr 3
              show _ = (if mS m 0 % (4 - 0) ≤ x ∧ x + 1 < 4 - 0 then aS m 0 (x + 1) else aS m 0 x)
              rw [← HM.out, show 4 - 0 = 4 from rfl, ← Hj.out]
              by_cases e : j ≤ x ∧ x < t
              · rw [if_pos e, if_pos (by omega)]
              · rw [if_neg e, if_neg (by omega)]
            · by_cases e : x = 0
              · subst e; exact HON.out.keep P2.out.2 (by show ¬ P + 1 + 1 = P + 1; omega)
              · exact HON.out.keep (P2.out.1.out x (by omega)) (by show ¬ P + 1 + 1 = P + 1; omega)
          case measure => simp [intOf]
    · obtain ⟨M, hM⟩ : ∃ M, M = mS m 1 := ⟨_, rfl⟩
      obtain ⟨j, hj⟩ : ∃ j, j = M % 3 := ⟨_, rfl⟩
      obtain ⟨q, hq⟩ : ∃ q, q = M / 3 := ⟨_, rfl⟩
      have jlt : j < 3 := by omega
      have HP : Hid (PI w P m 1 w1) := Lib.hid hP
      obtain ⟨Aj, hAj⟩ : ∃ y, y = aS m 1 j := ⟨_, rfl⟩
      have cA := HP.out.av j (by omega)
      rw [← hAj] at cA
      obtain ⟨vo, ko, fo⟩ := HP.out.ro 1 (by omega)
      have e1 : (M : Int) % 3 = j := by omega
      have e2 : (M : Int) / 3 = q := by omega
      have e3 : Int.tmod (M : Int) 3 = j := by rw [Int.tmod_eq_emod_of_nonneg (by omega)]; omega
      have e4 : Int.tdiv (M : Int) 3 = q := by rw [Int.tdiv_eq_ediv_of_nonneg (by omega)]; omega
      have j0 : (0 : Int) ≤ j := by omega
      have j1 : (j : Int) < 3 := by omega
      have q0 : (0 : Int) ≤ q := by omega
      have M0 : (0 : Int) ≤ M := by omega
      have M1 : (M : Int) < 24 := by have := mS_le m 1; omega
      have q1 : (q : Int) < 24 := by omega
      have HM := Lib.hid hM
      have Hj := Lib.hid hj
      have Hq := Lib.hid hq
      have HAj := Lib.hid hAj
      rw [← hM]
      clear hM hj hq hAj hP
      go_wp2
      refine wp_gen (fun W2 hW2 => ?_)
      have P2 : Hid (PI w P m 1 W2 ∧ W2.cell? ⟨P + 1 + 1, 1, none⟩ = some (.int .i64 (pS m 1))) := Lib.hid (by
        rw [hW2]
        refine ⟨⟨fun x hx => by rw [co (by intro e; injection e; omega)]; exact HP.out.av x hx, fun x hx => by rw [co (by intro e; injection e; omega)]; exact HP.out.out x hx, HP.out.ra.setA _ _, HP.out.ro.setA _ _, HP.out.rr.setA _ _, HP.out.below.setCell (by show w.heap.size ≤ P + 1 + 1; have := HPE.out; omega) _⟩, ?_⟩
        rw [cs ko]
        unfold pS
        rw [← HM.out, show 4 - 1 = 3 from rfl, ← Hj.out, ← HAj.out])
      have hl2 : P + 1 + 1 < W2.heap.size := by rw [hW2]; have := block_lt_of_cell ko; simpa [World.setCell] using this
      clear hW2 cA ko fo HP
      go_loopw [9] (fun v wi => ∃ t : Nat, j ≤ t ∧ t < 3 ∧ v = .int .i64 t ∧ (∀ x, x < 4 → wi.cell? ⟨P + 1, x, none⟩ = some (.int .i64 (if j ≤ x ∧ x < t then aS m 1 (x + 1) else aS m 1 x : Nat))) ∧ Room wi (P + 1) 4 ∧ Only (fun z => z = P + 1) W2 wi) (fun v _ => 3 - (intOf v).toNat)
      case atStart => exact ⟨j, Nat.le_refl _, jlt, rfl, fun x hx => by rw [if_neg (by omega)]; exact P2.out.1.av x hx, P2.out.1.ra, Only.refl _⟩
      case round =>
        obtain ⟨t, ht0, ht1, rfl, hav, hra, hon⟩ := hrel
        obtain ⟨wi, rfl⟩ : ∃ wi : World, wi = wr := ⟨_, rfl⟩
        have HAV := Lib.hid hav
        have HRA := Lib.hid hra
        have HON := Lib.hid hon
        have t0 : (0 : Int) ≤ t := by omega
        have t1 : (t : Int) < 3 := by omega
        by_cases hlt : t + 1 < 3
        · have t2 : (t : Int) + 1 < 3 := by omega
          obtain ⟨vt, et, ft⟩ := hra t (by omega)
          have cn := hav (t + 1) (by omega)
          rw [if_neg (by omega)] at cn
          clear hav hra hon
          have hli : P + 1 < wi.heap.size := HRA.out.lt (by omega)
          go_wp2
          go_roundw
          case rel =>
            refine ⟨t + 1, by omega, hlt, by go_num, fun x hx => ?_, HRA.out.setA _ _, HON.out.set _ _ rfl⟩
            by_cases e : x = t
            · subst e
              rw [if_pos (by omega)]
              exact cs et
            · rw [co (by intro h; injection h; omega)]
              have := HAV.out x hx
              by_cases e2 : j ≤ x ∧ x < t
              · rw [if_pos e2] at this; rw [if_pos (by omega)]; exact this
              · rw [if_neg e2] at this; rw [if_neg (by omega)]; exact this
          case measure => simp [intOf]; omega
        · have t2 : ¬ ((t : Int) + 1 < 3) := by omega
          clear hav hra hon
          go_wp2
          go_roundw
          case rel =>
            refine ⟨2, by omega, by first | rfl | go_num, ?_, ⟨fun x hx => ?_, fun x hx => ?_, HRA.out, HON.out.room P2.out.1.ro (by omega), HON.out.room P2.out.1.rr (by omega), P2.out.1.below.trans (HON.out.below w.heap.size P2.out.1.below.size (fun z e => by have := HPE.out; omega))⟩⟩
            · show _ = Value.int .i64 ((mS m 1 / (4 - 1) : Nat) : Int)
              rw [← HM.out, show 4 - 1 = 3 from rfl, ← Hq.out]
            · rw [HAV.out x hx]
              congr 3
              show _ = (if mS m 1 % (4 - 1) ≤ x ∧ x + 1 < 4 - 1 then aS m 1 (x + 1) else aS m 1 x)
              rw [← HM.out, show 4 - 1 = 3 from rfl, ← Hj.out]
              by_cases e : j ≤ x ∧ x < t
              · rw [if_pos e, if_pos (by omega)]
              · rw [if_neg e, if_neg (by omega)]
            · by_cases e : x = 1
              · subst e; exact HON.out.keep P2.out.2 (by show ¬ P + 1 + 1 = P + 1; omega)
              · exact HON.out.keep (P2.out.1.out x (by omega)) (by show ¬ P + 1 + 1 = P + 1; omega)
          case measure => simp [intOf]
    · obtain ⟨M, hM⟩ : ∃ M, M = mS m 2 := ⟨_, rfl⟩
      obtain ⟨j, hj⟩ : ∃ j, j = M % 2 := ⟨_, rfl⟩
      obtain ⟨q, hq⟩ : ∃ q, q = M / 2 := ⟨_, rfl⟩
      have jlt : j < 2 := by omega
      have HP : Hid (PI w P m 2 w1) := Lib.hid hP
      obtain ⟨Aj, hAj⟩ : ∃ y, y = aS m 2 j := ⟨_, rfl⟩
      have cA := HP.out.av j (by omega)
      rw [← hAj] at cA
      obtain ⟨vo, ko, fo⟩ := HP.out.ro 2 (by omega)
      have e1 : (M : Int) % 2 = j := by omega
      have e2 : (M : Int) / 2 = q := by omega
      have e3 : Int.tmod (M : Int) 2 = j := by rw [Int.tmod_eq_emod_of_nonneg (by omega)]; omega
      have e4 : Int.tdiv (M : Int) 2 = q := by rw [Int.tdiv_eq_ediv_of_nonneg (by omega)]; omega
      have j0 : (0 : Int) ≤ j := by omega
      have j1 : (j : Int) < 2 := by omega
      have q0 : (0 : Int) ≤ q := by omega
      have M0 : (0 : Int) ≤ M := by omega
      have M1 : (M : Int) < 24 := by have := mS_le m 2; omega
      have q1 : (q : Int) < 24 := by omega
      have HM := Lib.hid hM
      have Hj := Lib.hid hj
      have Hq := Lib.hid hq
      have HAj := Lib.hid hAj
      rw [← hM]
      clear hM hj hq hAj hP
      go_wp2
      refine wp_gen (fun W2 hW2 => ?_)
      have P2 : Hid (PI w P m 2 W2 ∧ W2.cell? ⟨P + 1 + 1, 2, none⟩ = some (.int .i64 (pS m 2))) := Lib.hid (by
        rw [hW2]
        refine ⟨⟨fun x hx => by rw [co (by intro e; injection e; omega)]; exact HP.out.av x hx, fun x hx => by rw [co (by intro e; injection e; omega)]; exact HP.out.out x hx, HP.out.ra.setA _ _, HP.out.ro.setA _ _, HP.out.rr.setA _ _, HP.out.below.setCell (by show w.heap.size ≤ P + 1 + 1; have := HPE.out; omega) _⟩, ?_⟩
        rw [cs ko]
        unfold pS
        rw [← HM.out, show 4 - 2 = 2 from rfl, ← Hj.out, ← HAj.out])
      have hl2 : P + 1 + 1 < W2.heap.size := by rw [hW2]; have := block_lt_of_cell ko; simpa [World.setCell] using this
      clear hW2 cA ko fo HP
      go_loopw [9] (fun v wi => ∃ t : Nat, j ≤ t ∧ t < 2 ∧ v = .int .i64 t ∧ (∀ x, x < 4 → wi.cell? ⟨P + 1, x, none⟩ = some (.int .i64 (if j ≤ x ∧ x < t then aS m 2 (x + 1) else aS m 2 x : Nat))) ∧ Room wi (P + 1) 4 ∧ Only (fun z => z = P + 1) W2 wi) (fun v _ => 2 - (intOf v).toNat)
      case atStart => exact ⟨j, Nat.le_refl _, jlt, rfl, fun x hx => by rw [if_neg (by omega)]; exact P2.out.1.av x hx, P2.out.1.ra, Only.refl _⟩
      case round =>
        obtain ⟨t, ht0, ht1, rfl, hav, hra, hon⟩ := hrel
        obtain ⟨wi, rfl⟩ : ∃ wi : World, wi = wr := ⟨_, rfl⟩
        have HAV := Lib.hid hav
        have HRA := Lib.hid hra
        have HON := Lib.hid hon
        have t0 : (0 : Int) ≤ t := by omega
        have t1 : (t : Int) < 2 := by omega
        by_cases hlt : t + 1 < 2
        · have t2 : (t : Int) + 1 < 2 := by omega
          obtain ⟨vt, et, ft⟩ := hra t (by omega)
          have cn := hav (t + 1) (by omega)
          rw [if_neg (by omega)] at cn
          clear hav hra hon
          have hli : P + 1 < wi.heap.size := HRA.out.lt (by omega)
          go_wp2
          go_roundw
          case rel =>
            refine ⟨t + 1, by omega, hlt, by go_num, fun x hx => ?_, HRA.out.setA _ _, HON.out.set _ _ rfl⟩
            by_cases e : x = t
            · subst e
              rw [if_pos (by omega)]
              exact cs et
            · rw [co (by intro h; injection h; omega)]
              have := HAV.out x hx
              by_cases e2 : j ≤ x ∧ x < t
              · rw [if_pos e2] at this; rw [if_pos (by omega)]; exact this
              · rw [if_neg e2] at this; rw [if_neg (by omega)]; exact this
          case measure => simp [intOf]; omega
        · have t2 : ¬ ((t : Int) + 1 < 2) := by omega
          clear hav hra hon
          go_wp2
          go_roundw
          case rel =>
            refine ⟨3, by omega, by first | rfl | go_num, ?_, ⟨fun x hx => ?_, fun x hx => ?_, HRA.out, HON.out.room P2.out.1.ro (by omega), HON.out.room P2.out.1.rr (by omega), P2.out.1.below.trans (HON.out.below w.heap.size P2.out.1.below.size (fun z e => by have := HPE.out; omega))⟩⟩
            · show _ = Value.int .i64 ((mS m 2 / (4 - 2) : Nat) : Int)
              rw [← HM.out, show 4 - 2 = 2 from rfl, ← Hq.out]
            · rw [HAV.out x hx]
              congr 3
              show _ = (if mS m 2 % (4 - 2) ≤ x ∧ x + 1 < 4 - 2 then aS m 2 (x + 1) else aS m 2 x)
              rw [← HM.out, show 4 - 2 = 2 from rfl, ← Hj.out]
              by_cases e : j ≤ x ∧ x < t
              · rw [if_pos e, if_pos (by omega)]
              · rw [if_neg e, if_neg (by omega)]
            · by_cases e : x = 2
              · subst e; exact HON.out.keep P2.out.2 (by show ¬ P + 1 + 1 = P + 1; omega)
              · exact HON.out.keep (P2.out.1.out x (by omega)) (by show ¬ P + 1 + 1 = P + 1; omega)
          case measure => simp [intOf]
    · obtain ⟨M, hM⟩ : ∃ M, M = mS m 3 := ⟨_, rfl⟩
      obtain ⟨j, hj⟩ : ∃ j, j = M % 1 := ⟨_, rfl⟩
      obtain ⟨q, hq⟩ : ∃ q, q = M / 1 := ⟨_, rfl⟩
      have jlt : j < 1 := by omega
      have HP : Hid (PI w P m 3 w1) := Lib.hid hP
      obtain ⟨Aj, hAj⟩ : ∃ y, y = aS m 3 j := ⟨_, rfl⟩
      have cA := HP.out.av j (by omega)
      rw [← hAj] at cA
      obtain ⟨vo, ko, fo⟩ := HP.out.ro 3 (by omega)
      have e1 : (M : Int) % 1 = j := by omega
      have e2 : (M : Int) / 1 = q := by omega
      have e3 : Int.tmod (M : Int) 1 = j := by rw [Int.tmod_eq_emod_of_nonneg (by omega)]; omega
      have e4 : Int.tdiv (M : Int) 1 = q := by rw [Int.tdiv_eq_ediv_of_nonneg (by omega)]; omega
      have j0 : (0 : Int) ≤ j := by omega
      have j1 : (j : Int) < 1 := by omega
      have q0 : (0 : Int) ≤ q := by omega
      have M0 : (0 : Int) ≤ M := by omega
      have M1 : (M : Int) < 24 := by have := mS_le m 3; omega
      have q1 : (q : Int) < 24 := by omega
      have HM := Lib.hid hM
      have Hj := Lib.hid hj
      have Hq := Lib.hid hq
      have HAj := Lib.hid hAj
      rw [← hM]
      clear hM hj hq hAj hP
      go_wp2
      refine wp_gen (fun W2 hW2 => ?_)
      have P2 : Hid (PI w P m 3 W2 ∧ W2.cell? ⟨P + 1 + 1, 3, none⟩ = some (.int .i64 (pS m 3))) := Lib.hid (by
        rw [hW2]
        refine ⟨⟨fun x hx => by rw [co (by intro e; injection e; omega)]; exact HP.out.av x hx, fun x hx => by rw [co (by intro e; injection e; omega)]; exact HP.out.out x hx, HP.out.ra.setA _ _, HP.out.ro.setA _ _, HP.out.rr.setA _ _, HP.out.below.setCell (by show w.heap.size ≤ P + 1 + 1; have := HPE.out; omega) _⟩, ?_⟩
        rw [cs ko]
        unfold pS
        rw [← HM.out, show 4 - 3 = 1 from rfl, ← Hj.out, ← HAj.out])
      have hl2 : P + 1 + 1 < W2.heap.size := by rw [hW2]; have := block_lt_of_cell ko; simpa [World.setCell] using this
      clear hW2 cA ko fo HP
      go_loopw [9] (fun v wi => ∃ t : Nat, j ≤ t ∧ t < 1 ∧ v = .int .i64 t ∧ (∀ x, x < 4 → wi.cell? ⟨P + 1, x, none⟩ = some (.int .i64 (if j ≤ x ∧ x < t then aS m 3 (x + 1) else aS m 3 x : Nat))) ∧ Room wi (P + 1) 4 ∧ Only (fun z => z = P + 1) W2 wi) (fun v _ => 1 - (intOf v).toNat)
      case atStart => exact ⟨j, Nat.le_refl _, jlt, rfl, fun x hx => by rw [if_neg (by omega)]; exact P2.out.1.av x hx, P2.out.1.ra, Only.refl _⟩
      case round =>
        obtain ⟨t, ht0, ht1, rfl, hav, hra, hon⟩ := hrel
        obtain ⟨wi, rfl⟩ : ∃ wi : World, wi = wr := ⟨_, rfl⟩
        have HAV := Lib.hid hav
        have HRA := Lib.hid hra
        have HON := Lib.hid hon
        have t0 : (0 : Int) ≤ t := by omega
        have t1 : (t : Int) < 1 := by omega
        by_cases hlt : t + 1 < 1
        · exfalso; omega
        · have t2 : ¬ ((t : Int) + 1 < 1) := by omega
          clear hav hra hon
          go_wp2
          go_roundw
          case rel =>
            refine ⟨4, by omega, by first | rfl | go_num, ?_, ⟨fun x hx => ?_, fun x hx => ?_, HRA.out, HON.out.room P2.out.1.ro (by omega), HON.out.room P2.out.1.rr (by omega), P2.out.1.below.trans (HON.out.below w.heap.size P2.out.1.below.size (fun z e => by have := HPE.out; omega))⟩⟩
            · show _ = Value.int .i64 ((mS m 3 / (4 - 3) : Nat) : Int)
              rw [← HM.out, show 4 - 3 = 1 from rfl, ← Hq.out]
            · rw [HAV.out x hx]
              congr 3
              show _ = (if mS m 3 % (4 - 3) ≤ x ∧ x + 1 < 4 - 3 then aS m 3 (x + 1) else aS m 3 x)
              rw [← HM.out, show 4 - 3 = 1 from rfl, ← Hj.out]
              by_cases e : j ≤ x ∧ x < t
              · rw [if_pos e, if_pos (by omega)]
              · rw [if_neg e, if_neg (by omega)]
            · by_cases e : x = 3
              · subst e; exact HON.out.keep P2.out.2 (by show ¬ P + 1 + 1 = P + 1; omega)
              · exact HON.out.keep (P2.out.1.out x (by omega)) (by show ¬ P + 1 + 1 = P + 1; omega)
          case measure => simp [intOf]
    · have c0 := hP.out 0 (by omega)
      have c1 := hP.out 1 (by omega)
      have c2 := hP.out 2 (by omega)
      have c3 := hP.out 3 (by omega)
      obtain ⟨v0, e0, f0⟩ := hP.rr 0 (by omega)
      obtain ⟨v1, e1, f1⟩ := hP.rr 1 (by omega)
      obtain ⟨v2, e2, f2⟩ := hP.rr 2 (by omega)
      obtain ⟨v3, e3, f3⟩ := hP.rr 3 (by omega)
      have HP := Lib.hid hP
      clear hP
      go_wp2
      exact bodyPost_ret (v := .agg #[_, _, _, _]) (by simp only [results, Tryd.results4, go_sem, Act.put]; simp [go_sem, e0, e1, e2, e3]) rfl ⟨rfl, ((((HP.out.below.setCell (by show w.heap.size ≤ P; have := HPE.out; omega) _).setCell (by show w.heap.size ≤ P; have := HPE.out; omega) _).setCell (by show w.heap.size ≤ P; have := HPE.out; omega) _).setCell (by show w.heap.size ≤ P; have := HPE.out; omega) _)⟩
end Go.Proofs.YtgijoikmggjopaaDoor
