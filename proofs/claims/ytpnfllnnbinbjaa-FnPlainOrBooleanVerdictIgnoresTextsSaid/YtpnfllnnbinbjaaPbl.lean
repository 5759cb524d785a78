/- FnPlainOrBooleanVerdictIgnoresTexts returns true at every argument (no condition). -/
import Derived.Test.YtpnfllnnbinbjaaPob
import Derived.Deep.DeepCutAuto
import Derived.WalkSpells
namespace Go.Proofs.Ytpnfllnnbinbjaa.fnPlainOrBooleanVerdictIgnoresTexts
open Go.ChangeShapes Go.WideShapes Go.ChangeAt Go.RowKit
open Go.ChangeMaps (open_string shut_string)
set_option linter.unusedVariables false
set_option linter.unusedSimpArgs false
def SomeBool (w : World) (e : Ending) (w' : World) : Prop := ∃ b : Bool, e = .returned (.bool b) ∧ w = w'
def SomeInt (w : World) (e : Ending) (w' : World) : Prop := ∃ b : Int, e = .returned (.int .i64 b) ∧ w = w'
set_option maxRecDepth 100000 in
set_option maxHeartbeats 4000000 in
theorem bytes12_c (A0 A1 : Option Addr) (n c0 n1 c1 : Nat) (X : Nat → ByteArray) (w : World) (h0 : n ≤ maxLen) (h1 : n1 ≤ maxLen) (r1 : RowS w A1 n1 X) :
    Calls Try.prog 12 #[.slice A0 n c0, .slice A1 n1 c1] w (SomeBool w) := by
  unfold maxLen at h0 h1
  have R1 := Lib.hid r1
  clear r1
  go_enter Try.func12, Try.ntmps12
  go_wp2
  any_goals (go_ret; exact ⟨_, rfl, rfl⟩)
  go_loop [5, 6] (fun s i => ∃ k m : Nat, k ≤ n1 ∧ m ≤ 1048576 ∧ s = .int .i64 m ∧ i = .int .i64 k) (fun _ i => n1 - (intOf i).toNat)
  case atStart => exact ⟨0, n + n1, by omega, by omega, by go_num, rfl⟩
  case round =>
    obtain ⟨k, m, hk, hm, rfl, rfl⟩ := hrel
    by_cases hlt : k < n1
    · obtain ⟨x, rfl, hc⟩ := R1.out k hlt
      have i0 : (0 : Int) ≤ k := by omega
      have i1 : (k : Int) < n1 := by omega
      by_cases hb : 1048576 < (X k).size
      · go_wp2
        go_ret
        exact ⟨_, rfl, rfl⟩
      · by_cases hb2 : 1048576 < m + (X k).size
        · go_wp2
          go_ret
          exact ⟨_, rfl, rfl⟩
        · go_wp2
          go_round
          case rel => exact ⟨k + 1, m + (X k).size, by omega, by omega, by go_num, by go_num⟩
          case measure => simp [intOf]; omega
    · go_wp2
      go_ret
      exact ⟨_, rfl, rfl⟩
set_option maxRecDepth 100000 in
set_option maxHeartbeats 4000000 in
theorem size13_c (A1 : Option Addr) (n1 c1 : Nat) (X : Nat → ByteArray) (w : World) (h1 : n1 ≤ 1048576) (r1 : RowS w A1 n1 X) :
    Calls Try.prog 13 #[.slice A1 n1 c1] w (SomeInt w) := by
  have R1 := Lib.hid r1
  clear r1
  go_enter Try.func13, Try.ntmps13
  go_wp2
  go_loop [3, 4] (fun s i => ∃ (k : Nat) (x : Int), k ≤ n1 ∧ s = .int .i64 x ∧ i = .int .i64 k) (fun _ i => n1 - (intOf i).toNat)
  case atStart => exact ⟨0, _, by omega, rfl, rfl⟩
  case round =>
    obtain ⟨k, m, hk, rfl, rfl⟩ := hrel
    by_cases hlt : k < n1
    · obtain ⟨x, rfl, hc⟩ := R1.out k hlt
      have i0 : (0 : Int) ≤ k := by omega
      have i1 : (k : Int) < n1 := by omega
      go_wp2
      · go_ret
        exact ⟨_, rfl, rfl⟩
      · go_round
        case rel => exact ⟨k + 1, _, by omega, rfl, by go_num⟩
        case measure => simp [intOf]; omega
    · go_wp2
      go_ret
      exact ⟨_, rfl, rfl⟩
set_option maxRecDepth 100000 in
set_option maxHeartbeats 4000000 in
theorem parse14_c (A : Option Addr) (T n : Nat) (F : Nat → Tk) (w : World) (hm : n ≤ 1048576) (hA : 0 < n → A = some ⟨T, 0, none⟩) (hA0 : A = none → n = 0) (h : TokB w T 0 n F) : Calls Try.prog 14 #[.slice A n n] w (ParseP T n F w) := by
  have C := Lib.hid (parse25_c A T n F w hm hA hA0 h)
  clear h hA hA0
  by_cases ho : okP n F
  · have O := Lib.hid ho
    clear ho
    go_enter Try.func14, Try.ntmps14
    go_wp2_with (go_at_call 25; (with_reducible refine C.out.mono ?_); rintro e w' ⟨h | ⟨-, q, A', m, c', rfl, h1, h2, h3, h4⟩, h5⟩; exact absurd O.out h.1; replace h1 := Lib.hid h1; replace h2 := Lib.hid h2; replace h3 := Lib.hid h3; replace h5 := Lib.hid h5)
    go_ret2
    exact ⟨.inr ⟨O.out, q, A', m, c', rfl, h1.out, h2.out, h3.out, h4⟩, h5.out⟩
  · have O := Lib.hid ho
    clear ho
    go_enter Try.func14, Try.ntmps14
    go_wp2_with (go_at_call 25; (with_reducible refine C.out.mono ?_); rintro e w' ⟨⟨-, rfl⟩ | ⟨h, -⟩, h5⟩; rotate_left; exact absurd h O.out; replace h5 := Lib.hid h5)
    go_ret2
    exact ⟨.inl ⟨O.out, rfl⟩, h5.out⟩
def YesP (T n : Nat) (F : Nat → Tk) (w : World) (e : Ending) (w' : World) : Prop := ∃ q A' m c', e = .returned (.tuple #[.pointer (some ⟨q, 0, none⟩), .bool true]) ∧ w'.cell? ⟨q, 0, none⟩ = some (.string (F 0).tx) ∧ w'.cell? ⟨q, 1, none⟩ = some (.slice A' m c') ∧ m = (if 1 < n then n - 2 else 0) ∧ w.heap.size ≤ q ∧ Only (fun x => x = T) w w'
theorem parseY (A : Option Addr) (T n : Nat) (F : Nat → Tk) (w : World) (hm : n ≤ 1048576) (hA : 0 < n → A = some ⟨T, 0, none⟩) (hA0 : A = none → n = 0) (h : TokB w T 0 n F) (ho : okP n F) : Calls Try.prog 14 #[.slice A n n] w (YesP T n F w) := (parse14_c A T n F w hm hA hA0 h).mono fun e w' h => by
  obtain ⟨h | ⟨-, q, A', m, c', h0, h1, h2, h3, h4⟩, h5⟩ := h
  · exact absurd ho h.1
  · exact ⟨q, A', m, c', h0, h1, h2, h3, h4, h5⟩
theorem parseN (A : Option Addr) (T n : Nat) (F : Nat → Tk) (w : World) (hm : n ≤ 1048576) (hA : 0 < n → A = some ⟨T, 0, none⟩) (hA0 : A = none → n = 0) (h : TokB w T 0 n F) (ho : ¬ okP n F) : Calls Try.prog 14 #[.slice A n n] w (fun e w' => e = .returned (.tuple #[.pointer none, .bool false]) ∧ Only (fun x => x = T) w w') := (parse14_c A T n F w hm hA hA0 h).mono fun e w' h => by
  obtain ⟨h | ⟨h, -⟩, h5⟩ := h
  · exact ⟨h.2, h5⟩
  · exact absurd h ho
theorem feat15_c (A0 A1 : Option Addr) (n c n1 c1 : Nat) (X : Nat → ByteArray) (K : Nat → Int) (w : World) (hn : n ≤ 1048576) (h0 : A0 = none → n = 0 ∧ c = 0) (r0 : Row .u8 w A0 n K) (r1 : RowS w A1 n1 X) (hK : ∀ i, i < n → 0 ≤ K i ∧ K i ≤ 255) :
    Calls Try.prog 15 #[.slice A0 n c, .slice A1 n1 c1, .slice none 0 0] w (FeatP w n (pF n1 X K)) := by
  cases A0 with
  | none => obtain ⟨rfl, rfl⟩ := h0 rfl; exact feat15_nil A1 n1 c1 X K w
  | some x => exact feat15_some x A1 n c n1 c1 X K w hn r0 r1 hK
theorem rowS_none (w : World) (X : Nat → ByteArray) : RowS w none 0 X := fun i hi => absurd hi (by omega)
set_option maxRecDepth 100000 in
set_option maxHeartbeats 4000000 in
theorem mainA (A0 A1 : Option Addr) (n c0 n1 c1 : Nat) (X : Nat → ByteArray) (K : Nat → Int) (w : World) (m0 : n ≤ maxLen) (m1 : n1 ≤ maxLen) (hA : A0 = none → n = 0 ∧ c0 = 0) (r0 : Row .u8 w A0 n K) (r1 : RowS w A1 n1 X) (hK : ∀ i, i < n → 0 ≤ K i ∧ K i ≤ 255) (h : 1048576 < n) :
    Calls Try.prog 4 #[.slice A0 n c0, .slice A1 n1 c1] w fun e w' => e = .returned (.bool true) ∧ Below w.heap.size w w' := by
  have C12 := Lib.hid (bytes12_c A0 A1 n c0 n1 c1 X w m0 m1 r1)
  have R0 := Lib.hid r0; have R1 := Lib.hid r1; have HK := Lib.hid hK; have HN := Lib.hid hA
  clear r0 r1 hK hA
  unfold maxLen at m0 m1
  go_enter Try.func4, Try.ntmps4
  go_wp2_with (go_at_call 12; (with_reducible refine C12.out.mono ?_); rintro e w' ⟨b, rfl, rfl⟩; cases b)
  all_goals (go_ret; exact ⟨rfl, Below.refl _ _⟩)
set_option maxRecDepth 100000 in
set_option maxHeartbeats 4000000 in
theorem mainB (A0 A1 : Option Addr) (n c0 n1 c1 : Nat) (X : Nat → ByteArray) (K : Nat → Int) (w : World) (m0 : n ≤ maxLen) (m1 : n1 ≤ maxLen) (hA : A0 = none → n = 0 ∧ c0 = 0) (r0 : Row .u8 w A0 n K) (r1 : RowS w A1 n1 X) (hK : ∀ i, i < n → 0 ≤ K i ∧ K i ≤ 255) (h : n ≤ 1048576) (h1 : 131072 < n1) :
    Calls Try.prog 4 #[.slice A0 n c0, .slice A1 n1 c1] w fun e w' => e = .returned (.bool true) ∧ Below w.heap.size w w' := by
  have C12 := Lib.hid (bytes12_c A0 A1 n c0 n1 c1 X w m0 m1 r1)
  have R0 := Lib.hid r0; have R1 := Lib.hid r1; have HK := Lib.hid hK; have HN := Lib.hid hA
  clear r0 r1 hK hA
  unfold maxLen at m0 m1
  go_enter Try.func4, Try.ntmps4
  go_wp2_with (go_at_call 12; (with_reducible refine C12.out.mono ?_); rintro e w' ⟨b, rfl, rfl⟩; cases b)
  all_goals (go_ret; exact ⟨rfl, Below.refl _ _⟩)
set_option maxRecDepth 100000 in
set_option maxHeartbeats 4000000 in
theorem mainN (A0 A1 : Option Addr) (n c0 n1 c1 : Nat) (X : Nat → ByteArray) (K : Nat → Int) (w : World) (m0 : n ≤ maxLen) (m1 : n1 ≤ maxLen) (hA : A0 = none → n = 0 ∧ c0 = 0) (r0 : Row .u8 w A0 n K) (r1 : RowS w A1 n1 X) (hK : ∀ i, i < n → 0 ≤ K i ∧ K i ≤ 255) (h : n ≤ 1048576) (h1 : n1 ≤ 131072) (ho : ¬ okP n (pF n1 X K)) :
    Calls Try.prog 4 #[.slice A0 n c0, .slice A1 n1 c1] w fun e w' => e = .returned (.bool true) ∧ Below w.heap.size w w' := by
  have C12 := Lib.hid (bytes12_c A0 A1 n c0 n1 c1 X w m0 m1 r1)
  have R0 := Lib.hid r0; have R1 := Lib.hid r1; have HK := Lib.hid hK; have HN := Lib.hid hA
  clear r0 r1 hK hA
  unfold maxLen at m0 m1
  have ho2 : ¬ okP n (pF 0 X K) := fun h => ho ((okP_kinds (fun i => rfl)).1 h)
  have O := Lib.hid ho; have O2 := Lib.hid ho2
  clear ho ho2
  have C13 := Lib.hid (size13_c A1 n1 c1 X w (by omega) R1.out)
  have C15 := Lib.hid (feat15_c A0 A1 n c0 n1 c1 X K w h HN.out R0.out R1.out HK.out)
  go_enter Try.func4, Try.ntmps4
  go_upto_region 7 with (first | (go_at_call 12; (with_reducible refine C12.out.mono ?_); rintro e w' ⟨b, rfl, rfl⟩; cases b) | (go_at_call 13; (with_reducible refine C13.out.mono ?_); rintro e w' ⟨b, rfl, rfl⟩))
  any_goals (go_ret; exact ⟨rfl, Below.refl _ _⟩)
  go_upto_region 8 with (first | (go_at_call 15; (with_reducible refine C15.out.mono ?_); rintro e w1 ⟨A, T, rfl, g1, g2, g3, g4, htk, hb⟩; have C14 := Lib.hid (parseN A T n _ w1 h g1 g2 htk O.out); replace hb := Lib.hid hb; clear g1 g2 htk) | (go_at_call 14; (with_reducible refine C14.out.mono ?_); rintro e w2 ⟨rfl, ho⟩; replace hb := Lib.hid (hb.out.trans (ho.below _ hb.out.size (fun b e => by subst e; exact g3))); have hs := ho.size; clear ho))
  have C15b := Lib.hid (feat15_c A0 none n c0 0 0 X K w2 h HN.out (R0.out.after hb.out) (rowS_none _ _) HK.out)
  go_wp2_with (first | (go_at_call 15; (with_reducible refine C15b.out.mono ?_); rintro e w3 ⟨A', T', rfl, g1, g2, g3, g4, htk, hb2⟩; have C14b := Lib.hid (parseN A' T' n _ w3 h g1 g2 htk O2.out); have hz := hb.out.size; replace hb := Lib.hid (hb.out.trans (hb2.mono hb.out.size)); clear g1 g2 htk hb2) | (go_at_call 14; (with_reducible refine C14b.out.mono ?_); rintro e w4 ⟨rfl, ho⟩; replace hb := Lib.hid (hb.out.trans (ho.below _ hb.out.size (fun b e => by subst e; omega))); clear ho))
  go_ret
  exact ⟨rfl, hb.out⟩
set_option maxRecDepth 100000 in
set_option maxHeartbeats 4000000 in
theorem mainY1 (A0 A1 : Option Addr) (c0 n1 c1 : Nat) (X : Nat → ByteArray) (K : Nat → Int) (w : World)  (m1 : n1 ≤ maxLen) (hA : A0 = none → 1 = 0 ∧ c0 = 0) (r0 : Row .u8 w A0 1 K) (r1 : RowS w A1 n1 X) (hK : ∀ i, i < 1 → 0 ≤ K i ∧ K i ≤ 255) (h1 : n1 ≤ 131072) (ho : okP 1 (pF n1 X K)) :
    Calls Try.prog 4 #[.slice A0 1 c0, .slice A1 n1 c1] w fun e w' => e = .returned (.bool true) ∧ Below w.heap.size w w' := by
  have C12 := Lib.hid (bytes12_c A0 A1 1 c0 n1 c1 X w (by unfold maxLen; omega) m1 r1)
  have R0 := Lib.hid r0; have R1 := Lib.hid r1; have HK := Lib.hid hK; have HN := Lib.hid hA
  clear r0 r1 hK hA
  unfold maxLen at m1
  have ho2 : okP 1 (pF 0 X K) := (okP_kinds (fun i => rfl)).1 ho
  have O := Lib.hid ho; have O2 := Lib.hid ho2
  clear ho ho2
  have C13 := Lib.hid (size13_c A1 n1 c1 X w (by omega) R1.out)
  have C15 := Lib.hid (feat15_c A0 A1 1 c0 n1 c1 X K w (by omega) HN.out R0.out R1.out HK.out)
  go_enter Try.func4, Try.ntmps4
  go_upto_region 7 with (first | (go_at_call 12; (with_reducible refine C12.out.mono ?_); rintro e w' ⟨b, rfl, rfl⟩; cases b) | (go_at_call 13; (with_reducible refine C13.out.mono ?_); rintro e w' ⟨b, rfl, rfl⟩))
  any_goals (go_ret; exact ⟨rfl, Below.refl _ _⟩)
  go_upto_region 8 with (first | (go_at_call 15; (with_reducible refine C15.out.mono ?_); rintro e w1 ⟨A, T, rfl, g1, g2, g3, g4, htk, hb⟩; have C14 := Lib.hid (parseY A T 1 _ w1 (by omega) g1 g2 htk O.out); replace hb := Lib.hid hb; clear g1 g2 htk) | (go_at_call 14; (with_reducible refine C14.out.mono ?_); rintro e w2 ⟨q, Aq, m, cq, rfl, -, d1, rfl, d2, ho⟩; replace d1 := Lib.hid d1; replace hb := Lib.hid (hb.out.trans (ho.below _ hb.out.size (fun b e => by subst e; exact g3))); have hs := ho.size; clear ho))
  have C15b := Lib.hid (feat15_c A0 none 1 c0 0 0 X K w2 (by omega) HN.out (R0.out.after hb.out) (rowS_none _ _) HK.out)
  go_upto_region 9 with (first | (go_at_call 15; (with_reducible refine C15b.out.mono ?_); rintro e w3 ⟨A', T', rfl, g1, g2, g3', g4', htk, hb2⟩; have C14b := Lib.hid (parseY A' T' 1 _ w3 (by omega) g1 g2 htk O2.out); have hz := hb.out.size; have hql : q < w2.heap.size := block_lt_of_cell d1.out; replace d1 := Lib.hid (ac hb2 d1.out); replace hb := Lib.hid (hb.out.trans (hb2.mono hb.out.size)); clear g1 g2 htk hb2) | (go_at_call 14; (with_reducible refine C14b.out.mono ?_); rintro e w4 ⟨q', Aq', m', cq', rfl, d3, d4, rfl, d5, ho⟩; replace d1 := Lib.hid (ho.keep d1.out (fun e => by dsimp only at e; omega)); replace hb := Lib.hid (hb.out.trans (ho.below _ hb.out.size (fun b e => by subst e; omega))); clear ho))
  have D1 := d1.out
  simp only [Nat.reduceLT, if_true, if_false, Nat.reduceSub, Nat.lt_irrefl] at D1 d4
  have D3 : (pF 0 X K 0).tx = ⟨#[]⟩ := rfl
  rw [D3] at d3
  clear D3 d1
  go_wp2
  go_ret
  exact ⟨rfl, hb.out⟩
set_option maxRecDepth 100000 in
set_option maxHeartbeats 4000000 in
theorem mainY3 (A0 A1 : Option Addr) (c0 n1 c1 : Nat) (X : Nat → ByteArray) (K : Nat → Int) (w : World)  (m1 : n1 ≤ maxLen) (hA : A0 = none → 3 = 0 ∧ c0 = 0) (r0 : Row .u8 w A0 3 K) (r1 : RowS w A1 n1 X) (hK : ∀ i, i < 3 → 0 ≤ K i ∧ K i ≤ 255) (h1 : n1 ≤ 131072) (ho : okP 3 (pF n1 X K)) :
    Calls Try.prog 4 #[.slice A0 3 c0, .slice A1 n1 c1] w fun e w' => e = .returned (.bool true) ∧ Below w.heap.size w w' := by
  have C12 := Lib.hid (bytes12_c A0 A1 3 c0 n1 c1 X w (by unfold maxLen; omega) m1 r1)
  have R0 := Lib.hid r0; have R1 := Lib.hid r1; have HK := Lib.hid hK; have HN := Lib.hid hA
  clear r0 r1 hK hA
  unfold maxLen at m1
  have ho2 : okP 3 (pF 0 X K) := (okP_kinds (fun i => rfl)).1 ho
  have O := Lib.hid ho; have O2 := Lib.hid ho2
  clear ho ho2
  have C13 := Lib.hid (size13_c A1 n1 c1 X w (by omega) R1.out)
  have C15 := Lib.hid (feat15_c A0 A1 3 c0 n1 c1 X K w (by omega) HN.out R0.out R1.out HK.out)
  go_enter Try.func4, Try.ntmps4
  go_upto_region 7 with (first | (go_at_call 12; (with_reducible refine C12.out.mono ?_); rintro e w' ⟨b, rfl, rfl⟩; cases b) | (go_at_call 13; (with_reducible refine C13.out.mono ?_); rintro e w' ⟨b, rfl, rfl⟩))
  any_goals (go_ret; exact ⟨rfl, Below.refl _ _⟩)
  go_upto_region 8 with (first | (go_at_call 15; (with_reducible refine C15.out.mono ?_); rintro e w1 ⟨A, T, rfl, g1, g2, g3, g4, htk, hb⟩; have C14 := Lib.hid (parseY A T 3 _ w1 (by omega) g1 g2 htk O.out); replace hb := Lib.hid hb; clear g1 g2 htk) | (go_at_call 14; (with_reducible refine C14.out.mono ?_); rintro e w2 ⟨q, Aq, m, cq, rfl, -, d1, rfl, d2, ho⟩; replace d1 := Lib.hid d1; replace hb := Lib.hid (hb.out.trans (ho.below _ hb.out.size (fun b e => by subst e; exact g3))); have hs := ho.size; clear ho))
  have C15b := Lib.hid (feat15_c A0 none 3 c0 0 0 X K w2 (by omega) HN.out (R0.out.after hb.out) (rowS_none _ _) HK.out)
  go_upto_region 9 with (first | (go_at_call 15; (with_reducible refine C15b.out.mono ?_); rintro e w3 ⟨A', T', rfl, g1, g2, g3', g4', htk, hb2⟩; have C14b := Lib.hid (parseY A' T' 3 _ w3 (by omega) g1 g2 htk O2.out); have hz := hb.out.size; have hql : q < w2.heap.size := block_lt_of_cell d1.out; replace d1 := Lib.hid (ac hb2 d1.out); replace hb := Lib.hid (hb.out.trans (hb2.mono hb.out.size)); clear g1 g2 htk hb2) | (go_at_call 14; (with_reducible refine C14b.out.mono ?_); rintro e w4 ⟨q', Aq', m', cq', rfl, d3, d4, rfl, d5, ho⟩; replace d1 := Lib.hid (ho.keep d1.out (fun e => by dsimp only at e; omega)); replace hb := Lib.hid (hb.out.trans (ho.below _ hb.out.size (fun b e => by subst e; omega))); clear ho))
  have D1 := d1.out
  simp only [Nat.reduceLT, if_true, if_false, Nat.reduceSub, Nat.lt_irrefl] at D1 d4
  have D3 : (pF 0 X K 0).tx = ⟨#[]⟩ := rfl
  rw [D3] at d3
  clear D3 d1
  go_wp2
  go_ret
  exact ⟨rfl, hb.out⟩
set_option maxRecDepth 100000 in
set_option maxHeartbeats 4000000 in
theorem mainY5 (A0 A1 : Option Addr) (c0 n1 c1 : Nat) (X : Nat → ByteArray) (K : Nat → Int) (w : World)  (m1 : n1 ≤ maxLen) (hA : A0 = none → 5 = 0 ∧ c0 = 0) (r0 : Row .u8 w A0 5 K) (r1 : RowS w A1 n1 X) (hK : ∀ i, i < 5 → 0 ≤ K i ∧ K i ≤ 255) (h1 : n1 ≤ 131072) (ho : okP 5 (pF n1 X K)) :
    Calls Try.prog 4 #[.slice A0 5 c0, .slice A1 n1 c1] w fun e w' => e = .returned (.bool true) ∧ Below w.heap.size w w' := by
  have C12 := Lib.hid (bytes12_c A0 A1 5 c0 n1 c1 X w (by unfold maxLen; omega) m1 r1)
  have R0 := Lib.hid r0; have R1 := Lib.hid r1; have HK := Lib.hid hK; have HN := Lib.hid hA
  clear r0 r1 hK hA
  unfold maxLen at m1
  have ho2 : okP 5 (pF 0 X K) := (okP_kinds (fun i => rfl)).1 ho
  have O := Lib.hid ho; have O2 := Lib.hid ho2
  clear ho ho2
  have C13 := Lib.hid (size13_c A1 n1 c1 X w (by omega) R1.out)
  have C15 := Lib.hid (feat15_c A0 A1 5 c0 n1 c1 X K w (by omega) HN.out R0.out R1.out HK.out)
  go_enter Try.func4, Try.ntmps4
  go_upto_region 7 with (first | (go_at_call 12; (with_reducible refine C12.out.mono ?_); rintro e w' ⟨b, rfl, rfl⟩; cases b) | (go_at_call 13; (with_reducible refine C13.out.mono ?_); rintro e w' ⟨b, rfl, rfl⟩))
  any_goals (go_ret; exact ⟨rfl, Below.refl _ _⟩)
  go_upto_region 8 with (first | (go_at_call 15; (with_reducible refine C15.out.mono ?_); rintro e w1 ⟨A, T, rfl, g1, g2, g3, g4, htk, hb⟩; have C14 := Lib.hid (parseY A T 5 _ w1 (by omega) g1 g2 htk O.out); replace hb := Lib.hid hb; clear g1 g2 htk) | (go_at_call 14; (with_reducible refine C14.out.mono ?_); rintro e w2 ⟨q, Aq, m, cq, rfl, -, d1, rfl, d2, ho⟩; replace d1 := Lib.hid d1; replace hb := Lib.hid (hb.out.trans (ho.below _ hb.out.size (fun b e => by subst e; exact g3))); have hs := ho.size; clear ho))
  have C15b := Lib.hid (feat15_c A0 none 5 c0 0 0 X K w2 (by omega) HN.out (R0.out.after hb.out) (rowS_none _ _) HK.out)
  go_upto_region 9 with (first | (go_at_call 15; (with_reducible refine C15b.out.mono ?_); rintro e w3 ⟨A', T', rfl, g1, g2, g3', g4', htk, hb2⟩; have C14b := Lib.hid (parseY A' T' 5 _ w3 (by omega) g1 g2 htk O2.out); have hz := hb.out.size; have hql : q < w2.heap.size := block_lt_of_cell d1.out; replace d1 := Lib.hid (ac hb2 d1.out); replace hb := Lib.hid (hb.out.trans (hb2.mono hb.out.size)); clear g1 g2 htk hb2) | (go_at_call 14; (with_reducible refine C14b.out.mono ?_); rintro e w4 ⟨q', Aq', m', cq', rfl, d3, d4, rfl, d5, ho⟩; replace d1 := Lib.hid (ho.keep d1.out (fun e => by dsimp only at e; omega)); replace hb := Lib.hid (hb.out.trans (ho.below _ hb.out.size (fun b e => by subst e; omega))); clear ho))
  have D1 := d1.out
  simp only [Nat.reduceLT, if_true, if_false, Nat.reduceSub, Nat.lt_irrefl] at D1 d4
  have D3 : (pF 0 X K 0).tx = ⟨#[]⟩ := rfl
  rw [D3] at d3
  clear D3 d1
  go_wp2
  go_ret
  exact ⟨rfl, hb.out⟩
theorem walk (a0 : Option Addr) (n0 : Nat) (c0 : Nat) (f0 : Nat → Int) (a1 : Option Addr) (n1 : Nat) (c1 : Nat) (f1 : Nat → ByteArray) (w : World) (w0 : ArgI .u8 w a0 n0 c0 f0) (w1 : ArgS w a1 n1 c1 f1) :
    Calls Try.prog 4 #[.slice a0 n0 c0, .slice a1 n1 c1] w fun e w' => e = .returned (.bool true) ∧ Below w.heap.size w w' := by
  have m0 : n0 ≤ maxLen := Nat.le_trans w0.le w0.max
  have m1 : n1 ≤ maxLen := Nat.le_trans w1.le w1.max
  have hK : ∀ i, i < n0 → 0 ≤ f0 i ∧ f0 i ≤ 255 := fun i hi => by
    have h := w0.wf i hi
    have e1 : IntKind.u8.min = 0 := by decide
    have e2 : IntKind.u8.max = 255 := by decide
    simp [Lit.wf] at h; omega
  by_cases h : 1048576 < n0
  · exact mainA a0 a1 n0 c0 n1 c1 f1 f0 w m0 m1 w0.nil w0.row w1.row hK h
  by_cases h1 : 131072 < n1
  · exact mainB a0 a1 n0 c0 n1 c1 f1 f0 w m0 m1 w0.nil w0.row w1.row hK (by omega) h1
  by_cases ho : okP n0 (pF n1 f1 f0)
  · rcases okP_n ho with rfl | rfl | rfl
    · exact mainY1 a0 a1 c0 n1 c1 f1 f0 w m1 w0.nil w0.row w1.row hK (by omega) ho
    · exact mainY3 a0 a1 c0 n1 c1 f1 f0 w m1 w0.nil w0.row w1.row hK (by omega) ho
    · exact mainY5 a0 a1 c0 n1 c1 f1 f0 w m1 w0.nil w0.row w1.row hK (by omega) ho
  · exact mainN a0 a1 n0 c0 n1 c1 f1 f0 w m0 m1 w0.nil w0.row w1.row hK (by omega) (by omega) ho
theorem own : ownKnob Try.prog.godebug = none := by kernel_rfl
theorem laidOut : laidOutB Try.prog = true := by kernel_rfl
set_option maxRecDepth 100000 in
theorem lifted (os : Os) (started : os.Started) (H : Type) (enc : TypeId × Value → H) :
    ReturnsInHanded {} Try.checked os 4 .any (Rows.fnPlainOrBooleanVerdictIgnoresTextsSpec.pre6 enc Try.prog Try.f4 Rows.fnPlainOrBooleanVerdictIgnoresTextsRow.domain false) (Rows.fnPlainOrBooleanVerdictIgnoresTextsSpec.post enc Try.prog Try.f4 false true false false) := by
  refine returnsInHanded_of_change (C := Try.checked) own started (by kernel_rfl) Try.func4
    (ChangeSpec.witness6 (enc := enc) (C := Try.checked) false ⟨#[], #[.slice none 0 0, .slice none 0 0], []⟩ 8 (by kernel_rfl) (by kernel_rfl) (by kernel_rfl) (by kernel_rfl)) ?_
  intro W base args ds gs before hval0 hW hcnd _
  have hval : ∀ (j : Nat) t v, Try.f4.params[j]? = some t → args[j]? = some v → Value.okWide Try.prog W .any base t v := hval0
  have hW' := hW
  obtain ⟨p, q, hA0, hV, rfl, hfz, hnd⟩ := hW
  have hA : DataW.TrodAll enc Try.prog W 0 (fun _ => true) true Try.f4.params.toList args.toList ds p := hA0
  rw [Try.params4] at hA hval
  obtain ⟨v0, vs0, d0, ds0, p0, q0, hargs, rfl, rfl, h0, r0⟩ := trodAll_cons hA
  obtain ⟨v1, vs1, d1, ds1, p1, q1, rfl, rfl, rfl, h1, r1⟩ := trodAll_cons r0
  obtain ⟨rfl, rfl, rfl⟩ := trodAll_nil r1
  obtain rfl : args = #[v0, v1] := by cases args; simp_all
  obtain ⟨rfl, rfl⟩ := trodVars_none hV
  have k0 := h0
  have lt0 : ∀ x ∈ p0, x.block < W.heap.size := by obtain ⟨m, hm⟩ := k0; exact DataW.trod_lt m _ _ _ hm
  obtain ⟨a0, n0, c0, f0, rfl, w0⟩ := arg_ints Try.underlying31 Try.underlying5 (by kernel_rfl) (hval 0 31 v0 rfl rfl) h0
  have k1 := h1
  have lt1 : ∀ x ∈ p1, x.block < W.heap.size := by obtain ⟨m, hm⟩ := k1; exact DataW.trod_lt m _ _ _ hm
  obtain ⟨a1, n1, c1, f1, rfl, w1⟩ := arg_strings Try.underlying32 Try.underlying9 (by kernel_rfl) (hval 1 32 v1 rfl rfl) h1
  clear hA0 hval0
  refine (walk a0 n0 c0 f0 a1 n1 c1 f1 W w0 w1).mono fun e W' ⟨he, bel⟩ => ?_
  subst he
  exact ⟨_, rfl, _, _, _, [], _, [], hW', trodAll_mk1 (shut_bool Try.underlying4 _), (trodAll_cons_mk (Below.trod laidOut (by kernel_rfl) (of_decide_eq_true (by kernel_rfl)) k0 bel lt0) (trodAll_cons_mk (Below.trod laidOut (by kernel_rfl) (of_decide_eq_true (by kernel_rfl)) k1 bel lt1) trodAll_mk0)), rfl, bel.frame _, fun h => by cases h⟩

theorem over : Rows.fnPlainOrBooleanVerdictIgnoresTextsRow.holds Try.pinned (OpenSpec.ofChange Rows.fnPlainOrBooleanVerdictIgnoresTextsSpec) :=
  OpenClaim.holds_of_wide 4 Try.f4 rfl rfl rfl rfl rfl rfl rfl ⟨rfl, rfl, rfl, rfl, rfl⟩ rfl rfl rfl rfl rfl (by kernel_rfl) Try.func4 (by kernel_rfl)
    (of_decide_eq_true (by kernel_rfl)) (by unfold Func.isWrapper; first | (rw [if_pos (by decide +kernel)]; kernel_rfl) | (rw [if_neg (by decide +kernel)]; exact ⟨rfl, rfl⟩))
    (fun os started H enc _ => lifted os started H enc)

theorem proved : Rows.FnPlainOrBooleanVerdictIgnoresTextsSaid :=
  over
#print axioms proved
end Go.Proofs.Ytpnfllnnbinbjaa.fnPlainOrBooleanVerdictIgnoresTexts
