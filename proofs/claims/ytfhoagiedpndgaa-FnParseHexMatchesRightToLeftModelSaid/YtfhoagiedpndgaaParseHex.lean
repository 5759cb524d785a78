/- Proved: for every text the law FnParseHexMatchesRightToLeftModel returns true, and its argument reads afterwards as before. No condition. -/
import Derived.Test.YtfhoagiedpndgaaRows
import Derived.WalkKit
import Derived.ProofKit
import Derived.OpenShut
import Derived.ShutString
import Derived.WalkLawsBesides
import Derived.Lib.Hide
import Derived.Laws.RangeAny
import Derived.Laws.BitsAllLaws
namespace Go.Proofs.Ytfhoagiedpndgaa.fnParseHexMatchesRightToLeftModel
open Go.ChangeShapes Go.WideShapes Go.ChangeAt Go.RowKit
open Go.ChangeMaps (open_string shut_string)
set_option linter.unusedVariables false
theorem ret_bool {a b : Bool} (h : a = b) : Ending.returned (.bool a) = .returned (.bool b) := by rw [h]
theorem ret_int {k : IntKind} {a b : Int} (h : a = b) : Ending.returned (.int k a) = .returned (.int k b) := by rw [h]
theorem gtr {a b c : World} (h : Grown a b) (k : Grown b c) : Grown a c := ⟨World.keptBut_trans h.1 k.1, fun x => (k.2.1 x).trans (h.2.1 x), Nat.le_trans h.2.2 k.2.2⟩
theorem grown_iter (w : World) (s : ByteArray) (p : Nat) : Grown w (w.iter s p) := by
  refine ⟨World.keptBut_alloc _ _ _, fun a => ?_, by show w.heap.size ≤ (w.heap.push _).size; simp⟩
  by_cases h : a.block = w.heap.size
  · have e1 : (w.iter s p).heap[a.block]? = some (.stringIter s p) := by rw [h]; exact w.iter_heap s p
    have e2 : w.heap[a.block]? = none := by rw [h]; simp
    simp [World.frozen?, e1, e2]
  · exact World.frozen?_alloc_old _ _ _ h
def hv (c : Int) : Int := if 48 ≤ c ∧ c ≤ 57 then c - 48 else if 97 ≤ c ∧ c ≤ 102 then c - 87 else if 65 ≤ c ∧ c ≤ 70 then c - 55 else -1
theorem hv_le (c : Int) : hv c ≤ 15 := by unfold hv; split; omega; split; omega; split; omega; omega
theorem hv_ge (c : Int) : -1 ≤ hv c := by unfold hv; split; omega; split; omega; split; omega; omega
def dg (s : ByteArray) (k : Nat) : Nat := if h : k < s.size then (hv s[k].toNat).toNat else 0
theorem dg_lt (s : ByteArray) (k : Nat) : dg s k < 16 := by
  unfold dg; split
  · have := hv_le s[k].toNat; omega
  · omega
def acc (s : ByteArray) : Nat → Nat
  | 0 => 0
  | k + 1 => (acc s k * 16 % 4294967296) + dg s k
theorem acc_lt (s : ByteArray) (k : Nat) : acc s k < 4294967296 := by
  cases k with
  | zero => simp [acc]
  | succ k => have := dg_lt s k; unfold acc; omega
def AH (s : ByteArray) (k : Nat) : Prop := ∀ i (h : i < s.size), i < k → 0 ≤ hv s[i].toNat
def tup (v : Int) (b : Bool) : Value := .tuple #[.int .u32 v, .bool b]
def PH (s : ByteArray) (w : World) (e : Ending) (w' : World) : Prop :=
  Grown w w' ∧ ((AH s s.size ∧ e = .returned (.tuple #[.int .u32 (acc s s.size : Nat), .bool true])) ∨ (¬ AH s s.size ∧ e = .returned (.tuple #[.int .u32 0, .bool false])))
theorem or_dig (a : Nat) (d : Int) (h0 : 0 ≤ d) (h : d ≤ 15) : bits .or .u32 ((a : Int) * 16 % 4294967296) d = (a : Int) * 16 % 4294967296 + d := by
  obtain ⟨n, rfl⟩ := Int.eq_ofNat_of_zero_le h0
  have e : (a : Int) * 16 % 4294967296 = ((a % 268435456 * 2 ^ 4 : Nat) : Int) := by omega
  rw [e, u32_or_nat _ _ (by omega) (by omega)]
  rw [Nat.mul_comm, ← Nat.two_pow_add_eq_or_of_lt (by omega)]
  omega
theorem hexval_any (c : Int) (w : World) (h0 : 0 ≤ c) (h1 : c ≤ 255) : Calls Try.prog 20 #[.int .u8 c] w fun e w' => e = .returned (.int .i64 (hv c)) ∧ w = w' := by
  by_cases c1 : 48 ≤ c
  · by_cases c2 : c ≤ 57
    · go_enter Try.func20, Try.ntmps20
      go_wp2
      go_ret
      exact ⟨ret_int (by unfold hv; rw [if_pos ⟨c1, c2⟩]), rfl⟩
    · by_cases c3 : 97 ≤ c
      · by_cases c4 : c ≤ 102
        · go_enter Try.func20, Try.ntmps20
          go_wp2
          go_ret
          exact ⟨ret_int (by unfold hv; rw [if_neg (by omega), if_pos ⟨c3, c4⟩]; omega), rfl⟩
        · go_enter Try.func20, Try.ntmps20
          go_wp2
          go_ret
          exact ⟨ret_int (by unfold hv; rw [if_neg (by omega), if_neg (by omega), if_neg (by omega)]), rfl⟩
      · by_cases c5 : 65 ≤ c
        · by_cases c6 : c ≤ 70
          · go_enter Try.func20, Try.ntmps20
            go_wp2
            go_ret
            exact ⟨ret_int (by unfold hv; rw [if_neg (by omega), if_neg (by omega), if_pos ⟨c5, c6⟩]; omega), rfl⟩
          · go_enter Try.func20, Try.ntmps20
            go_wp2
            go_ret
            exact ⟨ret_int (by unfold hv; rw [if_neg (by omega), if_neg (by omega), if_neg (by omega)]), rfl⟩
        · go_enter Try.func20, Try.ntmps20
          go_wp2
          go_ret
          exact ⟨ret_int (by unfold hv; rw [if_neg (by omega), if_neg (by omega), if_neg (by omega)]), rfl⟩
  · go_enter Try.func20, Try.ntmps20
    go_wp2
    go_ret
    exact ⟨ret_int (by unfold hv; rw [if_neg (by omega), if_neg (by omega), if_neg (by omega)]), rfl⟩
theorem acc_succ (s : ByteArray) (k : Nat) (h : k < s.size) (hd : 0 ≤ hv s[k].toNat) : ((acc s (k + 1) : Nat) : Int) = (acc s k : Int) * 16 % 4294967296 + hv s[k].toNat := by
  show (((acc s k * 16 % 4294967296) + dg s k : Nat) : Int) = _
  unfold dg
  rw [dif_pos h]
  omega
theorem ah_succ {s : ByteArray} {k : Nat} (hA : AH s k) (h : k < s.size) (hd : 0 ≤ hv s[k].toNat) : AH s (k + 1) := by
  intro i hi h2
  by_cases e : i = k
  · subst e; exact hd
  · exact hA i hi (by omega)
set_option maxHeartbeats 2000000 in
theorem parse_any (s : ByteArray) (w : World) : Calls Try.prog 32 #[.string s] w (PH s w) := by
  go_enter Try.func32, Try.ntmps32
  go_wp2
  go_loopw [4] (fun v wr => ∃ k : Nat, k ≤ s.size ∧ wr = w.iter s k ∧ v = .int .u32 (acc s k : Nat) ∧ Hid (AH s k)) (fun _ wr => s.size - wr.iterPos w.heap.size)
  case atStart => exact ⟨0, by omega, rfl, rfl, Lib.hid (fun i h h2 => absurd h2 (by omega))⟩
  case round =>
    obtain ⟨k, hk, rfl, rfl, hA⟩ := hrel
    by_cases hlt : k < s.size
    · by_cases ha : s[k].toNat < 128
      · have hnx : ∀ ty, (Instr.next (.pointer (some ⟨w.heap.size, 0, none⟩)) true ty).run Try.prog (w.iter s k) = _ := fun ty => run_next_ascii w s k ty hlt ha
        have hal := acc_lt s k
        have hs := acc_succ s k hlt
        have HS := Lib.hid hs
        have HN := Lib.hid (ah_succ hA.out hlt)
        have od := or_dig (acc s k)
        have hb : hv s[k].toNat = hv s[k].toNat := rfl
        have fin : AH s (k + 1) → True := fun _ => trivial
        clear hs hb fin
        by_cases c1 : 48 ≤ (s[k].toNat : Int)
        · by_cases c2 : (s[k].toNat : Int) ≤ 57
          · have e := od ((s[k].toNat : Int) - 48) (by omega) (by omega)
            have HE := Lib.hid (show hv s[k].toNat = (s[k].toNat : Int) - 48 by unfold hv; rw [if_pos ⟨c1, c2⟩])
            clear od
            go_wp2
            go_roundw
            case rel => exact ⟨k + 1, by omega, rfl, by rw [HS.out (by rw [HE.out]; omega), HE.out], Lib.hid (HN.out (by rw [HE.out]; omega))⟩
            case measure => simp; omega
          · by_cases c3 : 97 ≤ (s[k].toNat : Int)
            · by_cases c4 : (s[k].toNat : Int) ≤ 102
              · have e := od ((s[k].toNat : Int) - 87) (by omega) (by omega)
                have HE := Lib.hid (show hv s[k].toNat = (s[k].toNat : Int) - 87 by unfold hv; rw [if_neg (by omega), if_pos ⟨c3, c4⟩])
                clear od
                go_wp2
                go_roundw
                case rel => exact ⟨k + 1, by omega, rfl, by rw [HS.out (by rw [HE.out]; omega), HE.out], Lib.hid (HN.out (by rw [HE.out]; omega))⟩
                case measure => simp; omega
              · have HB := Lib.hid (show ¬ AH s s.size from fun h => by have := h k hlt hlt; unfold hv at this; rw [if_neg (by omega), if_neg (by omega), if_neg (by omega)] at this; omega)
                clear od HS HN
                go_wp2
                go_ret2
                exact ⟨grown_iter _ _ _, Or.inr ⟨HB.out, rfl⟩⟩
            · by_cases c5 : 65 ≤ (s[k].toNat : Int)
              · by_cases c6 : (s[k].toNat : Int) ≤ 70
                · have e := od ((s[k].toNat : Int) - 55) (by omega) (by omega)
                  have HE := Lib.hid (show hv s[k].toNat = (s[k].toNat : Int) - 55 by unfold hv; rw [if_neg (by omega), if_neg (by omega), if_pos ⟨c5, c6⟩])
                  clear od
                  go_wp2
                  go_roundw
                  case rel => exact ⟨k + 1, by omega, rfl, by rw [HS.out (by rw [HE.out]; omega), HE.out], Lib.hid (HN.out (by rw [HE.out]; omega))⟩
                  case measure => simp; omega
                · have HB := Lib.hid (show ¬ AH s s.size from fun h => by have := h k hlt hlt; unfold hv at this; rw [if_neg (by omega), if_neg (by omega), if_neg (by omega)] at this; omega)
                  clear od HS HN
                  go_wp2
                  go_ret2
                  exact ⟨grown_iter _ _ _, Or.inr ⟨HB.out, rfl⟩⟩
              · have HB := Lib.hid (show ¬ AH s s.size from fun h => by have := h k hlt hlt; unfold hv at this; rw [if_neg (by omega), if_neg (by omega), if_neg (by omega)] at this; omega)
                clear od HS HN
                go_wp2
                go_ret2
                exact ⟨grown_iter _ _ _, Or.inr ⟨HB.out, rfl⟩⟩
        · have HB := Lib.hid (show ¬ AH s s.size from fun h => by have := h k hlt hlt; unfold hv at this; rw [if_neg (by omega), if_neg (by omega), if_neg (by omega)] at this; omega)
          clear od HS HN
          go_wp2
          go_ret2
          exact ⟨grown_iter _ _ _, Or.inr ⟨HB.out, rfl⟩⟩
      · have hnx : ∀ ty, (Instr.next (.pointer (some ⟨w.heap.size, 0, none⟩)) true ty).run Try.prog (w.iter s k) = _ := fun ty => run_next_any w s k ty hlt
        obtain ⟨d1, d2⟩ := decode_high s k hlt (by omega)
        have d3 := decode_le s k
        have hal := acc_lt s k
        have HB := Lib.hid (show ¬ AH s s.size from fun h => by have := h k hlt hlt; unfold hv at this; rw [if_neg (by omega), if_neg (by omega), if_neg (by omega)] at this; omega)
        go_wp2
        go_ret2
        exact ⟨grown_iter _ _ _, Or.inr ⟨HB.out, rfl⟩⟩
    · have hnx : ∀ ty, (Instr.next (.pointer (some ⟨w.heap.size, 0, none⟩)) true ty).run Try.prog (w.iter s k) = _ := fun ty => run_next_end w s k ty hlt
      obtain rfl : k = s.size := by omega
      go_wp2
      go_ret2
      exact ⟨grown_iter _ _ _, Or.inl ⟨hA.out, rfl⟩⟩

theorem zz_any (s : ByteArray) (w : World) : Calls Try.prog 19 #[.string s] w (PH s w) := by
  go_enter Try.func19, Try.ntmps19
  go_wp2_with (go_at_call 32; refine (parse_any _ _).mono ?_; intro e w' hp; obtain ⟨hg, ⟨ha, rfl⟩ | ⟨hb, rfl⟩⟩ := hp)
  · go_ret2
    exact ⟨hg, Or.inl ⟨ha, rfl⟩⟩
  · go_ret2
    exact ⟨hg, Or.inr ⟨hb, rfl⟩⟩
/-- the sum from the right, c digits taken -/
def Inv (s : ByteArray) (c : Nat) (W : Nat) : Prop := W < 16 ^ c ∧ (acc s (s.size - c) * 16 ^ c + W) % 4294967296 = acc s s.size
def pw : Nat → Nat
  | 0 => 1
  | k + 1 => pw k * 16 % 4294967296
theorem pw_eq : ∀ c : Nat, c < 8 → pw c = 16 ^ c := by decide
theorem pw_lt (c : Nat) : pw c < 4294967296 := by cases c with
  | zero => decide
  | succ k => unfold pw; omega
theorem pow_le : ∀ c : Nat, c < 8 → 16 ^ (c + 1) ≤ 4294967296 := by decide
theorem inv_zero (s : ByteArray) : Inv s 0 0 := by
  have := acc_lt s s.size
  refine ⟨by decide, ?_⟩
  simp; omega
theorem inv_succ {s : ByteArray} {c W : Nat} (h : Inv s c W) (hc : c < 8) (hn : c < s.size) :
    Inv s (c + 1) ((W + dg s (s.size - 1 - c) * pw c % 4294967296) % 4294967296) ∧ W < 4294967296 := by
  obtain ⟨h1, h2⟩ := h
  have hp := pw_eq c hc
  have hl := pow_le c hc
  have hd := dg_lt s (s.size - 1 - c)
  have hpos : 0 < 16 ^ c := Nat.pow_pos (by decide)
  have hm : dg s (s.size - 1 - c) * 16 ^ c ≤ 15 * 16 ^ c := Nat.mul_le_mul_right _ (by omega)
  have hs : 16 ^ (c + 1) = 16 * 16 ^ c := by rw [Nat.pow_succ]; omega
  rw [hp, Nat.mod_eq_of_lt (show dg s (s.size - 1 - c) * 16 ^ c < 4294967296 by omega)]
  rw [Nat.mod_eq_of_lt (show W + dg s (s.size - 1 - c) * 16 ^ c < 4294967296 by omega)]
  refine ⟨⟨by omega, ?_⟩, by omega⟩
  have e : s.size - c = (s.size - 1 - c) + 1 := by omega
  rw [e] at h2
  rw [← h2, show s.size - (c + 1) = s.size - 1 - c by omega]
  show _ = (((acc s (s.size - 1 - c) * 16 % 4294967296) + dg s (s.size - 1 - c)) * 16 ^ c + W) % 4294967296
  generalize acc s (s.size - 1 - c) = A
  generalize dg s (s.size - 1 - c) = d
  rw [hs]
  have k1 : (A * 16 % 4294967296 + d) * 16 ^ c + W = (A * 16 % 4294967296) * 16 ^ c + (d * 16 ^ c + W) := by rw [Nat.add_mul]; omega
  have k2 : A * (16 * 16 ^ c) + (W + d * 16 ^ c) = (A * 16) * 16 ^ c + (d * 16 ^ c + W) := by rw [Nat.mul_assoc]; omega
  rw [k1, k2, Nat.add_mod, Nat.add_mod ((A * 16 % 4294967296) * 16 ^ c), Nat.mod_mul_mod]
theorem inv_end {s : ByteArray} {c W : Nat} (h : Inv s c W) (hc : c = 8 ∨ c = s.size) (h8 : c ≤ 8) : W = acc s s.size := by
  obtain ⟨h1, h2⟩ := h
  have hl : (16 : Nat) ^ c ≤ 4294967296 := by
    have : (16 : Nat) ^ c ≤ 16 ^ 8 := Nat.pow_le_pow_right (by decide) h8
    simpa using this
  rcases hc with rfl | rfl
  · rw [← h2]; simp only [Nat.reducePow]; omega
  · rw [← h2, Nat.sub_self]; simp only [acc, Nat.zero_mul]; omega
def Rel2 (s : ByteArray) (want weight cnt i : Value) : Prop :=
  ∃ c W : Nat, c ≤ 8 ∧ want = .int .u32 W ∧ weight = .int .u32 (pw c : Nat) ∧ cnt = .int .i64 c ∧ Hid (Inv s c W) ∧ ((∃ j : Nat, j + 1 + c = s.size ∧ i = .int .i64 j) ∨ (c = s.size ∧ i = .int .i64 (-1)))
theorem int_eq {k : IntKind} {a b : Int} (h : a = b) : Value.int k a = .int k b := by rw [h]
theorem rel2_next {s : ByteArray} {c W j : Nat} (h : Inv s c W) (hc : c < 8) (hj : j + 1 + c = s.size) (hjl : j < s.size) (hd : 0 ≤ hv s[j].toNat) :
    Rel2 s (.int .u32 (((W : Int) + hv s[j].toNat * (pw c : Int) % 4294967296) % 4294967296)) (.int .u32 ((pw c : Int) * 16 % 4294967296)) (.int .i64 ((c : Int) + 1)) (.int .i64 ((j : Int) - 1)) := by
  have := (inv_succ h hc (by omega)).1
  have e : s.size - 1 - c = j := by omega
  rw [e] at this
  refine ⟨c + 1, _, by omega, ?_, ?_, ?_, Lib.hid this, ?_⟩
  · apply int_eq
    have : (hv s[j].toNat) = (dg s j : Int) := by unfold dg; rw [dif_pos (by omega)]; omega
    rw [this]; omega
  · apply int_eq; show _ = ((pw c * 16 % 4294967296 : Nat) : Int); omega
  · apply int_eq; omega
  · cases j with
    | zero => exact Or.inr ⟨by omega, by apply int_eq; omega⟩
    | succ j => exact Or.inl ⟨j, by omega, by apply int_eq; omega⟩
set_option maxHeartbeats 4000000 in
theorem walk (a0 : ByteArray) (w0 : a0.size ≤ maxLen) (w : World) :
    Calls Try.prog 7 #[.string a0] w fun e w' => e = .returned (.bool true) ∧ Grown w w' := by
  obtain ⟨s, rfl⟩ : ∃ s, s = a0 := ⟨_, rfl⟩
  unfold maxLen at w0
  by_cases hl : s.size ≤ 1048576
  · go_enter Try.func7, Try.ntmps7
    go_wp2_with (first | (go_at_call 19; refine (zz_any s _).mono ?_; intro e w' hp; obtain ⟨hg, ⟨hA0, rfl⟩ | ⟨hB0, rfl⟩⟩ := hp) | go_in)
    · have hA := Lib.hid hA0
      have hG := Lib.hid hg
      clear hA0 hg
      go_loop [5, 6] (fun v i => ∃ k : Nat, k ≤ s.size ∧ i = .int .i64 k ∧ v = .bool true) (fun _ i => s.size - (intOf i).toNat)
      case atStart => exact ⟨0, by omega, rfl, rfl⟩
      case round =>
        obtain ⟨k, hk, rfl, rfl⟩ := hrel
        by_cases hlt : k < s.size
        · have hd : ¬ hv (s[k].toNat : Int) < 0 := by have := hA.out k hlt hlt; omega
          have hb := UInt8.toNat_lt s[k]
          go_wp2_with (go_at_call 20; refine (hexval_any _ _ (by omega) (by omega)).mono ?_; rintro e w' ⟨rfl, rfl⟩)
          go_round
          case rel => exact ⟨k + 1, by omega, by go_num, rfl⟩
          case measure => simp [intOf]; omega
        · obtain rfl : k = s.size := by omega
          go_wp2
          go_loop [7, 8, 9, 10] (fun want weight cnt i => Rel2 s want weight cnt i) (fun _ _ cnt _ => 8 - (intOf cnt).toNat)
          case atStart =>
            refine ⟨0, 0, by omega, rfl, rfl, rfl, Lib.hid (inv_zero s), ?_⟩
            by_cases h0 : s.size = 0
            · exact Or.inr ⟨h0.symm, by apply int_eq; omega⟩
            · exact Or.inl ⟨s.size - 1, by omega, by apply int_eq; omega⟩
          case round =>
            obtain ⟨c, W, hc, rfl, rfl, rfl, hI, ⟨j, hj, rfl⟩ | ⟨hj, rfl⟩⟩ := hrel
            · by_cases h8 : c < 8
              · have hjl : j < s.size := by omega
                have hd : 0 ≤ hv (s[j].toNat : Int) := hA.out j hjl hjl
                have hd2 := hv_le (s[j].toNat : Int)
                have hb := UInt8.toNat_lt s[j]
                have hp := pw_lt c
                have hw := (inv_succ hI.out h8 (by omega)).2
                have R := Lib.hid (rel2_next hI.out h8 hj hjl hd)
                have HJ := Lib.hid hj
                clear hj
                go_wp2_with (go_at_call 20; refine (hexval_any _ _ (by omega) (by omega)).mono ?_; rintro e w' ⟨rfl, rfl⟩)
                go_round
                case rel => exact R.out
                case measure => simp [intOf]; omega
              · obtain rfl : c = 8 := by omega
                have HE := Lib.hid (inv_end hI.out (Or.inl rfl) (by omega))
                clear hj
                go_wp2
                go_ret
                exact ⟨ret_bool (by rw [HE.out]; simp), hG.out⟩
            · have HE := Lib.hid (inv_end hI.out (Or.inr hj) hc)
              clear hj
              go_wp2
              go_ret
              exact ⟨ret_bool (by rw [HE.out]; simp), hG.out⟩
    · have hB := Lib.hid hB0
      have hG := Lib.hid hg
      clear hB0 hg
      go_loop [5, 6] (fun v i => ∃ k : Nat, k ≤ s.size ∧ i = .int .i64 k ∧ v = .bool true ∧ Hid (AH s k)) (fun _ i => s.size - (intOf i).toNat)
      case atStart => exact ⟨0, by omega, rfl, rfl, Lib.hid (fun i h h2 => absurd h2 (by omega))⟩
      case round =>
        obtain ⟨k, hk, rfl, rfl, hA⟩ := hrel
        by_cases hlt : k < s.size
        · have hb := UInt8.toNat_lt s[k]
          by_cases hd : hv (s[k].toNat : Int) < 0
          · go_wp2_with (go_at_call 20; refine (hexval_any _ _ (by omega) (by omega)).mono ?_; rintro e w' ⟨rfl, rfl⟩)
            go_ret
            exact ⟨rfl, hG.out⟩
          · go_wp2_with (go_at_call 20; refine (hexval_any _ _ (by omega) (by omega)).mono ?_; rintro e w' ⟨rfl, rfl⟩)
            go_round
            case rel => exact ⟨k + 1, by omega, by go_num, rfl, Lib.hid (ah_succ hA.out hlt (by omega))⟩
            case measure => simp [intOf]; omega
        · obtain rfl : k = s.size := by omega
          exact absurd hA.out hB.out
  · go_enter Try.func7, Try.ntmps7
    go_wp2
    all_goals
      go_ret
      exact ⟨rfl, Grown.refl _⟩

theorem own : ownKnob Try.prog.godebug = none := by kernel_rfl
/-! ### THE ROW's STEP: WRITTEN OUT: LEAVE IT -/
set_option maxRecDepth 100000 in
theorem lifted (os : Os) (started : os.Started) (H : Type) (enc : TypeId × Value → H) :
    ReturnsInHanded {} Try.checked os 7 .any (Rows.fnParseHexMatchesRightToLeftModelSpec.pre6 enc Try.prog Try.f7 Rows.fnParseHexMatchesRightToLeftModelRow.domain false) (Rows.fnParseHexMatchesRightToLeftModelSpec.post enc Try.prog Try.f7 false true false false) := by
  refine returnsInHanded_of_change (C := Try.checked) own started (by kernel_rfl) Try.func7
    (ChangeSpec.witness6 (enc := enc) (C := Try.checked) false ⟨#[], #[.string ByteArray.empty], []⟩ 8 (by kernel_rfl) (by kernel_rfl) (by kernel_rfl) (by kernel_rfl)) ?_
  intro W base args ds gs before hval0 hW hcnd _
  have hval : ∀ (j : Nat) t v, Try.f7.params[j]? = some t → args[j]? = some v → Value.okWide Try.prog W .any base t v := hval0
  have hW' := hW
  obtain ⟨p, q, hA0, hV, rfl, hfz, hnd⟩ := hW
  have hA : DataW.TrodAll enc Try.prog W 0 (fun _ => true) true Try.f7.params.toList args.toList ds p := hA0
  rw [Try.params7] at hA hval
  obtain ⟨v0, vs0, d0, ds0, p0, q0, hargs, rfl, rfl, h0, r0⟩ := trodAll_cons hA
  obtain ⟨rfl, rfl, rfl⟩ := trodAll_nil r0
  obtain rfl : args = #[v0] := by cases args; simp_all
  obtain ⟨rfl, rfl⟩ := trodVars_none hV
  obtain ⟨a0, rfl, rfl, rfl, w0⟩ := open_string Try.underlying9 (hval 0 9 v0 rfl rfl) h0
  clear hA0 hval0
  simp only [List.append_nil] at hW'
  refine (walk a0 w0 W).mono fun e W' ⟨he, hg⟩ => ?_
  subst he
  exact ⟨_, rfl, post_of_same (pa := []) (pv := []) hW' (fun _ _ _ => (trodAll_cons_mk (shut_bool Try.underlying4 _) trodAll_mk0)) (fun sp _ => (trodAll_cons_mk (shut_string Try.underlying9 w0) trodAll_mk0)) (fun _ _ => rfl) rfl
    (hg.frame _) hg.2.1 (ok_one (by kernel_rfl) rfl (okWide_bool_mk Try.underlying4 _))⟩

theorem over : Rows.fnParseHexMatchesRightToLeftModelRow.holds Try.pinned (OpenSpec.ofChange Rows.fnParseHexMatchesRightToLeftModelSpec) :=
  OpenClaim.holds_of_wide 7 Try.f7 rfl rfl rfl rfl rfl rfl rfl ⟨rfl, rfl, rfl, rfl, rfl⟩ rfl rfl rfl rfl rfl (by kernel_rfl) Try.func7 (by kernel_rfl)
    (of_decide_eq_true (by kernel_rfl)) (by unfold Func.isWrapper; first | (rw [if_pos (by decide +kernel)]; kernel_rfl) | (rw [if_neg (by decide +kernel)]; exact ⟨rfl, rfl⟩))
    (fun os started H enc _ => lifted os started H enc)

/-- ████ THE STATEMENT ████ -/
theorem proved : Rows.FnParseHexMatchesRightToLeftModelSaid :=
  over
#print axioms proved
end Go.Proofs.Ytfhoagiedpndgaa.fnParseHexMatchesRightToLeftModel
