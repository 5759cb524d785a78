/- Clones, sums of sizes, the wrapper. -/
import Derived.Test.YtpjkipemalebcaaSw4
set_option linter.unusedVariables false
set_option linter.unusedSimpArgs false
namespace Go.Proofs.Ytpjkipemalebcaa
open Go.RowKit
set_option maxRecDepth 100000
set_option maxHeartbeats 4000000
def SomeB (w : World) (e : Ending) (w' : World) : Prop := ∃ b : Bool, e = .returned (.bool b) ∧ w = w'
def SomeI (w : World) (e : Ending) (w' : World) : Prop := ∃ x : Int, e = .returned (.int .i64 x) ∧ w = w'
/-- the first k cells of the row at T are filled -/
structure FillR (val : Nat → Value) (w : World) (T n k : Nat) (wr : World) : Prop where
  below : Below T w wr
  size : T < wr.heap.size
  row : ∀ i, i < k → wr.cell? ⟨T, i, none⟩ = some (val i)
  room : Room wr T n
theorem FillR.step {val : Nat → Value} {w wr : World} {T n k : Nat} (h : FillR val w T n k wr) (hk : k < n) : FillR val w T n (k + 1) (wr.setCell ⟨T, k, none⟩ (val k)) :=
  ⟨h.below.setCell (Nat.le_refl _) _, by simpa [World.setCell] using h.size, fun i hi => by
    by_cases e : i = k
    · subst e; obtain ⟨v, h1, h2⟩ := h.room i hk; exact cs h1
    · rw [co (by intro h; injection h; omega)]; exact h.row i (by omega), h.room.set _ _⟩
theorem own_add (T m : Nat) : (⟨T, 0, none⟩ : Addr).add m = ⟨T, m, none⟩ := by
  unfold Addr.add
  by_cases h : m = 0
  · subst h; rfl
  · simp [h]
def RowV (val : Nat → Value) (w : World) (A : Option Addr) (n : Nat) : Prop := ∀ i, i < n → ∃ x, A = some x ∧ w.cell? (x.add i) = some (val i)
theorem RowV.after {val : Nat → Value} {w w' : World} {A : Option Addr} {n : Nat} (h : RowV val w A n) (hb : Below w.heap.size w w') : RowV val w' A n := fun i hi => by
  obtain ⟨x, e, hc⟩ := h i hi
  exact ⟨x, e, ac hb hc⟩
theorem FillR.rowV {val : Nat → Value} {w wr : World} {T n : Nat} (h : FillR val w T n n wr) : RowV val wr (some ⟨T, 0, none⟩) n := fun i hi => ⟨_, rfl, by rw [own_add]; exact h.row i hi⟩
/-- a slice of one-cell elements that was cloned -/
def CloneR (val : Nat → Value) (w : World) (A : Option Addr) (n : Nat) (e : Ending) (w' : World) : Prop := ∃ A', e = .returned (.slice A' n n) ∧ (A' = none ↔ A = none) ∧ (∀ x, A' = some x → ∃ T, x = ⟨T, 0, none⟩ ∧ w.heap.size ≤ T) ∧ RowV val w' A' n ∧ Below w.heap.size w w'
theorem clone6_c (A : Option Addr) (n c : Nat) (f : Nat → ByteArray) (w : World) (hn : n ≤ 1048576) (hnil : A = none → n = 0 ∧ c = 0) (h : RowV (fun i => Value.string (f i)) w A n) : Calls Try.prog 6 #[.slice A n c] w (CloneR (fun i => Value.string (f i)) w A n) := by
  cases A with
  | none =>
    obtain ⟨rfl, rfl⟩ := hnil rfl
    have hq := fun W => Lib.run_eql_slice_nil (P := Try.prog) W 22 9 none 0 0 0 0 Try.underlying22
    go_enter Try.func6, Try.ntmps6
    go_wp2
    go_ret
    exact ⟨none, rfl, Iff.rfl, (fun x h => by cases h), fun i hi => absurd hi (by omega), Below.refl _ _⟩
  | some y =>
    obtain ⟨z, hmk⟩ := make_any (b := 16) Try.underlying22 (show (Try.prog.info? 9).map (fun i => (i.zero.isSome, i.size, i.bytes)) = some (true, 1, 16) by kernel_rfl) n hn (by omega)
    have hq := fun W => Lib.run_eql_slice_nil (P := Try.prog) W 22 9 (some y) n c 0 0 Try.underlying22
    have H := Lib.hid h
    clear h hnil
    simp only [Nat.mul_one] at hmk
    go_enter Try.func6, Try.ntmps6
    go_wp2
    have H0 : FillR (fun i => Value.string (f i)) w w.heap.size n 0 (w.alloc (.cells (madeCells z n) 9)) := ⟨ba _ _, by simp, fun i hi => by omega, Room.made _ _ _ _⟩
    clear hmk hq
    go_loopw [4] (fun i wr => ∃ k : Nat, k ≤ n ∧ i = .int .i64 k ∧ FillR (fun i => Value.string (f i)) w w.heap.size n k wr) (fun i _ => n - (intOf i).toNat)
    case atStart => exact ⟨0, by omega, rfl, H0⟩
    case round =>
      obtain ⟨k, hk, rfl, HF⟩ := hrel
      clear H0
      by_cases hlt : k < n
      · obtain ⟨x, hx, d0⟩ := (H.out.after HF.below) k hlt
        cases hx
        obtain ⟨v0, c0, f0⟩ := HF.room k (by omega)
        have i0 : (0 : Int) ≤ k := by omega
        have i1 : (k : Int) < n := by omega
        have HS := Lib.hid (HF.step hlt)
        clear HF
        go_wp2
        go_roundw
        case rel => exact ⟨k + 1, by omega, by go_num, HS.out⟩
        case measure => simp [intOf]; omega
      · obtain rfl : k = n := by omega
        go_wp2
        go_ret
        exact ⟨_, rfl, by simp, (fun x h => by cases h; exact ⟨_, rfl, Nat.le_refl _⟩), HF.rowV, HF.below⟩
theorem clone7_c (A : Option Addr) (n c : Nat) (f : Nat → Int) (w : World) (hn : n ≤ 1048576) (hnil : A = none → n = 0 ∧ c = 0) (h : RowV (fun i => Value.int .u8 (f i)) w A n) : Calls Try.prog 7 #[.slice A n c] w (CloneR (fun i => Value.int .u8 (f i)) w A n) := by
  cases A with
  | none =>
    obtain ⟨rfl, rfl⟩ := hnil rfl
    have hq := fun W => Lib.run_eql_slice_nil (P := Try.prog) W 23 5 none 0 0 0 0 Try.underlying23
    go_enter Try.func7, Try.ntmps7
    go_wp2
    go_ret
    exact ⟨none, rfl, Iff.rfl, (fun x h => by cases h), fun i hi => absurd hi (by omega), Below.refl _ _⟩
  | some y =>
    obtain ⟨z, hmk⟩ := make_any (b := 1) Try.underlying23 (show (Try.prog.info? 5).map (fun i => (i.zero.isSome, i.size, i.bytes)) = some (true, 1, 1) by kernel_rfl) n hn (by omega)
    have hq := fun W => Lib.run_eql_slice_nil (P := Try.prog) W 23 5 (some y) n c 0 0 Try.underlying23
    have H := Lib.hid h
    clear h hnil
    simp only [Nat.mul_one] at hmk
    go_enter Try.func7, Try.ntmps7
    go_wp2
    have H0 : FillR (fun i => Value.int .u8 (f i)) w w.heap.size n 0 (w.alloc (.cells (madeCells z n) 5)) := ⟨ba _ _, by simp, fun i hi => by omega, Room.made _ _ _ _⟩
    clear hmk hq
    go_loopw [4] (fun i wr => ∃ k : Nat, k ≤ n ∧ i = .int .i64 k ∧ FillR (fun i => Value.int .u8 (f i)) w w.heap.size n k wr) (fun i _ => n - (intOf i).toNat)
    case atStart => exact ⟨0, by omega, rfl, H0⟩
    case round =>
      obtain ⟨k, hk, rfl, HF⟩ := hrel
      clear H0
      by_cases hlt : k < n
      · obtain ⟨x, hx, d0⟩ := (H.out.after HF.below) k hlt
        cases hx
        obtain ⟨v0, c0, f0⟩ := HF.room k (by omega)
        have i0 : (0 : Int) ≤ k := by omega
        have i1 : (k : Int) < n := by omega
        have HS := Lib.hid (HF.step hlt)
        clear HF
        go_wp2
        go_roundw
        case rel => exact ⟨k + 1, by omega, by go_num, HS.out⟩
        case measure => simp [intOf]; omega
      · obtain rfl : k = n := by omega
        go_wp2
        go_ret
        exact ⟨_, rfl, by simp, (fun x h => by cases h; exact ⟨_, rfl, Nat.le_refl _⟩), HF.rowV, HF.below⟩

theorem bytes5_c (A : Option Addr) (n c : Nat) (f : Nat → ByteArray) (w : World) (hn : n ≤ 1048576) (hs : ∀ i, i < n → (f i).size ≤ maxLen) (h : RowS w A n f) : Calls Try.prog 5 #[.slice A n c] w (SomeI w) := by
  have H := Lib.hid h
  have HS := Lib.hid hs
  clear h hs
  go_enter Try.func5, Try.ntmps5
  go_wp2
  go_loop [3, 4] (fun t i => ∃ (k : Nat) (x : Int), k ≤ n ∧ i = .int .i64 k ∧ t = .int .i64 x) (fun _ i => n - (intOf i).toNat)
  case atStart => exact ⟨0, 0, by omega, rfl, rfl⟩
  case round =>
    obtain ⟨k, x, hk, rfl, rfl⟩ := hrel
    by_cases hlt : k < n
    · obtain ⟨y, rfl, d0⟩ := H.out k hlt
      have hsz := HS.out k hlt
      unfold maxLen at hsz
      have i0 : (0 : Int) ≤ k := by omega
      have i1 : (k : Int) < n := by omega
      go_wp2
      go_round
      case rel => exact ⟨k + 1, _, by omega, by go_num, rfl⟩
      case measure => simp [intOf]; omega
    · obtain rfl : k = n := by omega
      go_wp2
      go_ret
      exact ⟨_, rfl, rfl⟩
theorem switch10_c (w : World) (B0 : Nat) (K : Nat → Int) (v : Value) (n : Nat) (L : List Stp) (hn : n ≤ 65536) (hS : SwS w B0 K v n L) (hR : SwR w w B0 K v n L (.slice none 0 0) 0) (hB0 : B0 ≤ w.heap.size) :
    Calls Try.prog 10 #[v] w (SwP w B0 K v n L) := by
  have C := Lib.hid (switch19_c w B0 K v n L hn hS hR hB0)
  clear hS hR
  go_enter Try.func10, Try.ntmps10
  go_wp2_with (go_at_call 19; (with_reducible refine C.out.mono ?_); rintro e w1 ⟨v', rfl, h1⟩; replace h1 := Lib.hid h1)
  go_ret
  exact ⟨_, rfl, h1.out⟩
theorem zz4_c (A0 A1 A2 : Option Addr) (n0 n1 n2 c0 c1 c2 : Nat) (f0 f2 : Nat → ByteArray) (w : World) (m0 : n0 ≤ maxLen) (m1 : n1 ≤ maxLen) (m2 : n2 ≤ maxLen) (h0 : RowS w A0 n0 f0) (h2 : RowS w A2 n2 f2) (s0 : ∀ i, i < n0 → (f0 i).size ≤ maxLen) (s2 : ∀ i, i < n2 → (f2 i).size ≤ maxLen) : Calls Try.prog 4 #[.slice A0 n0 c0, .slice A1 n1 c1, .slice A2 n2 c2] w (SomeB w) := by
  unfold maxLen at m0 m1 m2
  have H0 := Lib.hid h0; have H2 := Lib.hid h2; have S0 := Lib.hid s0; have S2 := Lib.hid s2
  clear h0 h2 s0 s2
  by_cases b0 : 1048576 < n0
  · go_enter Try.func4, Try.ntmps4
    go_wp2
    go_ret
    exact ⟨_, rfl, rfl⟩
  · go_enter Try.func4, Try.ntmps4
    go_wp2
    go_loop [7, 8] (fun t i => ∃ (k m : Nat), k ≤ n0 ∧ i = .int .i64 k ∧ t = .int .i64 m ∧ m ≤ 1048576) (fun _ i => n0 - (intOf i).toNat)
    case atStart => exact ⟨0, n0, by omega, rfl, by go_num, by omega⟩
    case round =>
      obtain ⟨k, m, hk, rfl, rfl, hm⟩ := hrel
      by_cases hlt : k < n0
      · obtain ⟨y, rfl, d0⟩ := H0.out k hlt
        have hsz := S0.out k hlt
        unfold maxLen at hsz
        have i0 : (0 : Int) ≤ k := by omega
        have i1 : (k : Int) < n0 := by omega
        by_cases g1 : 1048576 < (f0 k).size
        · go_wp2
          go_ret
          exact ⟨_, rfl, rfl⟩
        · by_cases g2 : 1048576 < m + (f0 k).size
          · go_wp2
            go_ret
            exact ⟨_, rfl, rfl⟩
          · go_wp2
            go_round
            case rel => exact ⟨k + 1, m + (f0 k).size, by omega, by go_num, by go_num, by omega⟩
            case measure => simp [intOf]; omega
      · obtain rfl : k = n0 := by omega
        by_cases b1 : 1048576 < n1
        · go_wp2
          go_ret
          exact ⟨_, rfl, rfl⟩
        · by_cases b2 : 1048576 < m + n1
          · go_wp2
            go_ret
            exact ⟨_, rfl, rfl⟩
          · by_cases b3 : 1048576 < n2
            · go_wp2
              go_ret
              exact ⟨_, rfl, rfl⟩
            · by_cases b4 : 1048576 < m + n1 + n2
              · go_wp2
                go_ret
                exact ⟨_, rfl, rfl⟩
              · go_wp2
                go_loop [7, 9] (fun t i => ∃ (k m : Nat), k ≤ n2 ∧ i = .int .i64 k ∧ t = .int .i64 m ∧ m ≤ 1048576) (fun _ i => n2 - (intOf i).toNat)
                case atStart => exact ⟨0, m + n1 + n2, by omega, rfl, by go_num, by omega⟩
                case round =>
                  obtain ⟨k', m', hk', rfl, rfl, hm'⟩ := hrel
                  by_cases hlt' : k' < n2
                  · obtain ⟨y, rfl, d0⟩ := H2.out k' hlt'
                    have hsz := S2.out k' hlt'
                    unfold maxLen at hsz
                    have i0 : (0 : Int) ≤ k' := by omega
                    have i1 : (k' : Int) < n2 := by omega
                    by_cases g1 : 1048576 < (f2 k').size
                    · go_wp2
                      go_ret
                      exact ⟨_, rfl, rfl⟩
                    · by_cases g2 : 1048576 < m' + (f2 k').size
                      · go_wp2
                        go_ret
                        exact ⟨_, rfl, rfl⟩
                      · go_wp2
                        go_round
                        case rel => exact ⟨k' + 1, m' + (f2 k').size, by omega, by go_num, by go_num, by omega⟩
                        case measure => simp [intOf]; omega
                  · obtain rfl : k' = n2 := by omega
                    go_wp2
                    go_ret
                    exact ⟨_, rfl, rfl⟩
end Go.Proofs.Ytpjkipemalebcaa

