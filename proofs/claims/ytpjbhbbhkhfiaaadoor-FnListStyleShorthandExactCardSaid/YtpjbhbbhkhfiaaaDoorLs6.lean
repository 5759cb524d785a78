/- FnListStyleShorthandExact: what its walk uses. -/
import Derived.Test.YtpjbhbbhkhfiaaaDoorLs5
import Derived.Test.YtpjbhbbhkhfiaaaDoorSy8
import Derived.Test.YtpjbhbbhkhfiaaaDoorIU
import Derived.Test.YtpjbhbbhkhfiaaaDoorArg
set_option linter.unusedVariables false
set_option linter.unusedSimpArgs false
namespace Go.Proofs.YtpjbhbbhkhfiaaaDoor
open Go.RowKit
def ByB (n0 n1 : Nat) (X : Nat → ByteArray) (w : World) (e : Ending) (w' : World) : Prop := ∃ b : Bool, e = .returned (.bool b) ∧ (b = true → n0 ≤ 1048576 ∧ n1 ≤ 1048576 ∧ ∀ i, i < n1 → (X i).size ≤ 1048576) ∧ w = w'
set_option maxRecDepth 100000 in
set_option maxHeartbeats 4000000 in
theorem bytes5_c (A0 A1 : Option Addr) (n0 c0 n1 c1 : Nat) (X : Nat → ByteArray) (pl : Int) (b : Bool) (w : World) (h : RowS w A1 n1 X) (hn0 : n0 ≤ maxLen) (hn1 : n1 ≤ maxLen) (hs : ∀ i, i < n1 → (X i).size ≤ maxLen) : Calls Tryd.prog 5 #[.slice A0 n0 c0, .slice A1 n1 c1, .int .u32 pl, .bool b] w (ByB n0 n1 X w) := by
  unfold maxLen at hn0 hn1 hs
  have H := Lib.hid h; have HS := Lib.hid hs
  clear h hs
  by_cases h0 : 1048576 < n0
  · go_enter Tryd.func5, Tryd.ntmps5
    go_wp2
    go_ret
    exact ⟨_, rfl, (fun h => by cases h), rfl⟩
  · by_cases h1 : 1048576 < n1
    · go_enter Tryd.func5, Tryd.ntmps5
      go_wp2
      go_ret
      exact ⟨_, rfl, (fun h => by cases h), rfl⟩
    · by_cases h2 : 1048576 < n0 + n1
      · go_enter Tryd.func5, Tryd.ntmps5
        go_wp2
        go_ret
        exact ⟨_, rfl, (fun h => by cases h), rfl⟩
      · go_enter Tryd.func5, Tryd.ntmps5
        go_wp2
        go_loopw [9, 10] (fun s i wr => ∃ k m : Nat, k ≤ n1 ∧ m ≤ 1048576 ∧ (∀ i, i < k → (X i).size ≤ 1048576) ∧ s = .int .i64 m ∧ i = .int .i64 k ∧ wr = w) (fun _ i _ => n1 - (intOf i).toNat)
        case atStart => exact ⟨0, n0 + n1, by omega, by omega, (fun i hi => by omega), by go_num, rfl, rfl⟩
        case round =>
          obtain ⟨k, m, hk, hm, hall, rfl, rfl, rfl⟩ := hrel
          replace hall := Lib.hid hall
          by_cases hlt : k < n1
          · obtain ⟨x, rfl, q0⟩ := H.out k hlt
            have i0 : (0 : Int) ≤ k := by omega
            have i1 : (k : Int) < n1 := by omega
            by_cases hb1 : 1048576 < (X k).size
            · go_wp2
              go_ret
              exact ⟨_, rfl, (fun h => by cases h), rfl⟩
            · by_cases hb2 : 1048576 < m + (X k).size
              · go_wp2
                go_ret
                exact ⟨_, rfl, (fun h => by cases h), rfl⟩
              · go_wp2
                go_roundw
                case rel => exact ⟨k + 1, m + (X k).size, by omega, by omega, (fun i hi => by
                  by_cases e : i = k
                  · subst e; omega
                  · exact hall.out i (by omega)), by go_num, by go_num, trivial⟩
                case measure => simp [intOf]; omega
          · obtain rfl : k = n1 := by omega
            go_wp2
            go_ret
            exact ⟨_, rfl, (fun _ => ⟨by omega, by omega, fun i hi => hall.out i hi⟩), rfl⟩
set_option maxRecDepth 100000 in
set_option maxHeartbeats 4000000 in
theorem model8_out (A0 A1 : Option Addr) (n c0 n1 c1 : Nat) (w : World) (hn : n ≤ maxLen) (h : n = 0 ∨ 3 < n) : Calls Tryd.prog 8 #[.slice A0 n c0, .slice A1 n1 c1] w (fun e w' => e = .returned (.int .i64 (-1)) ∧ w = w') := by
  unfold maxLen at hn
  rcases h with rfl | h
  · go_enter Tryd.func8, Tryd.ntmps8
    go_wp2
    go_ret
    exact ⟨rfl, rfl⟩
  · go_enter Tryd.func8, Tryd.ntmps8
    go_wp2
    go_ret
    exact ⟨rfl, rfl⟩
set_option maxRecDepth 100000 in
set_option maxHeartbeats 4000000 in
theorem proc_out (P A0 : Option Addr) (n c0 : Nat) (w : World) (hn : n ≤ maxLen) (h : n = 0 ∨ 3 < n) : Calls Tryd.prog 23 #[.pointer P, .slice A0 n c0] w (fun e w' => e = .returned (.tuple #[]) ∧ w = w') := by
  unfold maxLen at hn
  rcases h with rfl | h
  · go_enter Tryd.func23, Tryd.ntmps23
    go_wp2
    exact bodyPost_ret (v := .tuple #[]) (by simp [results, Tryd.results23, go_sem]) rfl ⟨rfl, rfl⟩
  · go_enter Tryd.func23, Tryd.ntmps23
    go_wp2
    exact bodyPost_ret (v := .tuple #[]) (by simp [results, Tryd.results23, go_sem]) rfl ⟨rfl, rfl⟩
theorem zz10_c (u v : Value) (w : World) (Q : World → Prop) (h : Calls Tryd.prog 23 #[u, v] w (fun e w' => e = .returned (.tuple #[]) ∧ Q w')) : Calls Tryd.prog 10 #[u, v] w (fun e w' => e = .returned (.tuple #[]) ∧ Q w') := by
  have C := Lib.hid h
  clear h
  go_enter Tryd.func10, Tryd.ntmps10
  go_wp2_with (go_at_call 23; (with_reducible refine C.out.mono ?_); rintro e w1 ⟨rfl, hq⟩; replace hq := Lib.hid hq)
  exact bodyPost_end (v := .tuple #[]) (by simp [results, Tryd.results10, go_sem]) rfl ⟨rfl, hq.out⟩
theorem want_c (mk : Bool) (n : Nat) (w : World) : Calls Tryd.prog 13 #[.bool mk, .int .i64 n] w fun e w' => e = .returned (.int .i64 ((if mk then n else 0 : Nat) : Int)) ∧ w = w' := by
  cases mk with
  | true => exact want_true n w
  | false => exact want_false n w
/-- numbers that are filled into a block -/
structure FillI (k0 : IntKind) (f : Nat → Int) (w : World) (T n k : Nat) (wr : World) : Prop where
  below : Below T w wr
  size : T < wr.heap.size
  row : ∀ i, i < k → wr.cell? ⟨T, i, none⟩ = some (.int k0 (f i))
  room : Room wr T n
theorem FillI.after {k0 : IntKind} {f : Nat → Int} {w wr w' : World} {T n k : Nat} (h : FillI k0 f w T n k wr) (hb : Below wr.heap.size wr w') : FillI k0 f w T n k w' :=
  ⟨h.below.trans (hb.mono (Nat.le_of_lt h.size)), Nat.lt_of_lt_of_le h.size hb.size, fun i hi => ac hb (h.row i hi), h.room.after hb⟩
theorem FillI.step {k0 : IntKind} {f : Nat → Int} {w wr : World} {T n k : Nat} (h : FillI k0 f w T n k wr) (hk : k < n) : FillI k0 f w T n (k + 1) (wr.setCell ⟨T, k, none⟩ (.int k0 (f k))) :=
  ⟨h.below.setCell (Nat.le_refl _) _, by simpa [World.setCell] using h.size, fun i hi => by
    by_cases e : i = k
    · subst e; obtain ⟨v, h1, h2⟩ := h.room i hk; exact cs h1
    · rw [co (by intro h; injection h; omega)]; exact h.row i (by omega), h.room.set _ _⟩
structure FillS (f : Nat → ByteArray) (w : World) (T n k : Nat) (wr : World) : Prop where
  below : Below T w wr
  size : T < wr.heap.size
  row : ∀ i, i < k → wr.cell? ⟨T, i, none⟩ = some (.string (f i))
  room : Room wr T n
theorem FillS.step {f : Nat → ByteArray} {w wr : World} {T n k : Nat} (h : FillS f w T n k wr) (hk : k < n) : FillS f w T n (k + 1) (wr.setCell ⟨T, k, none⟩ (.string (f k))) :=
  ⟨h.below.setCell (Nat.le_refl _) _, by simpa [World.setCell] using h.size, fun i hi => by
    by_cases e : i = k
    · subst e; obtain ⟨v, h1, h2⟩ := h.room i hk; exact cs h1
    · rw [co (by intro h; injection h; omega)]; exact h.row i (by omega), h.room.set _ _⟩
theorem own_add (T m : Nat) : (⟨T, 0, none⟩ : Addr).add m = ⟨T, m, none⟩ := by
  unfold Addr.add
  by_cases h : m = 0
  · subst h; rfl
  · simp [h]
theorem FillI.full {k0 : IntKind} {f : Nat → Int} {w wr : World} {T n : Nat} (h : FillI k0 f w T n n wr) : Row k0 wr (some ⟨T, 0, none⟩) n f := fun i hi => ⟨_, rfl, by rw [own_add]; exact h.row i hi⟩
theorem FillS.full {f : Nat → ByteArray} {w wr : World} {T n : Nat} (h : FillS f w T n n wr) : RowS wr (some ⟨T, 0, none⟩) n f := fun i hi => ⟨_, rfl, by rw [own_add]; exact h.row i hi⟩
structure FillT (w : World) (T n : Nat) (F : Nat → Tk) (k : Nat) (wr : World) : Prop where
  below : Below T w wr
  size : T < wr.heap.size
  tok : ∀ i, i < k → TAt wr T (i * 7) (F i)
  room : Room wr T (n * 7)
/-- which token the model wants as a symbol -/
def wantF (cl : Nat → Nat) (n : Nat) : Int := if 1 ≤ n ∧ n ≤ 3 then mR cl n else -1
theorem wantF_rng {cl : Nat → Nat} (hc : ∀ i, cl i < 8) {n : Nat} : wantF cl n = -1 ∨ (0 ≤ wantF cl n ∧ wantF cl n < n) := by
  unfold wantF
  split
  · rename_i h
    rw [agree cl hc n h.1 h.2]
    exact pEnd_rng
  · exact .inl rfl
theorem pR_other {cl : Nat → Nat} {i n : Nat} (hi : i < n) (h : cl i = 3) : pR cl n = -1 := by
  unfold pR
  rw [pS_other hi h]
end Go.Proofs.YtpjbhbbhkhfiaaaDoor
