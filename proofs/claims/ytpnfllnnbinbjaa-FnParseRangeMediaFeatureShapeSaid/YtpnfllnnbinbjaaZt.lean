/- The laws' own tokens (ZTok): read, measured, cloned, turned into css tokens. -/
import Derived.Test.YtpnfllnnbinbjaaMk
import Derived.Test.YtpnfllnnbinbjaaArg
import Derived.Test.YtpnfllnnbinbjaaPob
import Derived.WalkSpells
import Derived.Laws.OwnMore
import Derived.OwnWalk
set_option linter.unusedVariables false
set_option linter.unusedSimpArgs false
namespace Go.Proofs.Ytpnfllnnbinbjaa
open Go.RowKit
structure ZT where
  k : Int
  tx : ByteArray
  ws : Int
  lo : Int
theorem add_fld (x : Addr) (n j : Nat) (hj : j ≠ 0) : (⟨(x.add n).block, (x.add n).off + j, none⟩ : Addr) = x.add (n + j) := by
  unfold Addr.add
  by_cases h : n = 0
  · subst h; simp [hj]
  · simp [h, Nat.add_assoc]
/-- a slice of ZToks, read -/
def ZL (w : World) (A : Option Addr) (n : Nat) (Z : Nat → ZT) : Prop := ∀ i, i < n → ∃ x, A = some x ∧ w.cell? (x.add (i * 4)) = some (.int .u8 (Z i).k) ∧ w.cell? (x.add (i * 4 + 1)) = some (.string (Z i).tx) ∧ w.cell? (x.add (i * 4 + 2)) = some (.int .u8 (Z i).ws) ∧ w.cell? (x.add (i * 4 + 3)) = some (.int .i32 (Z i).lo)
theorem ZL.at_ {w : World} {A : Option Addr} {n : Nat} {Z : Nat → ZT} (h : ZL w A n Z) (i : Nat) (hi : i < n) : ∃ x, A = some x ∧ w.cell? (x.add (i * 4)) = some (.int .u8 (Z i).k) ∧ w.cell? ⟨(x.add (i * 4)).block, (x.add (i * 4)).off + 1, none⟩ = some (.string (Z i).tx) ∧ w.cell? ⟨(x.add (i * 4)).block, (x.add (i * 4)).off + 2, none⟩ = some (.int .u8 (Z i).ws) ∧ w.cell? ⟨(x.add (i * 4)).block, (x.add (i * 4)).off + 3, none⟩ = some (.int .i32 (Z i).lo) := by
  obtain ⟨x, e, h0, h1, h2, h3⟩ := h i hi
  exact ⟨x, e, h0, by rw [add_fld _ _ _ (by omega)]; exact h1, by rw [add_fld _ _ _ (by omega)]; exact h2, by rw [add_fld _ _ _ (by omega)]; exact h3⟩
theorem ZL.after {w w' : World} {A : Option Addr} {n : Nat} {Z : Nat → ZT} (h : ZL w A n Z) (hb : Below w.heap.size w w') : ZL w' A n Z := fun i hi => by
  obtain ⟨x, e, h0, h1, h2, h3⟩ := h i hi
  exact ⟨x, e, ac hb h0, ac hb h1, ac hb h2, ac hb h3⟩
theorem ZL.take {w : World} {A : Option Addr} {n m : Nat} {Z : Nat → ZT} (h : ZL w A n Z) (hm : m ≤ n) : ZL w A m Z := fun i hi => h i (by omega)
def SomeB (w : World) (e : Ending) (w' : World) : Prop := ∃ b : Bool, e = .returned (.bool b) ∧ w = w'
/-- what zzSize says -/
def SizeP (n : Nat) (w : World) (e : Ending) (w' : World) : Prop := ∃ x : Int, e = .returned (.int .i64 x) ∧ 0 ≤ x ∧ x ≤ 2097152 ∧ (x ≤ 1048576 → n ≤ 16384) ∧ w = w'
set_option maxRecDepth 100000 in
set_option maxHeartbeats 2000000 in
theorem zsize8_c (A : Option Addr) (n c : Nat) (Z : Nat → ZT) (w : World) (h : ZL w A n Z) (hn : n ≤ maxLen) (hs : ∀ i, i < n → (Z i).tx.size ≤ maxLen) : Calls Try.prog 8 #[.slice A n c] w (SizeP n w) := by
  unfold maxLen at hn
  have H := Lib.hid h; have HS := Lib.hid hs
  clear h hs
  by_cases hb : 16384 < n
  · go_enter Try.func8, Try.ntmps8
    go_wp2
    go_ret
    exact ⟨_, rfl, by omega, by omega, (fun h => absurd h (by omega)), rfl⟩
  · go_enter Try.func8, Try.ntmps8
    go_wp2
    go_loop [3, 4] (fun s i => ∃ k m : Nat, k ≤ n ∧ m ≤ 1048576 ∧ s = .int .i64 m ∧ i = .int .i64 k) (fun _ i => n - (intOf i).toNat)
    case atStart => exact ⟨0, n * 32, by omega, by omega, by go_num, rfl⟩
    case round =>
      obtain ⟨k, m, hk, hm, rfl, rfl⟩ := hrel
      by_cases hlt : k < n
      · obtain ⟨x, rfl, c0, c1, c2, c3⟩ := H.out.at_ k hlt
        have i0 : (0 : Int) ≤ k := by omega
        have i1 : (k : Int) < n := by omega
        by_cases hb1 : 1048576 < (Z k).tx.size
        · go_wp2
          go_ret
          exact ⟨_, rfl, by omega, by omega, (fun h => absurd h (by omega)), rfl⟩
        · by_cases hb2 : 1048576 < m + (Z k).tx.size
          · go_wp2
            go_ret
            exact ⟨_, rfl, by omega, by omega, (fun h => absurd h (by omega)), rfl⟩
          · go_wp2
            go_round
            case rel => exact ⟨k + 1, m + (Z k).tx.size, by omega, by omega, by go_num, by go_num⟩
            case measure => simp [intOf]; omega
      · go_wp2
        go_ret
        exact ⟨_, rfl, by omega, by omega, (fun _ => by omega), rfl⟩
theorem own_add (T m : Nat) : (⟨T, 0, none⟩ : Addr).add m = ⟨T, m, none⟩ := by
  unfold Addr.add
  by_cases h : m = 0
  · subst h; rfl
  · simp [h]
structure ZAt (w : World) (T o : Nat) (z : ZT) : Prop where
  c0 : w.cell? ⟨T, o, none⟩ = some (.int .u8 z.k)
  c1 : w.cell? ⟨T, o + 1, none⟩ = some (.string z.tx)
  c2 : w.cell? ⟨T, o + 2, none⟩ = some (.int .u8 z.ws)
  c3 : w.cell? ⟨T, o + 3, none⟩ = some (.int .i32 z.lo)
theorem ZAt.far {w : World} {T o : Nat} {t : ZT} {p : Addr} {v : Value} (h : ZAt w T o t) (hp : p.block ≠ T ∨ p.off < o ∨ o + 4 ≤ p.off) : ZAt (w.setCell p v) T o t := by
  obtain ⟨h0, h1, h2, h3⟩ := h
  exact ⟨by rw [co (by rintro rfl; simp at hp; omega)]; exact h0, by rw [co (by rintro rfl; simp at hp; omega)]; exact h1, by rw [co (by rintro rfl; simp at hp; omega)]; exact h2, by rw [co (by rintro rfl; simp at hp; omega)]; exact h3⟩
theorem ZAt.made {w : World} {T o : Nat} (t : ZT) {v0 v1 v2 v3 : Value} (r0 : w.cell? ⟨T, o, none⟩ = some v0) (r1 : w.cell? ⟨T, o + 1, none⟩ = some v1) (r2 : w.cell? ⟨T, o + 2, none⟩ = some v2) (r3 : w.cell? ⟨T, o + 3, none⟩ = some v3) :
    ZAt ((((w.setCell ⟨T, o, none⟩ (.int .u8 t.k)).setCell ⟨T, o + 1, none⟩ (.string t.tx)).setCell ⟨T, o + 2, none⟩ (.int .u8 t.ws)).setCell ⟨T, o + 3, none⟩ (.int .i32 t.lo)) T o t := by
  have ne : ∀ {i j : Nat}, i ≠ j → (⟨T, i, none⟩ : Addr) ≠ ⟨T, j, none⟩ := fun h e => h (by injection e)
  exact ⟨by (repeat rw [co (ne (by omega))]); exact cs (u := v0) r0, by (repeat rw [co (ne (by omega))]); exact cs (u := v1) (by (repeat rw [co (ne (by omega))]); exact r1), by (repeat rw [co (ne (by omega))]); exact cs (u := v2) (by (repeat rw [co (ne (by omega))]); exact r2), by exact cs (u := v3) (by (repeat rw [co (ne (by omega))]); exact r3)⟩
structure FillZ (w : World) (T n : Nat) (Z : Nat → ZT) (k : Nat) (wr : World) : Prop where
  below : Below T w wr
  size : T < wr.heap.size
  tok : ∀ i, i < k → ZAt wr T (i * 4) (Z i)
  room : Room wr T (n * 4)
theorem FillZ.step {w wr : World} {T n k : Nat} {Z : Nat → ZT} (h : FillZ w T n Z k wr) (hk : k < n) :
    FillZ w T n Z (k + 1) ((((wr.setCell ⟨T, k * 4, none⟩ (.int .u8 (Z k).k)).setCell ⟨T, k * 4 + 1, none⟩ (.string (Z k).tx)).setCell ⟨T, k * 4 + 2, none⟩ (.int .u8 (Z k).ws)).setCell ⟨T, k * 4 + 3, none⟩ (.int .i32 (Z k).lo)) := by
  obtain ⟨hb, hz, ht, hr⟩ := h
  obtain ⟨v0, c0, -⟩ := hr (k * 4) (by omega)
  obtain ⟨v1, c1, -⟩ := hr (k * 4 + 1) (by omega)
  obtain ⟨v2, c2, -⟩ := hr (k * 4 + 2) (by omega)
  obtain ⟨v3, c3, -⟩ := hr (k * 4 + 3) (by omega)
  refine ⟨?_, ?_, ?_, ((((hr.set _ _).set _ _).set _ _).set _ _)⟩
  · iterate 4 (refine Below.setCell ?_ (by simp) _)
    exact hb
  · simpa [World.setCell] using hz
  · intro i hi
    by_cases e : i = k
    · subst e
      exact ZAt.made (Z i) c0 c1 c2 c3
    · have := ht i (by omega)
      iterate 4 (refine ZAt.far ?_ (.inr (.inr (by dsimp only; omega))))
      exact this
theorem FillZ.zl {w wr : World} {T n : Nat} {Z : Nat → ZT} (h : FillZ w T n Z n wr) : ZL wr (some ⟨T, 0, none⟩) n Z := fun i hi => by
  obtain ⟨h0, h1, h2, h3⟩ := h.tok i hi
  exact ⟨_, rfl, by rw [own_add]; exact h0, by rw [own_add]; exact h1, by rw [own_add]; exact h2, by rw [own_add]; exact h3⟩
/-- a list of ZToks that was cloned -/
def CloneP (w : World) (A : Option Addr) (n : Nat) (Z : Nat → ZT) (e : Ending) (w' : World) : Prop := ∃ A', e = .returned (.slice A' n n) ∧ (A' = none ↔ A = none) ∧ (∀ x, A' = some x → ∃ T, x = ⟨T, 0, none⟩ ∧ w.heap.size ≤ T) ∧ ZL w' A' n Z ∧ Below w.heap.size w w'
set_option maxRecDepth 100000 in
set_option maxHeartbeats 2000000 in
theorem clone9_nil (Z : Nat → ZT) (w : World) : Calls Try.prog 9 #[.slice none 0 0] w (CloneP w none 0 Z) := by
  have hq := fun W => Lib.run_eql_slice_nil (P := Try.prog) W 22 64 none 0 0 0 0 Try.underlying22
  go_enter Try.func9, Try.ntmps9
  go_wp2
  go_ret
  exact ⟨none, rfl, Iff.rfl, (fun x h => by cases h), fun i hi => absurd hi (by omega), Below.refl _ _⟩
set_option maxRecDepth 100000 in
set_option maxHeartbeats 2000000 in
theorem clone9_some (y : Addr) (n c : Nat) (Z : Nat → ZT) (w : World) (hn : n ≤ 1048576) (h : ZL w (some y) n Z) : Calls Try.prog 9 #[.slice (some y) n c] w (CloneP w (some y) n Z) := by
  obtain ⟨z, hmk⟩ := make_any (b := 32) Try.underlying22 (show (Try.prog.info? 64).map (fun i => (i.zero.isSome, i.size, i.bytes)) = some (true, 4, 32) by kernel_rfl) n hn (by omega)
  have hq := fun W => Lib.run_eql_slice_nil (P := Try.prog) W 22 64 (some y) n c 0 0 Try.underlying22
  have H := Lib.hid h
  clear h
  go_enter Try.func9, Try.ntmps9
  go_wp2
  have H0 : FillZ w w.heap.size n Z 0 (w.alloc (.cells (madeCells z (n * 4)) 64)) := ⟨ba _ _, by simp, fun i hi => by omega, Room.made _ _ _ _⟩
  clear hmk hq
  go_loopw [4] (fun i wr => ∃ k : Nat, k ≤ n ∧ i = .int .i64 k ∧ FillZ w w.heap.size n Z k wr) (fun i _ => n - (intOf i).toNat)
  case atStart => exact ⟨0, by omega, rfl, H0⟩
  case round =>
    obtain ⟨k, hk, rfl, HF⟩ := hrel
    clear H0
    by_cases hlt : k < n
    · obtain ⟨x, hx, d0, d1, d2, d3⟩ := (H.out.after HF.below).at_ k hlt
      cases hx
      obtain ⟨v0, c0, f0⟩ := HF.room (k * 4) (by omega)
      obtain ⟨v1, c1, f1⟩ := HF.room (k * 4 + 1) (by omega)
      obtain ⟨v2, c2, f2⟩ := HF.room (k * 4 + 2) (by omega)
      obtain ⟨v3, c3, f3⟩ := HF.room (k * 4 + 3) (by omega)
      have i0 : (0 : Int) ≤ k := by omega
      have i1 : (k : Int) < n := by omega
      have HS := Lib.hid (HF.step hlt)
      clear HF
      go_wp2
      exact ⟨⟨k + 1, by omega, by go_num, HS.out⟩, by simp [intOf]; omega⟩
    · obtain rfl : k = n := by omega
      go_wp2
      go_ret
      exact ⟨_, rfl, by simp, (fun x h => by cases h; exact ⟨_, rfl, Nat.le_refl _⟩), HF.zl, HF.below⟩
def zF (Z : Nat → ZT) (i : Nat) : Tk := ⟨.pointer none, (Z i).tx, (Z i).lo, 0, 0, (Z i).k, (Z i).ws⟩
theorem TAt.four {w : World} {T o : Nat} {t : Tk} (h : TAt w T o t) (k : Int) (tx : ByteArray) (ws lo : Int) : TAt ((((w.setCell ⟨T, o + 5, none⟩ (.int .u8 k)).setCell ⟨T, o + 1, none⟩ (.string tx)).setCell ⟨T, o + 6, none⟩ (.int .u8 ws)).setCell ⟨T, o + 2, none⟩ (.int .i32 lo)) T o ⟨t.ch, tx, lo, t.pl, t.uo, k, ws⟩ := by
  have ne : ∀ {i j : Nat}, i ≠ j → (⟨T, i, none⟩ : Addr) ≠ ⟨T, j, none⟩ := fun h e => h (by injection e)
  obtain ⟨c0, c1, c2, c3, c4, c5, c6⟩ := h
  exact ⟨by (repeat rw [co (ne (by omega))]); exact c0, by (repeat rw [co (ne (by omega))]); exact cs (by (repeat rw [co (ne (by omega))]); exact c1), by exact cs (by (repeat rw [co (ne (by omega))]); exact c2), by (repeat rw [co (ne (by omega))]); exact c3, by (repeat rw [co (ne (by omega))]); exact c4, by (repeat rw [co (ne (by omega))]); exact cs c5, by (repeat rw [co (ne (by omega))]); exact cs (by (repeat rw [co (ne (by omega))]); exact c6)⟩
structure FillT (w : World) (T n : Nat) (F : Nat → Tk) (k : Nat) (wr : World) : Prop where
  below : Below T w wr
  size : T < wr.heap.size
  tok : ∀ i, i < n → TAt wr T (i * 7) (if i < k then F i else tk0)
  room : Room wr T (n * 7)
theorem FillT.step {w wr : World} {T n k : Nat} {Z : Nat → ZT} (h : FillT w T n (zF Z) k wr) (hk : k < n) :
    FillT w T n (zF Z) (k + 1) ((((wr.setCell ⟨T, k * 7 + 5, none⟩ (.int .u8 (Z k).k)).setCell ⟨T, k * 7 + 1, none⟩ (.string (Z k).tx)).setCell ⟨T, k * 7 + 6, none⟩ (.int .u8 (Z k).ws)).setCell ⟨T, k * 7 + 2, none⟩ (.int .i32 (Z k).lo)) := by
  obtain ⟨hb, hz, ht, hr⟩ := h
  refine ⟨?_, ?_, ?_, ((((hr.set _ _).set _ _).set _ _).set _ _)⟩
  · iterate 4 (refine Below.setCell ?_ (by simp) _)
    exact hb
  · simpa [World.setCell] using hz
  · intro i hi
    by_cases e : i = k
    · subst e
      rw [if_pos (by omega)]
      have := ht i hi
      rw [if_neg (by omega)] at this
      exact this.four (Z i).k (Z i).tx (Z i).ws (Z i).lo
    · have := ht i hi
      rw [show (if i < k + 1 then zF Z i else tk0) = (if i < k then zF Z i else tk0) by by_cases h : i < k; rw [if_pos h, if_pos (by omega)]; rw [if_neg h, if_neg (by omega)]]
      iterate 4 (refine TAt.far ?_ (.inr (by dsimp only; omega)))
      exact this
theorem FillT.built {w wr : World} {n : Nat} {F : Nat → Tk} {T : Nat} (h : FillT w T n F n wr) : TokB wr T 0 n F := fun i hi => by
  obtain ⟨v6, c6, f6⟩ := h.room (i * 7 + 6) (by omega)
  rw [Nat.zero_add]
  have := h.tok i hi
  rw [if_pos hi] at this
  exact ⟨this, f6⟩
set_option maxRecDepth 100000 in
set_option maxHeartbeats 2000000 in
theorem tok11_nil (Z : Nat → ZT) (w : World) : Calls Try.prog 11 #[.slice none 0 0] w (FeatP w 0 (zF Z)) := by
  have hq := fun W => Lib.run_eql_slice_nil (P := Try.prog) W 22 64 none 0 0 0 0 Try.underlying22
  go_enter Try.func11, Try.ntmps11
  go_wp2
  go_ret
  exact ⟨none, w.heap.size, rfl, (fun h => absurd h (by omega)), fun _ => rfl, Nat.le_refl _, (fun h => absurd h (by omega)), fun i hi => absurd hi (by omega), Below.refl _ _⟩
set_option maxRecDepth 100000 in
set_option maxHeartbeats 2000000 in
theorem tok11_some (y : Addr) (n c : Nat) (Z : Nat → ZT) (w : World) (hn : n ≤ 1048576) (h : ZL w (some y) n Z) : Calls Try.prog 11 #[.slice (some y) n c] w (FeatP w n (zF Z)) := by
  have hmk := make_z (b := 40) tkZ Try.underlying27 (show (Try.prog.info? 54).map (fun i => (i.zero.map (·.cells), i.size, i.bytes)) = some (some tkZ, 7, 40) by kernel_rfl) n hn (by omega)
  have hq := fun W => Lib.run_eql_slice_nil (P := Try.prog) W 22 64 (some y) n c 0 0 Try.underlying22
  have H := Lib.hid h
  clear h
  go_enter Try.func11, Try.ntmps11
  go_wp2
  have H0 : FillT w w.heap.size n (zF Z) 0 (w.alloc (.cells (madeCells tkZ (n * 7)) 54)) := ⟨ba _ _, by simp, fun i hi => by rw [if_neg (by omega)]; exact TAt.zero w n _ i hi, Room.made _ _ _ _⟩
  clear hmk hq
  go_loopw [4] (fun i wr => ∃ k : Nat, k ≤ n ∧ i = .int .i64 k ∧ FillT w w.heap.size n (zF Z) k wr) (fun i _ => n - (intOf i).toNat)
  case atStart => exact ⟨0, by omega, rfl, H0⟩
  case round =>
    obtain ⟨k, hk, rfl, HF⟩ := hrel
    clear H0
    by_cases hlt : k < n
    · obtain ⟨x, hx, d0, d1, d2, d3⟩ := (H.out.after HF.below).at_ k hlt
      cases hx
      have hxl : (y.add (k * 4)).block < w.heap.size := by
        obtain ⟨x, hx, e0, -⟩ := H.out k hlt
        cases hx
        exact block_lt_of_cell e0
      have hx1 : ¬ (w.heap.size = (y.add (k * 4)).block) := by omega
      have hx2 : ¬ ((y.add (k * 4)).block = w.heap.size) := by omega
      obtain ⟨v1, c1, f1⟩ := HF.room (k * 7 + 1) (by omega)
      obtain ⟨v2, c2, f2⟩ := HF.room (k * 7 + 2) (by omega)
      obtain ⟨v5, c5, f5⟩ := HF.room (k * 7 + 5) (by omega)
      obtain ⟨v6, c6, f6⟩ := HF.room (k * 7 + 6) (by omega)
      have i0 : (0 : Int) ≤ k := by omega
      have i1 : (k : Int) < n := by omega
      have HS := Lib.hid (HF.step hlt)
      clear HF
      go_wp2
      exact ⟨⟨k + 1, by omega, by go_num, HS.out⟩, by simp [intOf]; omega⟩
    · obtain rfl : k = n := by omega
      go_wp2
      go_ret
      exact ⟨_, w.heap.size, rfl, fun _ => rfl, (fun h => by cases h), Nat.le_refl _, fun _ => HF.size, HF.built, HF.below⟩
end Go.Proofs.Ytpnfllnnbinbjaa
