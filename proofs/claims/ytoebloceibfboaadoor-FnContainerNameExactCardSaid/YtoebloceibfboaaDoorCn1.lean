/- The law's own tokens (kind, text): read, measured, cloned, turned into css tokens. -/
import Derived.Test.YtoebloceibfboaaDoorSy8
import Derived.WalkSpells
set_option linter.unusedVariables false
set_option linter.unusedSimpArgs false
namespace Go.Proofs.YtoebloceibfboaaDoor
open Go.RowKit
structure ZT where
  k : Int
  tx : ByteArray
theorem add_fld (x : Addr) (n j : Nat) (hj : j ≠ 0) : (⟨(x.add n).block, (x.add n).off + j, none⟩ : Addr) = x.add (n + j) := by
  unfold Addr.add
  by_cases h : n = 0
  · subst h; simp [hj]
  · simp [h, Nat.add_assoc]
/-- a slice of the law's tokens, read -/
def ZL (w : World) (A : Option Addr) (n : Nat) (Z : Nat → ZT) : Prop := ∀ i, i < n → ∃ x, A = some x ∧ w.cell? (x.add (i * 2)) = some (.int .u8 (Z i).k) ∧ w.cell? (x.add (i * 2 + 1)) = some (.string (Z i).tx)
theorem ZL.at_ {w : World} {A : Option Addr} {n : Nat} {Z : Nat → ZT} (h : ZL w A n Z) (i : Nat) (hi : i < n) : ∃ x, A = some x ∧ w.cell? (x.add (i * 2)) = some (.int .u8 (Z i).k) ∧ w.cell? ⟨(x.add (i * 2)).block, (x.add (i * 2)).off + 1, none⟩ = some (.string (Z i).tx) := by
  obtain ⟨x, e, h0, h1⟩ := h i hi
  exact ⟨x, e, h0, by rw [add_fld _ _ _ (by omega)]; exact h1⟩
theorem ZL.after {w w' : World} {A : Option Addr} {n : Nat} {Z : Nat → ZT} (h : ZL w A n Z) (hb : Below w.heap.size w w') : ZL w' A n Z := fun i hi => by
  obtain ⟨x, e, h0, h1⟩ := h i hi
  exact ⟨x, e, ac hb h0, ac hb h1⟩
def SomeB (n : Nat) (Z : Nat → ZT) (w : World) (e : Ending) (w' : World) : Prop := ∃ b : Bool, e = .returned (.bool b) ∧ (b = true → n ≤ 1048576 ∧ ∀ i, i < n → (Z i).tx.size ≤ 1048576) ∧ w = w'
/-- what zzTokBytes says -/
def SizeP (n : Nat) (Z : Nat → ZT) (w : World) (e : Ending) (w' : World) : Prop := ∃ x : Int, e = .returned (.int .i64 x) ∧ (x ≤ 1048576 → n ≤ 43690 ∧ ∀ i, i < n → (Z i).tx.size ≤ 1048576) ∧ w = w'
set_option maxRecDepth 100000 in
set_option maxHeartbeats 2000000 in
theorem bytes12_c (A : Option Addr) (n c : Nat) (Z : Nat → ZT) (b : Bool) (w : World) (h : ZL w A n Z) (hn : n ≤ maxLen) (hs : ∀ i, i < n → (Z i).tx.size ≤ maxLen) : Calls Tryd.prog 12 #[.slice A n c, .bool b] w (SomeB n Z w) := by
  unfold maxLen at hn hs
  have H := Lib.hid h; have HS := Lib.hid hs
  clear h hs
  by_cases hb : 1048576 < n
  · go_enter Tryd.func12, Tryd.ntmps12
    go_wp2
    go_ret
    exact ⟨_, rfl, (fun h => by cases h), rfl⟩
  · go_enter Tryd.func12, Tryd.ntmps12
    go_wp2
    go_loopw [5, 6] (fun s i wr => ∃ k m : Nat, k ≤ n ∧ m ≤ 1048576 ∧ (∀ i, i < k → (Z i).tx.size ≤ 1048576) ∧ s = .int .i64 m ∧ i = .int .i64 k ∧ wr = w) (fun _ i _ => n - (intOf i).toNat)
    case atStart => exact ⟨0, n, by omega, by omega, (fun i hi => by omega), by go_num, rfl, rfl⟩
    case round =>
      obtain ⟨k, m, hk, hm, hall, rfl, rfl, rfl⟩ := hrel
      replace hall := Lib.hid hall
      by_cases hlt : k < n
      · obtain ⟨x, rfl, c0, c1⟩ := H.out.at_ k hlt
        have i0 : (0 : Int) ≤ k := by omega
        have i1 : (k : Int) < n := by omega
        by_cases hb1 : 1048576 < (Z k).tx.size
        · go_wp2
          go_ret
          exact ⟨_, rfl, (fun h => by cases h), rfl⟩
        · by_cases hb2 : 1048576 < m + (Z k).tx.size
          · go_wp2
            go_ret
            exact ⟨_, rfl, (fun h => by cases h), rfl⟩
          · go_wp2
            go_roundw
            case rel => exact ⟨k + 1, m + (Z k).tx.size, by omega, by omega, (fun i hi => by
              by_cases e : i = k
              · subst e; omega
              · exact hall.out i (by omega)), by go_num, by go_num, trivial⟩
            case measure => simp [intOf]; omega
      · go_wp2
        go_ret
        obtain rfl : k = n := by omega
        exact ⟨_, rfl, (fun _ => ⟨by omega, fun i hi => hall.out i (by omega)⟩), rfl⟩
set_option maxRecDepth 100000 in
set_option maxHeartbeats 2000000 in
theorem size13_c (A : Option Addr) (n c : Nat) (Z : Nat → ZT) (w : World) (h : ZL w A n Z) (hn : n ≤ 1048576) (hs : ∀ i, i < n → (Z i).tx.size ≤ 1048576) : Calls Tryd.prog 13 #[.slice A n c] w (SizeP n Z w) := by
  have H := Lib.hid h; have HS := Lib.hid hs
  clear h hs
  go_enter Tryd.func13, Tryd.ntmps13
  go_wp2
  go_loopw [3, 4] (fun s i wr => ∃ k m : Nat, k ≤ n ∧ m ≤ 1048576 ∧ 24 * k ≤ m ∧ (∀ i, i < k → (Z i).tx.size ≤ m) ∧ s = .int .i64 m ∧ i = .int .i64 k ∧ wr = w) (fun _ i _ => n - (intOf i).toNat)
  case atStart => exact ⟨0, 0, by omega, by omega, by omega, (fun i hi => by omega), rfl, rfl, rfl⟩
  case round =>
    obtain ⟨k, m, hk, hm, hkm, hall, rfl, rfl, rfl⟩ := hrel
    have hall' := Lib.hid hall
    clear hall
    by_cases hlt : k < n
    · obtain ⟨x, rfl, c0, c1⟩ := H.out.at_ k hlt
      have hsz := HS.out k hlt
      have i0 : (0 : Int) ≤ k := by omega
      have i1 : (k : Int) < n := by omega
      by_cases hb2 : 1048576 < m + (24 + (Z k).tx.size)
      · go_wp2
        go_ret
        exact ⟨_, rfl, (fun h => absurd h (by omega)), rfl⟩
      · go_wp2
        go_roundw
        case rel => exact ⟨k + 1, m + (24 + (Z k).tx.size), by omega, by omega, by omega, (fun i hi => by
          by_cases e : i = k
          · subst e; omega
          · have := hall'.out i (by omega); omega), by go_num, by go_num, trivial⟩
        case measure => simp [intOf]; omega
    · obtain rfl : k = n := by omega
      go_wp2
      go_ret
      exact ⟨_, rfl, (fun h => ⟨by omega, fun i hi => by have := hall'.out i hi; omega⟩), rfl⟩
theorem own_add (T m : Nat) : (⟨T, 0, none⟩ : Addr).add m = ⟨T, m, none⟩ := by
  unfold Addr.add
  by_cases h : m = 0
  · subst h; rfl
  · simp [h]
structure FillZ (w : World) (T n : Nat) (Z : Nat → ZT) (k : Nat) (wr : World) : Prop where
  below : Below T w wr
  size : T < wr.heap.size
  tok : ∀ i, i < k → wr.cell? ⟨T, i * 2, none⟩ = some (.int .u8 (Z i).k) ∧ wr.cell? ⟨T, i * 2 + 1, none⟩ = some (.string (Z i).tx)
  room : Room wr T (n * 2)
theorem FillZ.step {w wr : World} {T n k : Nat} {Z : Nat → ZT} (h : FillZ w T n Z k wr) (hk : k < n) :
    FillZ w T n Z (k + 1) ((wr.setCell ⟨T, k * 2, none⟩ (.int .u8 (Z k).k)).setCell ⟨T, k * 2 + 1, none⟩ (.string (Z k).tx)) := by
  obtain ⟨hb, hz, ht, hr⟩ := h
  obtain ⟨v0, c0, -⟩ := hr (k * 2) (by omega)
  obtain ⟨v1, c1, -⟩ := hr (k * 2 + 1) (by omega)
  refine ⟨(hb.setCell (Nat.le_refl _) _).setCell (Nat.le_refl _) _, by simpa [World.setCell] using hz, ?_, (hr.set _ _).set _ _⟩
  intro i hi
  have ne : ∀ {i j : Nat}, i ≠ j → (⟨T, i, none⟩ : Addr) ≠ ⟨T, j, none⟩ := fun h e => h (by injection e)
  by_cases e : i = k
  · subst e
    exact ⟨by rw [co (ne (by omega))]; exact cs c0, cs (by rw [co (ne (by omega))]; exact c1)⟩
  · have := ht i (by omega)
    exact ⟨by rw [co (ne (by omega)), co (ne (by omega))]; exact this.1, by rw [co (ne (by omega)), co (ne (by omega))]; exact this.2⟩
theorem FillZ.zl {w wr : World} {T n : Nat} {Z : Nat → ZT} (h : FillZ w T n Z n wr) : ZL wr (some ⟨T, 0, none⟩) n Z := fun i hi => ⟨_, rfl, by rw [own_add]; exact (h.tok i hi).1, by rw [own_add]; exact (h.tok i hi).2⟩
/-- a list of the law's tokens that was cloned -/
def CloneP (w : World) (n : Nat) (Z : Nat → ZT) (e : Ending) (w' : World) : Prop := ∃ A', e = .returned (.slice A' n n) ∧ ZL w' A' n Z ∧ Below w.heap.size w w'
set_option maxRecDepth 100000 in
set_option maxHeartbeats 2000000 in
theorem clone14_nil (Z : Nat → ZT) (w : World) : Calls Tryd.prog 14 #[.slice none 0 0] w (CloneP w 0 Z) := by
  have hq := fun W => Lib.run_eql_slice_nil (P := Tryd.prog) W 41 49 none 0 0 0 0 Tryd.underlying41
  go_enter Tryd.func14, Tryd.ntmps14
  go_wp2
  go_ret
  exact ⟨none, rfl, fun i hi => absurd hi (by omega), Below.refl _ _⟩
set_option maxRecDepth 100000 in
set_option maxHeartbeats 2000000 in
theorem clone14_some (y : Addr) (n c : Nat) (Z : Nat → ZT) (w : World) (hn : n ≤ 1048576) (h : ZL w (some y) n Z) : Calls Tryd.prog 14 #[.slice (some y) n c] w (CloneP w n Z) := by
  obtain ⟨z, hmk⟩ := make_any (b := 24) Tryd.underlying41 (show (Tryd.prog.info? 49).map (fun i => (i.zero.isSome, i.size, i.bytes)) = some (true, 2, 24) by kernel_rfl) n hn (by omega)
  have hq := fun W => Lib.run_eql_slice_nil (P := Tryd.prog) W 41 49 (some y) n c 0 0 Tryd.underlying41
  have H := Lib.hid h
  clear h
  go_enter Tryd.func14, Tryd.ntmps14
  go_wp2
  have H0 : FillZ w w.heap.size n Z 0 (w.alloc (.cells (madeCells z (n * 2)) 49)) := ⟨ba _ _, by simp, fun i hi => by omega, Room.made _ _ _ _⟩
  clear hmk hq
  go_loopw [4] (fun i wr => ∃ k : Nat, k ≤ n ∧ i = .int .i64 k ∧ FillZ w w.heap.size n Z k wr) (fun i _ => n - (intOf i).toNat)
  case atStart => exact ⟨0, by omega, rfl, H0⟩
  case round =>
    obtain ⟨k, hk, rfl, HF⟩ := hrel
    clear H0
    by_cases hlt : k < n
    · obtain ⟨x, hx, d0, d1⟩ := (H.out.after HF.below).at_ k hlt
      cases hx
      obtain ⟨v0, c0, f0⟩ := HF.room (k * 2) (by omega)
      obtain ⟨v1, c1, f1⟩ := HF.room (k * 2 + 1) (by omega)
      have i0 : (0 : Int) ≤ k := by omega
      have i1 : (k : Int) < n := by omega
      have HS := Lib.hid (HF.step hlt)
      clear HF
      go_wp2
      exact ⟨⟨k + 1, by omega, by go_num, HS.out⟩, by simp [intOf]; omega⟩
    · obtain rfl : k = n := by omega
      go_wp2
      go_ret
      exact ⟨_, rfl, HF.zl, HF.below⟩
theorem clone14_c (A : Option Addr) (n c : Nat) (Z : Nat → ZT) (w : World) (hn : n ≤ 1048576) (h0 : A = none → n = 0 ∧ c = 0) (h : ZL w A n Z) : Calls Tryd.prog 14 #[.slice A n c] w (CloneP w n Z) := by
  cases A with
  | none => obtain ⟨rfl, rfl⟩ := h0 rfl; exact clone14_nil Z w
  | some y => exact clone14_some y n c Z w hn h
def zF (Z : Nat → ZT) (i : Nat) : Tk := ⟨.pointer none, (Z i).tx, 0, 0, 0, (Z i).k, 0⟩
structure FillT (w : World) (T n : Nat) (F : Nat → Tk) (k : Nat) (wr : World) : Prop where
  below : Below T w wr
  size : T < wr.heap.size
  tok : ∀ i, i < n → TAt wr T (i * 7) (if i < k then F i else tk0)
  room : Room wr T (n * 7)
theorem TAt.two {w : World} {T o : Nat} {t : Tk} (h : TAt w T o t) (k : Int) (tx : ByteArray) : TAt ((w.setCell ⟨T, o + 5, none⟩ (.int .u8 k)).setCell ⟨T, o + 1, none⟩ (.string tx)) T o ⟨t.ch, tx, t.lo, t.pl, t.uo, k, t.ws⟩ := by
  have ne : ∀ {i j : Nat}, i ≠ j → (⟨T, i, none⟩ : Addr) ≠ ⟨T, j, none⟩ := fun h e => h (by injection e)
  obtain ⟨c0, c1, c2, c3, c4, c5, c6⟩ := h
  exact ⟨by rw [co (ne (by omega)), co (ne (by omega))]; exact c0, cs (by rw [co (ne (by omega))]; exact c1), by rw [co (ne (by omega)), co (ne (by omega))]; exact c2, by rw [co (ne (by omega)), co (ne (by omega))]; exact c3, by rw [co (ne (by omega)), co (ne (by omega))]; exact c4, by rw [co (ne (by omega))]; exact cs c5, by rw [co (ne (by omega)), co (ne (by omega))]; exact c6⟩
theorem FillT.step {w wr : World} {T n k : Nat} {Z : Nat → ZT} (h : FillT w T n (zF Z) k wr) (hk : k < n) :
    FillT w T n (zF Z) (k + 1) ((wr.setCell ⟨T, k * 7 + 5, none⟩ (.int .u8 (Z k).k)).setCell ⟨T, k * 7 + 1, none⟩ (.string (Z k).tx)) := by
  obtain ⟨hb, hz, ht, hr⟩ := h
  refine ⟨(hb.setCell (Nat.le_refl _) _).setCell (Nat.le_refl _) _, by simpa [World.setCell] using hz, ?_, (hr.set _ _).set _ _⟩
  intro i hi
  by_cases e : i = k
  · subst e
    rw [if_pos (by omega)]
    have := ht i hi
    rw [if_neg (by omega)] at this
    exact this.two (Z i).k (Z i).tx
  · have := ht i hi
    rw [show (if i < k + 1 then zF Z i else tk0) = (if i < k then zF Z i else tk0) by by_cases h : i < k; rw [if_pos h, if_pos (by omega)]; rw [if_neg h, if_neg (by omega)]]
    exact (this.far (.inr (by dsimp only; omega))).far (.inr (by dsimp only; omega))
/-- css tokens in a block that may be written -/
structure TokR (w : World) (T n : Nat) (F : Nat → Tk) : Prop where
  tok : ∀ i, i < n → TAt w T (i * 7) (F i)
  froz : ∀ j, j < n * 7 → w.frozen? ⟨T, j, none⟩ = false
theorem FillT.built {w wr : World} {n : Nat} {F : Nat → Tk} {T : Nat} (h : FillT w T n F n wr) : TokR wr T n F := ⟨fun i hi => by
  have := h.tok i hi
  rw [if_pos hi] at this
  exact this, fun j hj => by
  obtain ⟨v, -, f⟩ := h.room j hj
  exact f⟩
def BuildP (w : World) (n : Nat) (F : Nat → Tk) (e : Ending) (w' : World) : Prop := ∃ T, e = .returned (.slice (some ⟨T, 0, none⟩) n n) ∧ w.heap.size ≤ T ∧ T < w'.heap.size ∧ TokR w' T n F ∧ Below w.heap.size w w'
set_option maxRecDepth 100000 in
set_option maxHeartbeats 2000000 in
theorem build15_c (A : Option Addr) (n c : Nat) (Z : Nat → ZT) (w : World) (hn : n ≤ 1048576) (h : ZL w A n Z) : Calls Tryd.prog 15 #[.slice A n c] w (BuildP w n (zF Z)) := by
  have hmk := make_z (b := 40) tkZ Tryd.underlying45 (show (Tryd.prog.info? 33).map (fun i => (i.zero.map (·.cells), i.size, i.bytes)) = some (some tkZ, 7, 40) by kernel_rfl) n hn (by omega)
  have H := Lib.hid h
  clear h
  go_enter Tryd.func15, Tryd.ntmps15
  go_wp2
  have H0 : FillT w w.heap.size n (zF Z) 0 (w.alloc (.cells (madeCells tkZ (n * 7)) 33)) := ⟨ba _ _, by simp, fun i hi => by rw [if_neg (by omega)]; exact TAt.zero w n _ i hi, Room.made _ _ _ _⟩
  clear hmk
  go_loopw [4] (fun i wr => ∃ k : Nat, k ≤ n ∧ i = .int .i64 k ∧ FillT w w.heap.size n (zF Z) k wr) (fun i _ => n - (intOf i).toNat)
  case atStart => exact ⟨0, by omega, rfl, H0⟩
  case round =>
    obtain ⟨k, hk, rfl, HF⟩ := hrel
    clear H0
    by_cases hlt : k < n
    · obtain ⟨y, rfl, d0, d1⟩ := (H.out.after HF.below).at_ k hlt
      have hxl : (y.add (k * 2)).block < w.heap.size := by
        obtain ⟨x, hx, e0, -⟩ := H.out k hlt
        cases hx
        exact block_lt_of_cell e0
      have hx1 : ¬ (w.heap.size = (y.add (k * 2)).block) := by omega
      have hx2 : ¬ ((y.add (k * 2)).block = w.heap.size) := by omega
      obtain ⟨v1, c1, f1⟩ := HF.room (k * 7 + 1) (by omega)
      obtain ⟨v5, c5, f5⟩ := HF.room (k * 7 + 5) (by omega)
      have i0 : (0 : Int) ≤ k := by omega
      have i1 : (k : Int) < n := by omega
      have HS := Lib.hid (HF.step hlt)
      clear HF
      go_wp2
      exact ⟨⟨k + 1, by omega, by go_num, HS.out⟩, by simp [intOf]; omega⟩
    · obtain rfl : k = n := by omega
      go_wp2
      go_ret
      exact ⟨w.heap.size, rfl, Nat.le_refl _, HF.size, HF.built, HF.below⟩
end Go.Proofs.YtoebloceibfboaaDoor
