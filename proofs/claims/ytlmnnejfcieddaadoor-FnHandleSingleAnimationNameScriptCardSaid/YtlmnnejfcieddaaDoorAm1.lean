/- The law's own arguments (kinds, texts): measured, turned into css tokens. -/
import Derived.Test.YtlmnnejfcieddaaDoorSya
import Derived.WalkSpells
set_option linter.unusedVariables false
set_option linter.unusedSimpArgs false
namespace Go.Proofs.YtlmnnejfcieddaaDoor
open Go.RowKit
def ByB (n0 n1 : Nat) (X : Nat → ByteArray) (w : World) (e : Ending) (w' : World) : Prop := ∃ b : Bool, e = .returned (.bool b) ∧ (b = true → n0 ≤ 1048576 ∧ n1 ≤ 1048576 ∧ ∀ i, i < n1 → (X i).size ≤ 1048576) ∧ w = w'
set_option maxRecDepth 100000 in
set_option maxHeartbeats 2000000 in
theorem bytes5_c (A0 A1 : Option Addr) (n0 c0 n1 c1 : Nat) (X : Nat → ByteArray) (b : Bool) (w : World) (h : RowS w A1 n1 X) (hn0 : n0 ≤ maxLen) (hn1 : n1 ≤ maxLen) (hs : ∀ i, i < n1 → (X i).size ≤ maxLen) : Calls Tryd.prog 5 #[.slice A0 n0 c0, .slice A1 n1 c1, .bool b] w (ByB n0 n1 X w) := by
  unfold maxLen at hn0 hn1 hs
  have H := Lib.hid h; have HS := Lib.hid hs
  clear h hs
  by_cases h0 : 1048576 < n0
  · go_enter Tryd.func5, Tryd.ntmps5
    go_wp2
    go_ret
    exact ⟨_, rfl, (fun h => by cases h), rfl⟩
  · by_cases h1 : 1048576 < n1
    · go_enter Tryd.func5, Tryd.ntmps5
      go_wp2
      go_ret
      exact ⟨_, rfl, (fun h => by cases h), rfl⟩
    · by_cases h2 : 1048576 < n0 + n1
      · go_enter Tryd.func5, Tryd.ntmps5
        go_wp2
        go_ret
        exact ⟨_, rfl, (fun h => by cases h), rfl⟩
      · go_enter Tryd.func5, Tryd.ntmps5
        go_wp2
        go_loopw [7, 8] (fun s i wr => ∃ k m : Nat, k ≤ n1 ∧ m ≤ 1048576 ∧ (∀ i, i < k → (X i).size ≤ 1048576) ∧ s = .int .i64 m ∧ i = .int .i64 k ∧ wr = w) (fun _ i _ => n1 - (intOf i).toNat)
        case atStart => exact ⟨0, n0 + n1, by omega, by omega, (fun i hi => by omega), by go_num, rfl, rfl⟩
        case round =>
          obtain ⟨k, m, hk, hm, hall, rfl, rfl, rfl⟩ := hrel
          replace hall := Lib.hid hall
          by_cases hlt : k < n1
          · obtain ⟨x, rfl, q0⟩ := H.out k hlt
            have i0 : (0 : Int) ≤ k := by omega
            have i1 : (k : Int) < n1 := by omega
            by_cases hb1 : 1048576 < (X k).size
            · go_wp2
              go_ret
              exact ⟨_, rfl, (fun h => by cases h), rfl⟩
            · by_cases hb2 : 1048576 < m + (X k).size
              · go_wp2
                go_ret
                exact ⟨_, rfl, (fun h => by cases h), rfl⟩
              · go_wp2
                go_roundw
                case rel => exact ⟨k + 1, m + (X k).size, by omega, by omega, (fun i hi => by
                  by_cases e : i = k
                  · subst e; omega
                  · exact hall.out i (by omega)), by go_num, by go_num, trivial⟩
                case measure => simp [intOf]; omega
          · obtain rfl : k = n1 := by omega
            go_wp2
            go_ret
            exact ⟨_, rfl, (fun _ => ⟨by omega, by omega, fun i hi => hall.out i hi⟩), rfl⟩
set_option maxRecDepth 100000 in
set_option maxHeartbeats 2000000 in
theorem bytes13_c (A0 A1 : Option Addr) (n0 c0 n1 c1 : Nat) (X : Nat → ByteArray) (b : Bool) (w : World) (h : RowS w A1 n1 X) (hn0 : n0 ≤ maxLen) (hn1 : n1 ≤ maxLen) (hs : ∀ i, i < n1 → (X i).size ≤ maxLen) : Calls Tryd.prog 13 #[.slice A0 n0 c0, .slice A1 n1 c1, .bool b] w (ByB n0 n1 X w) := by
  unfold maxLen at hn0 hn1 hs
  have H := Lib.hid h; have HS := Lib.hid hs
  clear h hs
  by_cases h0 : 1048576 < n0
  · go_enter Tryd.func13, Tryd.ntmps13
    go_wp2
    go_ret
    exact ⟨_, rfl, (fun h => by cases h), rfl⟩
  · by_cases h1 : 1048576 < n1
    · go_enter Tryd.func13, Tryd.ntmps13
      go_wp2
      go_ret
      exact ⟨_, rfl, (fun h => by cases h), rfl⟩
    · by_cases h2 : 1048576 < n0 + n1
      · go_enter Tryd.func13, Tryd.ntmps13
        go_wp2
        go_ret
        exact ⟨_, rfl, (fun h => by cases h), rfl⟩
      · go_enter Tryd.func13, Tryd.ntmps13
        go_wp2
        go_loopw [7, 8] (fun s i wr => ∃ k m : Nat, k ≤ n1 ∧ m ≤ 1048576 ∧ (∀ i, i < k → (X i).size ≤ 1048576) ∧ s = .int .i64 m ∧ i = .int .i64 k ∧ wr = w) (fun _ i _ => n1 - (intOf i).toNat)
        case atStart => exact ⟨0, n0 + n1, by omega, by omega, (fun i hi => by omega), by go_num, rfl, rfl⟩
        case round =>
          obtain ⟨k, m, hk, hm, hall, rfl, rfl, rfl⟩ := hrel
          replace hall := Lib.hid hall
          by_cases hlt : k < n1
          · obtain ⟨x, rfl, q0⟩ := H.out k hlt
            have i0 : (0 : Int) ≤ k := by omega
            have i1 : (k : Int) < n1 := by omega
            by_cases hb1 : 1048576 < (X k).size
            · go_wp2
              go_ret
              exact ⟨_, rfl, (fun h => by cases h), rfl⟩
            · by_cases hb2 : 1048576 < m + (X k).size
              · go_wp2
                go_ret
                exact ⟨_, rfl, (fun h => by cases h), rfl⟩
              · go_wp2
                go_roundw
                case rel => exact ⟨k + 1, m + (X k).size, by omega, by omega, (fun i hi => by
                  by_cases e : i = k
                  · subst e; omega
                  · exact hall.out i (by omega)), by go_num, by go_num, trivial⟩
                case measure => simp [intOf]; omega
          · obtain rfl : k = n1 := by omega
            go_wp2
            go_ret
            exact ⟨_, rfl, (fun _ => ⟨by omega, by omega, fun i hi => hall.out i hi⟩), rfl⟩
set_option maxRecDepth 100000 in
set_option maxHeartbeats 2000000 in
theorem sum17_c (A0 A1 : Option Addr) (n0 c0 n1 c1 : Nat) (X : Nat → ByteArray) (w : World) (h : RowS w A1 n1 X) (hn0 : n0 ≤ 4096) (hn1 : n1 ≤ 4096) (hs : ∀ i, i < n1 → (X i).size ≤ 1048576) : Calls Tryd.prog 17 #[.slice A0 n0 c0, .slice A1 n1 c1] w (fun e w' => ∃ x : Nat, e = .returned (.int .i64 x) ∧ x ≤ 1048577 ∧ w = w') := by
  have H := Lib.hid h; have HS := Lib.hid hs
  clear h hs
  have hz : n0 + 16 * n1 ≤ 1048576 := by omega
  go_enter Tryd.func17, Tryd.ntmps17
  go_wp2
  go_loopw [5, 6] (fun s i wr => ∃ k m : Nat, k ≤ n1 ∧ m ≤ 1048576 ∧ s = .int .i64 m ∧ i = .int .i64 k ∧ wr = w) (fun _ i _ => n1 - (intOf i).toNat)
  case atStart => exact ⟨0, n0 + 16 * n1, by omega, by omega, by go_num, rfl, rfl⟩
  case round =>
    obtain ⟨k, m, hk, hm, rfl, rfl, rfl⟩ := hrel
    by_cases hlt : k < n1
    · obtain ⟨x, rfl, q0⟩ := H.out k hlt
      have hsz := HS.out k hlt
      have i0 : (0 : Int) ≤ k := by omega
      have i1 : (k : Int) < n1 := by omega
      by_cases hb2 : 1048576 < m + (X k).size
      · go_wp2
        go_ret
        exact ⟨1048577, rfl, by omega, rfl⟩
      · go_wp2
        go_roundw
        case rel => exact ⟨k + 1, m + (X k).size, by omega, by omega, by go_num, by go_num, trivial⟩
        case measure => simp [intOf]; omega
    · obtain rfl : k = n1 := by omega
      go_wp2
      go_ret
      exact ⟨m, rfl, by omega, rfl⟩
def BigB (n0 n1 : Nat) (w : World) (e : Ending) (w' : World) : Prop := ∃ b : Bool, e = .returned (.bool b) ∧ (b = false → n0 ≤ 4096 ∧ n1 ≤ 4096) ∧ w = w'
set_option maxRecDepth 100000 in
theorem big6_c (A0 A1 : Option Addr) (n0 c0 n1 c1 : Nat) (X : Nat → ByteArray) (w : World) (h : RowS w A1 n1 X) (hn0 : n0 ≤ 1048576) (hn1 : n1 ≤ 1048576) (hs : ∀ i, i < n1 → (X i).size ≤ 1048576) : Calls Tryd.prog 6 #[.slice A0 n0 c0, .slice A1 n1 c1] w (BigB n0 n1 w) := by
  by_cases h0 : 4096 < n0
  · clear h hs
    go_enter Tryd.func6, Tryd.ntmps6
    go_wp2
    go_ret
    exact ⟨_, rfl, (fun h => by cases h), rfl⟩
  · by_cases h1 : 4096 < n1
    · clear h hs
      go_enter Tryd.func6, Tryd.ntmps6
      go_wp2
      go_ret
      exact ⟨_, rfl, (fun h => by cases h), rfl⟩
    · have C := Lib.hid (sum17_c A0 A1 n0 c0 n1 c1 X w h (by omega) (by omega) hs)
      clear h hs
      go_enter Tryd.func6, Tryd.ntmps6
      go_wp2_with (go_at_call 17; (with_reducible refine C.out.mono ?_); rintro e w1 ⟨x, rfl, hx, rfl⟩)
      go_ret
      exact ⟨_, rfl, (fun _ => ⟨by omega, by omega⟩), rfl⟩
theorem min18_c (a b : Nat) (w : World) : Calls Tryd.prog 18 #[.int .i64 a, .int .i64 b] w (fun e w' => e = .returned (.int .i64 (Nat.min a b : Nat)) ∧ w = w') := by
  by_cases h : a < b
  · have e : Nat.min a b = a := Nat.min_eq_left (by omega)
    rw [e]
    go_enter Tryd.func18, Tryd.ntmps18
    go_wp2
    go_ret
    exact ⟨rfl, rfl⟩
  · have e : Nat.min a b = b := Nat.min_eq_right (by omega)
    rw [e]
    go_enter Tryd.func18, Tryd.ntmps18
    go_wp2
    go_ret
    exact ⟨rfl, rfl⟩
def codeF (k : Int) : Int := k % 5
theorem code11_c (k : Int) (h0 : 0 ≤ k) (h1 : k ≤ 255) (w : World) : Calls Tryd.prog 11 #[.int .u8 k] w (fun e w' => e = .returned (.int .u8 (codeF k)) ∧ w = w') := by
  go_enter Tryd.func11, Tryd.ntmps11
  go_wp2
  go_ret
  exact ⟨rfl, rfl⟩
def kindF (c : Int) : Int := if c = 0 then 29 else if c = 1 then 36 else if c = 2 then 30 else if c = 3 then 10 else 34
theorem kind19_c (c : Int) (w : World) : Calls Tryd.prog 19 #[.int .u8 c] w (fun e w' => e = .returned (.int .u8 (kindF c)) ∧ w = w') := by
  unfold kindF
  by_cases h0 : c = 0
  · subst h0
    go_enter Tryd.func19, Tryd.ntmps19
    go_wp2
    go_ret
    exact ⟨rfl, rfl⟩
  · by_cases h1 : c = 1
    · subst h1
      go_enter Tryd.func19, Tryd.ntmps19
      go_wp2
      go_ret
      exact ⟨rfl, rfl⟩
    · by_cases h2 : c = 2
      · subst h2
        go_enter Tryd.func19, Tryd.ntmps19
        go_wp2
        go_ret
        exact ⟨rfl, rfl⟩
      · by_cases h3 : c = 3
        · subst h3
          go_enter Tryd.func19, Tryd.ntmps19
          go_wp2
          go_ret
          exact ⟨rfl, rfl⟩
        · rw [if_neg h0, if_neg h1, if_neg h2, if_neg h3]
          go_enter Tryd.func19, Tryd.ntmps19
          go_wp2
          go_ret
          exact ⟨rfl, rfl⟩
/-- whether the law's check expects a symbol -/
def accF (mk : Bool) (c : Int) (s : ByteArray) : Bool := !((decide (c = 0) || (decide (c = 1) && !mk)) && resF s)
set_option maxRecDepth 100000 in
theorem acc10_c (c : Int) (s : ByteArray) (mk : Bool) (hs : s.size ≤ 1048576) (w : World) : Calls Tryd.prog 10 #[.int .u8 c, .string s, .bool mk] w (fun e w' => e = .returned (.bool (accF mk c s)) ∧ Below w.heap.size w w') := by
  have C := Lib.hid (res21_c s w hs)
  unfold accF
  by_cases h0 : c = 0
  · subst h0
    go_enter Tryd.func10, Tryd.ntmps10
    go_wp2_with (go_at_call 21; (with_reducible refine C.out.mono ?_); rintro e w1 ⟨rfl, hb⟩; replace hb := Lib.hid hb)
    go_ret
    exact ⟨by simp, hb.out⟩
  · by_cases h1 : c = 1
    · subst h1
      cases mk
      · go_enter Tryd.func10, Tryd.ntmps10
        go_wp2_with (go_at_call 21; (with_reducible refine C.out.mono ?_); rintro e w1 ⟨rfl, hb⟩; replace hb := Lib.hid hb)
        go_ret
        exact ⟨by simp, hb.out⟩
      · clear C
        go_enter Tryd.func10, Tryd.ntmps10
        go_wp2
        go_ret
        exact ⟨by simp, Below.refl _ _⟩
    · clear C
      have e : Hid ((!((decide (c = 0) || (decide (c = 1) && !mk)) && resF s)) = true) := Lib.hid (by simp [h0, h1])
      go_enter Tryd.func10, Tryd.ntmps10
      go_wp2
      go_ret
      exact ⟨by rw [e.out]; rfl, Below.refl _ _⟩
theorem stay_acc {res : ByteArray → Bool} (hres : ResOk res) (mk : Bool) (c : Int) (s : ByteArray) : stay lowS res mk (kindF c) s = !accF mk c s := by
  unfold stay accF
  rw [keeps_eq hres, Bool.not_not]
  have e0 : decide (kindF c = 29) = decide (c = 0) := by
    unfold kindF
    by_cases h0 : c = 0
    · simp [h0]
    · by_cases h1 : c = 1
      · simp [h1]
      · by_cases h2 : c = 2
        · simp [h2]
        · by_cases h3 : c = 3
          · simp [h3]
          · simp [h0, h1, h2, h3]
  have e1 : decide (kindF c = 36) = decide (c = 1) := by
    unfold kindF
    by_cases h0 : c = 0
    · simp [h0]
    · by_cases h1 : c = 1
      · simp [h1]
      · by_cases h2 : c = 2
        · simp [h2]
        · by_cases h3 : c = 3
          · simp [h3]
          · simp [h0, h1, h2, h3]
  rw [e0, e1]
/-- the tokens that the law builds -/
def zF (K : Nat → Int) (X : Nat → ByteArray) (i : Nat) : Tk := ⟨.pointer none, X i, 0, 0, 0, kindF (codeF (K i)), 0⟩
theorem own_add (T m : Nat) : (⟨T, 0, none⟩ : Addr).add m = ⟨T, m, none⟩ := by
  unfold Addr.add
  by_cases h : m = 0
  · subst h; rfl
  · simp [h]
structure FillT (w : World) (T n : Nat) (F : Nat → Tk) (k : Nat) (wr : World) : Prop where
  below : Below T w wr
  size : T < wr.heap.size
  tok : ∀ i, i < n → TAt wr T (i * 7) (if i < k then F i else tk0)
  room : Room wr T (n * 7)
theorem TAt.two {w : World} {T o : Nat} {t : Tk} (h : TAt w T o t) (k : Int) (tx : ByteArray) : TAt ((w.setCell ⟨T, o + 5, none⟩ (.int .u8 k)).setCell ⟨T, o + 1, none⟩ (.string tx)) T o ⟨t.ch, tx, t.lo, t.pl, t.uo, k, t.ws⟩ := by
  have ne : ∀ {i j : Nat}, i ≠ j → (⟨T, i, none⟩ : Addr) ≠ ⟨T, j, none⟩ := fun h e => h (by injection e)
  obtain ⟨c0, c1, c2, c3, c4, c5, c6⟩ := h
  exact ⟨by rw [co (ne (by omega)), co (ne (by omega))]; exact c0, cs (by rw [co (ne (by omega))]; exact c1), by rw [co (ne (by omega)), co (ne (by omega))]; exact c2, by rw [co (ne (by omega)), co (ne (by omega))]; exact c3, by rw [co (ne (by omega)), co (ne (by omega))]; exact c4, by rw [co (ne (by omega))]; exact cs c5, by rw [co (ne (by omega)), co (ne (by omega))]; exact c6⟩
theorem FillT.step {w wr : World} {T n k : Nat} {K : Nat → Int} {X : Nat → ByteArray} (h : FillT w T n (zF K X) k wr) (hk : k < n) :
    FillT w T n (zF K X) (k + 1) ((wr.setCell ⟨T, k * 7 + 5, none⟩ (.int .u8 (kindF (codeF (K k))))).setCell ⟨T, k * 7 + 1, none⟩ (.string (X k))) := by
  obtain ⟨hb, hz, ht, hr⟩ := h
  refine ⟨(hb.setCell (Nat.le_refl _) _).setCell (Nat.le_refl _) _, by simpa [World.setCell] using hz, ?_, (hr.set _ _).set _ _⟩
  intro i hi
  by_cases e : i = k
  · subst e
    rw [if_pos (by omega)]
    have := ht i hi
    rw [if_neg (by omega)] at this
    exact this.two (kindF (codeF (K i))) (X i)
  · have := ht i hi
    rw [show (if i < k + 1 then zF K X i else tk0) = (if i < k then zF K X i else tk0) by by_cases h : i < k; rw [if_pos h, if_pos (by omega)]; rw [if_neg h, if_neg (by omega)]]
    exact (this.far (.inr (by dsimp only; omega))).far (.inr (by dsimp only; omega))
/-- css tokens in a block that may be written -/
structure TokR (w : World) (T n : Nat) (F : Nat → Tk) : Prop where
  tok : ∀ i, i < n → TAt w T (i * 7) (F i)
  froz : ∀ j, j < n * 7 → w.frozen? ⟨T, j, none⟩ = false
theorem FillT.built {w wr : World} {n : Nat} {F : Nat → Tk} {T : Nat} (h : FillT w T n F n wr) : TokR wr T n F := ⟨fun i hi => by
  have := h.tok i hi
  rw [if_pos hi] at this
  exact this, fun j hj => by
  obtain ⟨v, -, f⟩ := h.room j hj
  exact f⟩
def BuildP (w : World) (n : Nat) (F : Nat → Tk) (e : Ending) (w' : World) : Prop := ∃ T, e = .returned (.slice (some ⟨T, 0, none⟩) n n) ∧ w.heap.size ≤ T ∧ T < w'.heap.size ∧ TokR w' T n F ∧ Below w.heap.size w w'
set_option maxRecDepth 100000 in
set_option maxHeartbeats 2000000 in
theorem build7_c (A0 A1 : Option Addr) (n0 c0 n1 c1 n : Nat) (K : Nat → Int) (X : Nat → ByteArray) (w : World) (hn : n = Nat.min n0 n1) (hn0 : n ≤ 1048576) (hk : Row .u8 w A0 n0 K) (hx : RowS w A1 n1 X) (hK : ∀ i, i < n0 → 0 ≤ K i ∧ K i ≤ 255) : Calls Tryd.prog 7 #[.slice A0 n0 c0, .slice A1 n1 c1] w (BuildP w n (zF K X)) := by
  have hmk := make_z (b := 40) tkZ Tryd.underlying26 (show (Tryd.prog.info? 41).map (fun i => (i.zero.map (·.cells), i.size, i.bytes)) = some (some tkZ, 7, 40) by kernel_rfl) n hn0 (by omega)
  have hl0 : n ≤ n0 := by rw [hn]; exact Nat.min_le_left _ _
  have hl1 : n ≤ n1 := by rw [hn]; exact Nat.min_le_right _ _
  have C18 := Lib.hid (min18_c n0 n1 w)
  rw [← hn] at C18
  have HK := Lib.hid hk; have HX := Lib.hid hx; have HB := Lib.hid hK
  clear hk hx hK hn
  go_enter Tryd.func7, Tryd.ntmps7
  go_upto_region 3 with (go_at_call 18; (with_reducible refine C18.out.mono ?_); rintro e w1 ⟨rfl, rfl⟩)
  have H0 : FillT w w.heap.size n (zF K X) 0 (w.alloc (.cells (madeCells tkZ (n * 7)) 41)) := ⟨ba _ _, by simp, fun i hi => by rw [if_neg (by omega)]; exact TAt.zero w n _ i hi, Room.made _ _ _ _⟩
  clear hmk C18
  go_wp2
  go_loopw [7] (fun i wr => ∃ k : Nat, k ≤ n ∧ i = .int .i64 k ∧ FillT w w.heap.size n (zF K X) k wr) (fun i _ => n - (intOf i).toNat)
  case atStart => exact ⟨0, by omega, rfl, H0⟩
  case round =>
    obtain ⟨k, hk, rfl, HF⟩ := hrel
    clear H0
    by_cases hlt : k < n
    · obtain ⟨y, rfl, d0⟩ := (HK.out.after HF.below) k (by omega)
      obtain ⟨z, rfl, d1⟩ := (HX.out.after HF.below) k (by omega)
      have yl : (y.add k).block < w.heap.size := by
        obtain ⟨x, hx, e0⟩ := HK.out k (by omega)
        cases hx
        exact block_lt_of_cell e0
      have zl : (z.add k).block < w.heap.size := by
        obtain ⟨x, hx, e0⟩ := HX.out k (by omega)
        cases hx
        exact block_lt_of_cell e0
      have y1 : ¬ (w.heap.size = (y.add k).block) := by omega
      have y2 : ¬ ((y.add k).block = w.heap.size) := by omega
      have z1 : ¬ (w.heap.size = (z.add k).block) := by omega
      have z2 : ¬ ((z.add k).block = w.heap.size) := by omega
      have z3 : ¬ (z.add k = ⟨w.heap.size, k * 7 + 5, none⟩) := fun e => z2 (by rw [e])
      have z4 : ¬ ((⟨w.heap.size, k * 7 + 5, none⟩ : Addr) = z.add k) := fun e => z2 (by rw [← e])
      obtain ⟨v1, q1, f1⟩ := HF.room (k * 7 + 1) (by omega)
      obtain ⟨v5, q5, f5⟩ := HF.room (k * 7 + 5) (by omega)
      have i0 : (0 : Int) ≤ k := by omega
      have i1 : (k : Int) < n := by omega
      have i2 : (k : Int) < n0 := by omega
      have i3 : (k : Int) < n1 := by omega
      have C11 := Lib.hid (code11_c (K k) (HB.out k (by omega)).1 (HB.out k (by omega)).2 wr)
      have C19 := Lib.hid (kind19_c (codeF (K k)) wr)
      have HS := Lib.hid (HF.step hlt)
      clear HF
      go_wp2_with (first | (go_at_call 11; (with_reducible refine C11.out.mono ?_); rintro e w1 ⟨rfl, rfl⟩) | (go_at_call 19; (with_reducible refine C19.out.mono ?_); rintro e w1 ⟨rfl, rfl⟩))
      go_roundw
      case rel => exact ⟨k + 1, by omega, by go_num, HS.out⟩
      case measure => simp [intOf]; omega
    · obtain rfl : k = n := by omega
      go_wp2
      go_ret
      exact ⟨w.heap.size, rfl, Nat.le_refl _, HF.size, HF.built, HF.below⟩
end Go.Proofs.YtlmnnejfcieddaaDoor
