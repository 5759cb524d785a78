/- FnNameTokenReadsCurrentToken: the text, the tokens and the offsets. -/
import Derived.Test.YtbakdeoeceajeaaDoorNt2
set_option linter.unusedVariables false
set_option linter.unusedSimpArgs false
namespace Go.Proofs.YtbakdeoeceajeaaDoor
open Go.RowKit
/-- the text of the first i codes -/
def catL (f : Nat → Int) : Nat → List UInt8
  | 0 => []
  | i + 1 => catL f i ++ txR (f i % 14)
def off (f : Nat → Int) (i : Nat) : Nat := (catL f i).length
theorem tx_size (c : Int) : (txN c).size = (txR (c % 14)).length := by
  show (txR (c % 14)).toArray.size = _
  simp
theorem tx_le (c : Int) : 1 ≤ (txN c).size ∧ (txN c).size ≤ 3 := by
  rw [tx_size]
  rcases c14 c with h | h | h | h | h | h | h | h | h | h | h | h | h | h <;> rw [h] <;> decide
theorem off_le (f : Nat → Int) : ∀ i, off f i ≤ 3 * i
  | 0 => by simp [off, catL]
  | i + 1 => by
    have h1 := off_le f i
    have h2 := tx_le (f i)
    rw [tx_size] at h2
    unfold off at *
    rw [catL, List.length_append]
    omega
theorem cat_more (f : Nat → Int) (i n : Nat) (h : i ≤ n) : ∃ r, catL f n = catL f i ++ r := by
  induction n with
  | zero => exact ⟨[], by rw [show i = 0 by omega]; simp⟩
  | succ n ih =>
    by_cases e : i = n + 1
    · subst e; exact ⟨[], by simp⟩
    · obtain ⟨r, hr⟩ := ih (by omega)
      exact ⟨r ++ txR (f n % 14), by rw [catL, hr, List.append_assoc]⟩
/-- the bytes of list l as values -/
def bv (l : List UInt8) : List Value := l.map fun x => .int .u8 (x.toNat : Int)
def bt (s : ByteArray) (j : Nat) : Int := ((s.data.toList[j]?).getD 0).toNat
def bvS (s : ByteArray) (j : Nat) : List Value := bv (s.data.toList.take j)
theorem bvS_succ {s : ByteArray} {j : Nat} (h : j < s.size) : bvS s (j + 1) = bvS s j ++ [.int .u8 (bt s j)] := by
  have h' : j < s.data.toList.length := by simpa using h
  unfold bvS bv bt
  rw [List.take_add_one, List.getElem?_eq_getElem h', List.map_append]
  rfl
theorem idx9 (s : ByteArray) (j : Nat) (h : j < s.size) (W : World) : (Instr.index 9 (.string s) (.int .i64 (j : Int))).run Tryd.prog W = .ok (.int .u8 (bt s j)) W := by
  rw [run_index_string W 9 s .i64 _ Tryd.underlying9, dif_pos ⟨by omega, by omega⟩]
  have h' : j < s.data.toList.length := by simpa using h
  unfold bt
  rw [List.getElem?_eq_getElem h']
  simp
  rfl
theorem bvS_all (c : Int) : bvS (txN c) (txN c).size = bv (txR (c % 14)) := by
  rw [tx_size]
  unfold bvS txN bv
  simp
theorem bv_app (a b : List UInt8) : bv (a ++ b) = bv a ++ bv b := by simp [bv]
theorem info5 : (Tryd.prog.info? 5).map (fun i => (i.zero.map (·.cells), i.size, i.bytes)) = some (some #[.int .u8 0], 1, 1) := by kernel_rfl
theorem info47 : (Tryd.prog.info? 47).map (fun i => (i.zero.map (·.cells), i.size, i.bytes)) = some (some #[.int .i32 0, .int .i32 0, .int .u16 0, .int .u8 0, .int .u8 0], 5, 12) := by kernel_rfl
theorem info3 : (Tryd.prog.info? 3).map (fun i => (i.zero.map (·.cells), i.size, i.bytes)) = some (some #[.int .i64 0], 1, 8) := by kernel_rfl
abbrev tkL (a n k : Int) : List Value := [.int .i32 a, .int .i32 n, .int .u16 0, .int .u8 k, .int .u8 0]
theorem i47 (a n k : Int) : (Tryd.prog.info? 47).map (·.size) = some (tkL a n k).length := (by kernel_rfl : (Tryd.prog.info? 47).map (·.size) = some 5)
theorem tkL_one (a n k : Int) : ∀ v ∈ tkL a n k, v.oneCell' = true := by
  intro v hv
  simp only [List.mem_cons, List.not_mem_nil, or_false] at hv
  rcases hv with rfl | rfl | rfl | rfl | rfl <;> rfl
def tk5 (f : Nat → Int) (j : Nat) : List Value := tkL (off f j) (txN (f j)).size (kdN (f j))
structure BS (w : World) (TB K n : Nat) (f : Nat → Int) (i : Nat) (b : Value) (wr : World) : Prop where
  own : ∃ g cc, b = .slice (some ⟨g, 0, none⟩) (off f i) cc ∧ g ≠ TB ∧ g ≠ K ∧ wr.ownsRow w.heap.size 5 1 (.slice (some ⟨g, 0, none⟩) (off f i) cc) (off f i) (bv (catL f i))
  toks : ∀ j, j < i → Seg wr TB (j * 5) (tk5 f j)
  rt : Room wr TB (n * 5)
  offs : ∀ j, j < i → wr.cell? ⟨K, j, none⟩ = some (.int .i64 (off f j))
  rk : Room wr K (n + 1)
  below : Below w.heap.size w wr
theorem off_succ (f : Nat → Int) (i : Nat) : off f (i + 1) = off f i + (txN (f i)).size := by
  rw [tx_size]
  unfold off
  rw [catL, List.length_append]
theorem own_ge {w : World} {B : Nat} {e : TypeId} {z g n c m : Nat} {xs : List Value} (h : w.ownsRow B e z (.slice (some ⟨g, 0, none⟩) n c) m xs) : B ≤ g := by
  rcases h.2 with ⟨h, -⟩ | ⟨g', _, _, h, hb, -⟩
  · cases h
  · cases h; exact hb
theorem Seg.kp {S : Nat → Prop} {w w' : World} {b o : Nat} {vs : List Value} (h : Seg w b o vs) (hk : Kp S w w') (hs : ¬ S b) : Seg w' b o vs := fun j v hj => hk.cell (h j v hj) hs
theorem wrap32 {n : Int} (h0 : 0 ≤ n) (h1 : n ≤ 1048576) : IntKind.i32.wrap n = n := by rw [IntKind.wrap_i32]; omega
def OS (w : World) (TB K : Nat) (z : Nat) : Prop := w.heap.size ≤ z ∧ z ≠ TB ∧ z ≠ K
theorem Room.kp {S : Nat → Prop} {w w' : World} {T N : Nat} (h : Room w T N) (hk : Kp S w w') (hs : ¬ S T) : Room w' T N := fun j hj => by
  obtain ⟨v, h1, h2⟩ := h j hj
  exact ⟨v, hk.cell h1 hs, hk.froz h1 h2 hs⟩
theorem kp_setCells (b : Nat) : ∀ (vs : List Value) (o : Nat) (w : World), Kp (fun z => z = b) w (w.setCells b o vs)
  | [], _, _ => Kp.refl _
  | v :: r, o, w => Kp.trans (S := fun z => z = b) ((Kp.refl (S := fun z => z = b) w).set ⟨b, o, none⟩ v (.inl rfl)) (kp_setCells b r (o + 1) _)
theorem heap3a (w : World) (a b c : Obj) : (((w.alloc a).alloc b).alloc c).heap[w.heap.size]? = some a := by
  show (((w.heap.push a).push b).push c)[w.heap.size]? = _
  rw [Array.getElem?_push, if_neg (by simp; omega), Array.getElem?_push, if_neg (by simp)]
  exact Array.getElem?_push_size
def BuildP (n : Nat) (f : Nat → Int) (w : World) (e : Ending) (w' : World) : Prop := ∃ TB K, e = .returned (.tuple #[.string ⟨(catL f n).toArray⟩, .slice (some ⟨TB, 0, none⟩) n n, .slice (some ⟨K, 0, none⟩) (n + 1) (n + 1)]) ∧ (∀ j, j < n → Seg w' TB (j * 5) (tk5 f j)) ∧ (∀ j, j < n → w'.cell? ⟨K, j, none⟩ = some (.int .i64 (off f j))) ∧ Below w.heap.size w w'
set_option maxRecDepth 100000 in
set_option maxHeartbeats 4000000 in
theorem build_c (A : Option Addr) (n c : Nat) (f : Nat → Int) (w : World) (hn : n ≤ 4096) (h : Row .u8 w A n f) (hf : ∀ i, i < n → 0 ≤ f i ∧ f i ≤ 255) : Calls Tryd.prog 6 #[.slice A n c] w (BuildP n f w) := by
  have mk0 : ∀ W, (Instr.makeSlice 22 (.int .i64 0) (.int .i64 (3 * (n : Int)))).run Tryd.prog W = .ok (.slice (some ⟨W.heap.size, 0, none⟩) 0 (3 * n)) (W.alloc (.cells (madeCells #[.int .u8 0] (3 * n)) 5)) := fun W => by
    have := make0_z (b := 1) #[.int .u8 0] Tryd.underlying22 info5 (3 * n) (by omega) (by omega) W
    simpa using this
  have mk1 : ∀ W, (Instr.makeSlice 26 (.int .i64 n) (.int .i64 n)).run Tryd.prog W = .ok (.slice (some ⟨W.heap.size, 0, none⟩) n n) (W.alloc (.cells (madeCells #[.int .i32 0, .int .i32 0, .int .u16 0, .int .u8 0, .int .u8 0] (n * 5)) 47)) := fun W => make_z (b := 12) _ Tryd.underlying26 info47 n (by omega) (by omega) W
  have mk2 : ∀ W, (Instr.makeSlice 27 (.int .i64 ((n : Int) + 1)) (.int .i64 ((n : Int) + 1))).run Tryd.prog W = .ok (.slice (some ⟨W.heap.size, 0, none⟩) (n + 1) (n + 1)) (W.alloc (.cells (madeCells #[.int .i64 0] (n + 1)) 3)) := fun W => by
    have := make_z (b := 8) #[.int .i64 0] Tryd.underlying27 info3 (n + 1) (by omega) (by omega) W
    simpa using this
  have n0 : (0 : Int) ≤ n := by omega
  have n1 : (n : Int) ≤ 4096 := by omega
  have H := Lib.hid h
  have HF := Lib.hid hf
  clear h hf
  go_enter Tryd.func6, Tryd.ntmps6
  go_wp2
  refine wp_gen (fun W0 hW => ?_)
  have bs0 : Hid (BS w (w.heap.size + 1) (w.heap.size + 1 + 1) n f 0 (.slice (some ⟨w.heap.size, 0, none⟩) 0 (3 * n)) W0) := Lib.hid (by
    rw [hW]
    refine ⟨⟨w.heap.size, 3 * n, rfl, by omega, by omega, rfl, .inr ⟨w.heap.size, 3 * n, _, rfl, Nat.le_refl _, heap3a _ _ _ _, by simp [off, catL], by unfold maxLen; omega, by rw [size_madeCells]; omega, by simp [bv, off, catL]⟩⟩, fun j hj => by omega, ?_, fun j hj => by omega, ?_, ?_⟩
    · have := (Room.made (w.alloc (.cells (madeCells #[.int .u8 0] (3 * n)) 5)) #[.int .i32 0, .int .i32 0, .int .u16 0, .int .u8 0, .int .u8 0] (n * 5) 47).after (ba _ (.cells (madeCells #[.int .i64 0] (n + 1)) 3))
      simpa using this
    · have := Room.made ((w.alloc (.cells (madeCells #[.int .u8 0] (3 * n)) 5)).alloc (.cells (madeCells #[.int .i32 0, .int .i32 0, .int .u16 0, .int .u8 0, .int .u8 0] (n * 5)) 47)) #[.int .i64 0] (n + 1) 3
      simpa using this
    · exact (ba _ _).trans ((ba _ _).mono (by simp)) |>.trans ((ba _ _).mono (by simp; omega)))
  have lK : w.heap.size + 1 + 1 < W0.heap.size := by rw [hW]; simp
  clear hW mk0 mk1 mk2
  obtain ⟨TB, hTB⟩ : ∃ x, w.heap.size + 1 = x := ⟨_, rfl⟩
  obtain ⟨K, hK⟩ : ∃ x, TB + 1 = x := ⟨_, rfl⟩
  rw [hTB] at bs0 lK ⊢
  rw [hK] at bs0 lK ⊢
  have lt1 : TB < K := by omega
  have lt0 : w.heap.size < TB := by omega
  clear hTB hK
  have hC10 := Lib.hid (fun (x : Int) (h0 : 0 ≤ x) (h1 : x ≤ 255) w => tx_c x w h0 h1)
  have hC11 := Lib.hid (fun (x : Int) (h0 : 0 ≤ x) (h1 : x ≤ 255) w => kd_c x w h0 h1)
  go_loopw [5, 8] (fun b v wr => ∃ i : Nat, i ≤ n ∧ v = .int .i64 i ∧ W0.heap.size ≤ wr.heap.size ∧ BS w TB K n f i b wr) (fun _ v _ => n - (intOf v).toNat)
  case atStart => exact ⟨0, by omega, rfl, Nat.le_refl _, bs0.out⟩
  case round =>
    obtain ⟨i, hi, rfl, hsz, hB⟩ := hrel
    obtain ⟨w1, rfl⟩ : ∃ w1 : World, w1 = wr := ⟨_, rfl⟩
    obtain ⟨⟨g, cc, rfl, hg1, hg2, own⟩, toks, rt, offs, rk, bel⟩ := hB
    have hoff := off_le f i
    have HL := Lib.hid (rfl : off f i = off f i)
    obtain ⟨L, hL⟩ : ∃ L, L = off f i := ⟨_, rfl⟩
    rw [← hL] at own hoff ⊢
    replace hL := Lib.hid hL
    clear HL
    replace own := Lib.hid own
    replace toks := Lib.hid toks
    replace rt := Lib.hid rt
    replace offs := Lib.hid offs
    replace rk := Lib.hid rk
    replace bel := Lib.hid bel
    have L0 : (0 : Int) ≤ L := by omega
    have L1 : (L : Int) ≤ 12288 := by omega
    by_cases hlt : i < n
    · have i0 : (0 : Int) ≤ i := by omega
      have i1 : (i : Int) < n := by omega
      have i2 : (i : Int) < (n : Int) + 1 := by omega
      obtain ⟨a, rfl, d0⟩ := (H.out.after bel.out) i hlt
      have q0 := (HF.out i hlt).1
      have q1 := (HF.out i hlt).2
      obtain ⟨x, hx⟩ : ∃ x, x = f i := ⟨_, rfl⟩
      rw [← hx] at d0 q0 q1
      replace hx := Lib.hid hx
      have d0' := Lib.hid d0
      have C10 : Hid (∀ w, Calls Tryd.prog 10 #[.int .u8 x] w (Gv (.string (txN x)) w)) := Lib.hid (fun w => hC10.out x q0 q1 w)
      have C11 : Hid (∀ w, Calls Tryd.prog 11 #[.int .u8 x] w (Gv (.int .u8 (kdN x)) w)) := Lib.hid (fun w => hC11.out x q0 q1 w)
      have sz := tx_le x
      obtain ⟨s, hs⟩ : ∃ s, s = txN x := ⟨_, rfl⟩
      rw [← hs] at C10 sz
      replace hs := Lib.hid hs
      obtain ⟨ko, ek, fk⟩ := rk.out i (by omega)
      go_wp2_with (go_at_call 10; (with_reducible refine (C10.out _).mono ?_); rintro e w2 ⟨rfl, b2⟩; have ek2 := ac b2 ek; have fk2 := af b2 ek fk; replace b2 := Lib.hid b2)
      refine wp_gen (fun W1 hW1 => ?_)
      replace hW1 := Lib.hid hW1
      have kp12 : Hid (Kp (fun z => z = K) w1 W1) := Lib.hid ((Kp.of b2.out).trans (by rw [hW1.out]; exact (Kp.refl _).set _ _ (.inl rfl)))
      have own1 : Hid (W1.ownsRow w.heap.size 5 1 (.slice (some ⟨g, 0, none⟩) L cc) L (bv (catL f i))) := Lib.hid (kp12.out.own own.out (fun k hk => by cases hk; exact hg2))
      have toks1 : Hid (∀ j, j < i → Seg W1 TB (j * 5) (tk5 f j)) := Lib.hid (fun j hj => (toks.out j hj).kp kp12.out (by show ¬ TB = K; omega))
      have rt1 : Hid (Room W1 TB (n * 5)) := Lib.hid (rt.out.kp kp12.out (by show ¬ TB = K; omega))
      have offs1 : Hid (∀ j, j < i + 1 → W1.cell? ⟨K, j, none⟩ = some (.int .i64 (off f j))) := Lib.hid (fun j hj => by
        rw [hW1.out]
        by_cases e : j = i
        · subst e; rw [← hL.out]; exact cs ek2
        · rw [co (by intro h; injection h; omega)]; exact ac b2.out (offs.out j (by omega)))
      have rk1 : Hid (Room W1 K (n + 1)) := Lib.hid (by rw [hW1.out]; exact (rk.out.after b2.out).set _ _)
      have bel1 : Hid (Below w.heap.size w W1) := Lib.hid (by rw [hW1.out]; exact (bel.out.trans (b2.out.mono bel.out.size)).setCell (by show w.heap.size ≤ K; omega) _)
      have hs1 : W0.heap.size ≤ W1.heap.size := Nat.le_trans hsz kp12.out.size
      have d1 : Hid (W1.cell? (a.add i) = some (.int .u8 x)) := Lib.hid (by
        obtain ⟨a', ha', d⟩ := (H.out.after bel1.out) i hlt
        cases ha'
        rw [hx.out]; exact d)
      have hal : Hid ((a.add i).block < w.heap.size) := Lib.hid (by
        obtain ⟨a', ha', d⟩ := H.out i hlt
        cases ha'
        exact block_lt_of_cell d)
      clear hW1 kp12 own toks rt offs rk bel b2 ek2 fk2 ek fk d0 d0' C10
      go_loopw [5, 10] (fun bb v wi => ∃ j g' cc' : Nat, j ≤ s.size ∧ v = .int .i64 j ∧ bb = .slice (some ⟨g', 0, none⟩) (L + j) cc' ∧ g' ≠ TB ∧ g' ≠ K ∧ wi.ownsRow w.heap.size 5 1 (.slice (some ⟨g', 0, none⟩) (L + j) cc') (L + j) (bv (catL f i) ++ bvS s j) ∧ Kp (OS w TB K) W1 wi) (fun _ v _ => s.size - (intOf v).toNat)
      case atStart => exact ⟨0, g, cc, by omega, rfl, rfl, hg1, hg2, by rw [show bvS s 0 = [] from rfl, List.append_nil]; exact own1.out, Kp.refl _⟩
      case round =>
        obtain ⟨j, g', cc', hj, rfl, rfl, hn1, hn2, own2, kp⟩ := hrel
        obtain ⟨wi, rfl⟩ : ∃ wi : World, wi = wr := ⟨_, rfl⟩
        replace own2 := Lib.hid own2
        replace kp := Lib.hid kp
        have hszi := kp.out.size
        have hgB : w.heap.size ≤ g' := own_ge own2.out
        by_cases hlt2 : j < s.size
        · have j0 : (0 : Int) ≤ j := by omega
          have j1 : (j : Int) < s.size := by omega
          have ixj := idx9 s j hlt2
          go_upto_region 11 with ((with_reducible refine wpList_at (o := ⟨some 49, _, _, _, _, _⟩) ?_); (refine app1n (w := wi) (.tmp 44) (.tmp 48) 22 5 w.heap.size 1 1 #[.int .u8 0] #[.int .u8 (bt s j)] _ (L + j) (bv (catL f i) ++ bvS s j) rfl rfl rfl rfl rfl Tryd.underlying22 info5 rfl (by omega) own2.out rfl (by simp [Value.oneCell']) (by omega) (by omega) (by omega) ?_; intro v1 w7 own7 kp7 new7); replace own7 := Lib.hid own7; replace kp7 := Lib.hid kp7; replace new7 := Lib.hid new7)
          obtain ⟨g7, c7, rfl, -, -, -, -⟩ := own_some own7.out (by omega)
          have hg7 : g7 = g' ∨ wi.heap.size ≤ g7 := (new7.out g7 rfl).imp (fun e => (Option.some.inj e).symm) id
          go_wp2
          go_roundw
          case rel => exact ⟨j + 1, g7, c7, by omega, by go_num, rfl, by omega, by omega, by rw [bvS_succ hlt2, ← List.append_assoc]; exact own7.out, kp.out.trans' kp7.out (fun b hb hlt => by cases hb; exact ⟨hgB, hn1, hn2⟩)⟩
          case measure => simp [intOf]; omega
        · obtain rfl : j = s.size := by omega
          have kK : Hid (wi.cell? ⟨K, i, none⟩ = some (.int .i64 L)) := Lib.hid (by
            rw [hL.out]; exact kp.out.cell (offs1.out i (by omega)) (fun h => h.2.2 rfl))
          have d2 : Hid (wi.cell? (a.add i) = some (.int .u8 x)) := Lib.hid (kp.out.cell d1.out (fun h => by have h1 := h.1; have h2 := hal.out; omega))
          have wL : IntKind.i32.wrap (L : Int) = L := wrap32 (by omega) (by omega)
          have wS : IntKind.i32.wrap (s.size : Int) = s.size := wrap32 (by omega) (by omega)
          go_upto_region 13 with fail
          have y0 : ∀ d os, (Sort.grow (redrawn wi d) os).cell? ⟨K, i, none⟩ = some (.int .i64 L) := fun d os => cell_regrown kK.out d os
          have y1 : ∀ d os, (Sort.grow (redrawn wi d) os).cell? (a.add i) = some (.int .u8 x) := fun d os => cell_regrown d2.out d os
          refine drawn_tail 19 (by kernel_rfl) (by kernel_rfl) (by kernel_rfl) (fun Q hQ => ?_)
          simp only [List.take_succ_cons, List.take_zero, List.drop_succ_cons, List.drop_zero]
          repeat (quiet_step (exact Calls.regrown_of (C11.out _)))
          refine wpQuiet_nil ?_
          intro W3 hw
          have b3 : Hid (Below wi.heap.size wi W3) := Lib.hid (by
            obtain ⟨⟨d, os⟩, rfl⟩ := hw
            exact below_regrown _ d os)
          clear hw y0 y1 wL wS
          have rt3 : Hid (Room W3 TB (n * 5)) := Lib.hid ((rt1.out.kp kp.out (fun h => h.2.1 rfl)).after b3.out)
          go_upto_region 6 with ((with_reducible refine wpList_at (o := ⟨none, .store 47 (.tmp 68) (.tmp 67), _, _, _, _⟩) ?_); refine wpList_store_room (op := ⟨none, .store 47 (.tmp 68) (.tmp 67), _, _, _, _⟩) rfl 47 (.tmp 68) (.tmp 67) rfl TB (i * 5) (n * 5) (tkL L s.size (kdN x)) rt3.out (by show i * 5 + 5 ≤ n * 5; omega) rfl rfl (i47 _ _ _) (tkL_one _ _ _) ?_; intro V hV)
          have hBS : Hid (W0.heap.size ≤ V.heap.size ∧ BS w TB K n f (i + 1) (.slice (some ⟨g', 0, none⟩) (L + s.size) cc') V) := Lib.hid (by
            have hV' : Kp (fun z => z = TB) W3 V := by rw [hV]; exact kp_setCells TB _ _ _
            have e1 : off f (i + 1) = L + s.size := by rw [off_succ, hL.out, hs.out, hx.out]
            have kp3 : Kp (fun z => OS w TB K z ∨ z = TB) W1 V := ((kp.out.trans (Kp.of b3.out)).wide (fun _ h => .inl h)).trans (hV'.wide (fun _ h => .inr h))
            refine ⟨Nat.le_trans hs1 kp3.size, ⟨g', cc', by rw [e1], hn1, hn2, ?_⟩, fun j hj => ?_, by rw [hV]; exact Room.setCells _ _ _ _ rt3.out, fun j hj => ?_, rk1.out.kp kp3 (fun h => h.elim (fun h => h.2.2 rfl) (by omega)), bel1.out.trans (kp3.below bel1.out.size (fun z h => h.elim (fun h => h.1) (by omega)))⟩
            · rw [e1, catL, bv_app]
              have h1 := hV'.own ((Kp.of (S := fun _ => False) b3.out).own own2.out (fun _ _ h => h)) (fun k hk => by cases hk; exact hn1)
              rw [show bv (txR (f i % 14)) = bvS s s.size by rw [hs.out, hx.out, bvS_all]]
              exact h1
            · by_cases e : j = i
              · subst e
                have : Seg V TB (j * 5) (tkL L s.size (kdN x)) := by rw [hV]; exact Seg.put rt3.out (by show j * 5 + 5 ≤ n * 5; omega)
                unfold tk5
                rw [← hx.out, ← hs.out, ← hL.out]
                exact this
              · have h1 := ((toks1.out j (by omega)).kp kp.out (fun h => h.2.1 rfl)).after b3.out
                rw [hV]
                exact h1.far (by show j * 5 + 5 ≤ i * 5 ∨ i * 5 + 5 ≤ j * 5; omega)
            · exact kp3.cell (offs1.out j hj) (fun h => h.elim (fun h => h.2.2 rfl) (fun h => by dsimp only at h; omega)))
          subst hV
          go_wp2
          go_roundw
          case rel => exact ⟨i + 1, by omega, by go_num, hBS.out.1, hBS.out.2⟩
          case measure => simp [intOf]; omega
    · obtain rfl : i = n := by omega
      obtain ⟨ko, ek, fk⟩ := rk.out i (by omega)
      have hLl : (catL f i).length = L := hL.out.symm
      have cv : ∀ z, (convert 22 9 (.slice (some ⟨g, 0, none⟩) L cc)).run Tryd.prog (w1.setCell ⟨K, i, none⟩ z) = .ok (.string ⟨(catL f i).toArray⟩) (w1.setCell ⟨K, i, none⟩ z) := fun z => by
        have := run_convert_bytes_back (P := Tryd.prog) (w1.setCell ⟨K, i, none⟩ z) 22 9 5 ⟨g, 0, none⟩ cc (catL f i) Tryd.underlying22 Tryd.underlying5 Tryd.underlying9 (fun j hj => by
          have hadd : (⟨g, 0, none⟩ : Addr).add j = ⟨g, j, none⟩ := by unfold Addr.add; split <;> simp_all
          rw [hadd, co (by intro h; injection h; omega)]
          have := own.out.cells (g := g) rfl j (.int .u8 ((catL f i)[j].toNat : Int)) (by unfold bv; rw [List.getElem?_map, List.getElem?_eq_getElem hj]; rfl)
          rwa [hadd] at this)
        rw [hLl] at this
        exact this
      go_wp2
      have kpE : Kp (fun z => z = K) w1 (w1.setCell ⟨K, i, none⟩ (.int .i64 L)) := (Kp.refl _).set _ _ (.inl rfl)
      exact bodyPost_ret (v := .tuple #[.string ⟨(catL f i).toArray⟩, .slice (some ⟨TB, 0, none⟩) i i, .slice (some ⟨K, 0, none⟩) (i + 1) (i + 1)]) (by simp [results, Tryd.results6, go_sem]) rfl ⟨TB, K, rfl, fun j hj => (toks.out j hj).kp kpE (by show ¬ TB = K; omega), fun j hj => by rw [co (by intro h; injection h; omega)]; exact offs.out j hj, bel.out.setCell (by show w.heap.size ≤ K; omega) _⟩
end Go.Proofs.YtbakdeoeceajeaaDoor
