/- FnMangleTransformsIdempotentOnNumbers: zzBuildFunc. -/
import Derived.Test.YtoblbakaemglbaaFmtMt3
import Derived.Test.YtoblbakaemglbaaFmtST
import Derived.Deep.DeepCutAuto
set_option linter.unusedVariables false
set_option linter.unusedSimpArgs false
namespace Go.Proofs.YtoblbakaemglbaaFmt
open Go.RowKit
theorem info79 : (Tryf.prog.info? 79).map (fun i => (i.zero.map (·.cells), i.size, i.bytes)) = some (some tkZ, 7, 40) := by kernel_rfl
theorem i79 (t : Tq) : (Tryf.prog.info? 79).map (·.size) = some t.L.length := by show _ = some 7; kernel_rfl
theorem Tq.one (t : Tq) : ∀ v ∈ t.L, v.oneCell' = true := by intro v hv; simp [Tq.L] at hv; rcases hv with rfl | rfl | rfl | rfl | rfl | rfl | rfl <;> rfl
abbrev tokL (C : Nat) (nm : ByteArray) : List Value := [.pointer (some ⟨C, 0, none⟩), .string nm, .int .i32 0, .int .u32 0, .int .u16 0, .int .u8 27, .int .u8 0]
/-- a block of tokens' cells -/
def Blk (w : World) (A K : Nat) : Prop := ∃ cur, w.heap[A]? = some (.cells cur 79) ∧ cur.size = K
theorem Blk.after {w w' : World} {A K : Nat} (h : Blk w A K) (hb : Below w.heap.size w w') : Blk w' A K := by
  obtain ⟨cur, h1, h2⟩ := h
  exact ⟨cur, by rw [hb.block _ (Array.getElem?_eq_some_iff.1 h1).1]; exact h1, h2⟩
theorem Blk.set {w : World} {A K : Nat} (h : Blk w A K) (p : Addr) (v : Value) : Blk (w.setCell p v) A K := by
  obtain ⟨cur, h1, h2⟩ := h
  by_cases e : p.block = A
  · refine ⟨if p.spot.isSome then cur else cur.setIfInBounds p.off v, ?_, by split <;> simp [h2]⟩
    subst e
    unfold World.setCell
    rw [Array.getElem?_modify, h1]
    simp
  · exact ⟨cur, by rw [Below.heap_setCell _ _ _ _ (fun q => e q.symm)]; exact h1, h2⟩
theorem Blk.setCells {A K : Nat} (b : Nat) : ∀ (vs : List Value) (o : Nat) (w : World), Blk w A K → Blk (w.setCells b o vs) A K
  | [], _, _, h => h
  | v :: r, o, w, h => by rw [World.setCells]; exact Blk.setCells b r _ _ (h.set _ _)
/-- what one reads of the one token and its children -/
structure MS (w : World) (T C A N : Nat) (nm : ByteArray) (G : Nat → Tq) (o n : Nat) : Prop where
  tok : Seg w T 0 (tokL C nm)
  rt : Room w T 7
  ch : w.cell? ⟨C, 0, none⟩ = some (.slice (some ⟨A, o * 7, none⟩) n (N - o : Nat))
  rc : Room w C 1
  arr : ∀ j, j < N → Seg w A (j * 7) (G j).L
  ra : Room w A (N * 7)
  blk : Blk w A (N * 7)
  tc : T ≠ C
  ta : T ≠ A
  ca : C ≠ A
  le : o + n ≤ N
theorem MS.after {w w' : World} {T C A N o n : Nat} {nm : ByteArray} {G : Nat → Tq} (h : MS w T C A N nm G o n) (hb : Below w.heap.size w w') : MS w' T C A N nm G o n :=
  ⟨h.tok.after hb, h.rt.after hb, ac hb h.ch, h.rc.after hb, fun j hj => (h.arr j hj).after hb, h.ra.after hb, h.blk.after hb, h.tc, h.ta, h.ca, h.le⟩
def kid (f : Nat → ByteArray) (ws : Int) (j : Nat) : Tq := if j % 2 = 0 then ⟨f (j / 2), 30, ws⟩ else ⟨⟨#[44]⟩, 10, ws⟩
/-- what zzBuildFunc answers -/
def BfP (nm : ByteArray) (n : Nat) (f : Nat → ByteArray) (ws : Int) (w : World) (e : Ending) (w' : World) : Prop := ∃ T C A, e = .returned (.slice (some ⟨T, 0, none⟩) 1 1) ∧ MS w' T C A (2 * n - 1) nm (kid f ws) 0 (2 * n - 1) ∧ w.heap.size ≤ T ∧ w.heap.size ≤ C ∧ w.heap.size ≤ A ∧ Below w.heap.size w w'
theorem Below.setCellsB {B b : Nat} {w w' : World} (h : Below B w w') (hb : B ≤ b) : ∀ (vs : List Value) (o : Nat), Below B w (w'.setCells b o vs) := by
  intro vs
  induction vs generalizing w' with
  | nil => intro o; exact h
  | cons v r ih => intro o; rw [World.setCells]; exact ih (h.setCell hb _) _
/-- the children are being filled -/
structure Fi (w : World) (C A N : Nat) (G : Nat → Tq) (k : Nat) : Prop where
  ch : w.cell? ⟨C, 0, none⟩ = some (.slice (some ⟨A, 0, none⟩) N N)
  rc : Room w C 1
  ra : Room w A (N * 7)
  blk : Blk w A (N * 7)
  arr : ∀ j, j < k → Seg w A (j * 7) (G j).L
  ca : C ≠ A
theorem Fi.after {w w' : World} {C A N k : Nat} {G : Nat → Tq} (h : Fi w C A N G k) (hb : Below w.heap.size w w') : Fi w' C A N G k := ⟨ac hb h.ch, h.rc.after hb, h.ra.after hb, h.blk.after hb, fun j hj => (h.arr j hj).after hb, h.ca⟩
theorem Fi.step {w W : World} {C A N k : Nat} {G : Nat → Tq} {t : Tq} (h : Fi w C A N G k) (hk : k < N) (ht : t = G k) (hW : W = w.setCells A (k * 7) t.L) : Fi W C A N G (k + 1) := by
  subst hW ht
  refine ⟨?_, Room.setCells _ _ _ _ h.rc, Room.setCells _ _ _ _ h.ra, Blk.setCells _ _ _ _ h.blk, fun j hj => ?_, h.ca⟩
  · rw [World.cell?_setCells_out A _ _ _ _ (fun e _ => absurd e h.ca)]
    exact h.ch
  · by_cases e : j = k
    · subst e; exact Seg.put h.ra (by show j * 7 + 7 ≤ _; omega)
    · exact (h.arr j (by omega)).far (by show j * 7 + 7 ≤ k * 7 ∨ _; omega)
theorem Fi.ms {W W' : World} {C A N : Nat} {nm : ByteArray} {G : Nat → Tq} (h : Fi W C A N G N) (hA : A < W.heap.size) (hW : W' = W.alloc (.cells (tokL C nm).toArray 79)) : MS W' W.heap.size C A N nm G 0 N := by
  have hb : Below W.heap.size W W' := by rw [hW]; exact ba _ _
  have hC : C < W.heap.size := block_lt_of_cell h.ch
  exact ⟨by rw [hW]; exact Seg.new _ _ _, by rw [hW]; exact Room.newN _ _ rfl _, by simpa using ac hb h.ch, h.rc.after hb, fun j hj => (h.arr j hj).after hb, h.ra.after hb, h.blk.after hb, by omega, by omega, h.ca, by omega⟩
theorem room1 {w : World} {C : Nat} {v : Value} (h : w.cell? ⟨C, 0, none⟩ = some v) (hf : w.frozen? ⟨C, 0, none⟩ = false) : Room w C 1 := fun j hj => by
  obtain rfl : j = 0 := by omega
  exact ⟨v, h, hf⟩
theorem Blk.lt {w : World} {A K : Nat} (h : Blk w A K) : A < w.heap.size := by obtain ⟨cur, h1, -⟩ := h; exact (Array.getElem?_eq_some_iff.1 h1).1
theorem Blk.new (w : World) (cs : Array Value) {K : Nat} (h : cs.size = K) : Blk (w.alloc (.cells cs 79)) w.heap.size K := ⟨cs, heap_alloc_new w _, h⟩
set_option maxRecDepth 100000 in
set_option maxHeartbeats 4000000 in
theorem build_c (nm : ByteArray) (V n vc : Nat) (f : Nat → ByteArray) (ws : Int) (w : World) (hn : n ≤ 4096) (hv : ∀ i, i < n → w.cell? ⟨V, i, none⟩ = some (.string (f i))) : Calls Tryf.prog 9 #[.string nm, .slice (some ⟨V, 0, none⟩) n vc, .int .u8 ws] w (BfP nm n f ws w) := by
  have HV := Lib.hid hv
  clear hv
  by_cases h0 : n = 0
  · subst h0
    go_enter Tryf.func9, Tryf.ntmps9
    go_upto_region 11 with fail
    refine wp_gen (fun W hW => ?_)
    have h1 : Fi W (w.heap.size + 1) w.heap.size 0 (kid f ws) 0 := by
      refine ⟨by rw [hW]; simp [go_sem], room1 (v := .slice (some ⟨w.heap.size, 0, none⟩) 0 0) (by rw [hW]; simp [go_sem]) (by rw [hW]; simp [go_sem]), fun j hj => by omega, ?_, fun j hj => by omega, by omega⟩
      rw [hW]
      exact (Blk.new w #[] rfl).after (ba _ _)
    have hb : Below w.heap.size w W := by rw [hW]; exact (ba _ _).alloc (by simp) _
    have hz : W.heap.size = w.heap.size + 1 + 1 := by rw [hW]; simp [go_sem]
    replace h1 := Lib.hid h1
    replace hb := Lib.hid hb
    clear hW
    go_wp2
    go_ret
    have hms := h1.out.ms (nm := nm) (by omega) rfl
    rw [hz] at hms
    exact ⟨w.heap.size + 1 + 1, w.heap.size + 1, w.heap.size, rfl, hms, by omega, by omega, by omega, hb.out.trans ((ba W _).mono hb.out.size)⟩
  · obtain ⟨N, hN⟩ : ∃ N, 2 * n - 1 = N := ⟨_, rfl⟩
    have m27 := make_z (P := Tryf.prog) tkZ Tryf.underlying27 info79 N (by omega) (by omega)
    have hNI : 2 * (n : Int) - 1 = N := by omega
    have hnp : 0 < n := by omega
    have hnq : (0 : Int) < n := by omega
    go_enter Tryf.func9, Tryf.ntmps9
    go_upto_region 5 with fail
    clear m27
    refine wp_gen (fun W hW => ?_)
    obtain ⟨C, hC⟩ : ∃ C, C = w.heap.size + 1 := ⟨_, rfl⟩
    obtain ⟨A, hA⟩ : ∃ A, A = w.heap.size + 1 + 1 := ⟨_, rfl⟩
    have h1 : Hid (Fi W C A N (kid f ws) 0) := Lib.hid (by
      subst hC hA
      refine ⟨by rw [hW]; simp [go_sem], room1 (v := .slice (some ⟨w.heap.size + 1 + 1, 0, none⟩) N N) (by rw [hW]; simp [go_sem]) (by rw [hW]; simp [go_sem]), ?_, ?_, fun j hj => by omega, by omega⟩
      · rw [hW]
        simpa using Room.made ((w.alloc (.cells #[] 79)).alloc (.cells #[.slice (some ⟨w.heap.size + 1 + 1, 0, none⟩) N N] 27)) tkZ (N * 7) 79
      · rw [hW]
        simpa using Blk.new ((w.alloc (.cells #[] 79)).alloc (.cells #[.slice (some ⟨w.heap.size + 1 + 1, 0, none⟩) N N] 27)) (madeCells tkZ (N * 7)) (size_madeCells _ _))
    have bW : Hid (Below w.heap.size w W) := Lib.hid (by rw [hW]; exact ((ba _ _).alloc (by simp) _).alloc (by simp; omega) _)
    have hAW : Hid (A < W.heap.size) := Lib.hid (by rw [hW, hA]; simp [go_sem])
    have hCs : w.heap.size ≤ C := by omega
    have hAs : w.heap.size ≤ A := by omega
    rw [← hC]
    clear hW hC hA
    go_wp2
    go_loopw [9] (fun v wr => ∃ k : Nat, k ≤ N ∧ v = .int .i64 k ∧ Fi wr C A N (kid f ws) k ∧ Below w.heap.size w wr ∧ A < wr.heap.size) (fun v _ => N - (intOf v).toNat)
    case atStart => exact ⟨0, by omega, rfl, h1.out, bW.out, hAW.out⟩
    case round =>
      clear h1 bW hAW
      obtain ⟨k, hk, rfl, hF, hB, hz⟩ := hrel
      obtain ⟨w1, rfl⟩ : ∃ w1 : World, w1 = wr := ⟨_, rfl⟩
      have c0 := hF.ch
      have ra := Lib.hid hF.ra
      replace hB := Lib.hid hB
      by_cases hlt : k < N
      · have k0 : (0 : Int) ≤ k := by omega
        have k1 : (k : Int) < N := by omega
        by_cases hpar : k % 2 = 0
        · obtain ⟨i, rfl⟩ : ∃ i, k = 2 * i := ⟨k / 2, by omega⟩
          have hm : ((2 * i : Nat) : Int).tmod 2 = 0 := by rw [Int.tmod_eq_emod_of_nonneg (by omega)]; omega
          have hq : ((2 * i : Nat) : Int).tdiv 2 = i := by rw [Int.tdiv_eq_ediv_of_nonneg (by omega)]; omega
          have i1 : i < n := by omega
          have ew : IntKind.i64.wrap (i : Int) = i := wraps_i64_63 _ (by omega) (by omega)
          have hv : w1.cell? ⟨V, i, none⟩ = some (.string (f i)) := ac hB.out (HV.out i i1)
          have hkid : Hid ((⟨f i, 30, ws⟩ : Tq) = kid f ws (2 * i)) := Lib.hid (by unfold kid; rw [if_pos hpar, show 2 * i / 2 = i by omega])
          replace hF := Lib.hid hF
          obtain ⟨kk, hkk⟩ : ∃ kk : Int, ((2 * i : Nat) : Int) = kk := ⟨_, rfl⟩
          rw [hkk] at hm hq k0 k1
          have hkt : kk.toNat = 2 * i := by omega
          have i2 : (i : Int) < n := by omega
          have i3 : (0 : Int) ≤ i := by omega
          rw [hkk]
          replace hkk := Lib.hid hkk
          go_upto_region 9 with fail
          have y0 := fun d os => cell_regrown c0 d os
          have y1 := fun d os => cell_regrown hv d os
          refine drawn_tail 10 (by kernel_rfl) (by kernel_rfl) (by kernel_rfl) (fun Q hQ => ?_)
          simp only [List.take_succ_cons, List.take_zero, List.drop_succ_cons, List.drop_zero]
          repeat (quiet_step (fail))
          refine wpQuiet_nil ?_
          intro W3 hw
          have hb1 : Below w1.heap.size w1 W3 := by
            obtain ⟨⟨d, os⟩, rfl⟩ := hw
            exact below_regrown _ d os
          clear hw y0 y1
          replace hb1 := Lib.hid hb1
          have ra3 := Lib.hid (ra.out.after hb1.out)
          go_wp2_with ((with_reducible refine wpList_at (o := ⟨none, .store 79 (.tmp 38) (.tmp 37), _, _, _, _⟩) ?_); refine wpList_store_room (op := ⟨none, .store 79 (.tmp 38) (.tmp 37), _, _, _, _⟩) rfl 79 (.tmp 38) (.tmp 37) rfl A (2 * i * 7) (N * 7) ((⟨f i, 30, ws⟩ : Tq).L) ra3.out (by show 2 * i * 7 + 7 ≤ N * 7; omega) rfl rfl (i79 ⟨f i, 30, ws⟩) (Tq.one ⟨f i, 30, ws⟩) ?_; intro w7 hW7; replace hW7 := Lib.hid hW7)
          go_roundw
          case rel => exact ⟨2 * i + 1, by omega, by rw [← hkk.out]; go_num, (hF.out.after hb1.out).step hlt hkid.out (by rw [hkk.out] at *; exact hW7.out), by rw [hW7.out]; exact Below.setCellsB (hB.out.trans (hb1.out.mono hB.out.size)) (by omega) _ _, by rw [hW7.out, setCells_size]; exact Nat.lt_of_lt_of_le hz hb1.out.size⟩
          case measure => simp [intOf]; omega
        · obtain ⟨i, rfl⟩ : ∃ i, k = 2 * i + 1 := ⟨k / 2, by omega⟩
          have hm : ((2 * i + 1 : Nat) : Int).tmod 2 = 1 := by rw [Int.tmod_eq_emod_of_nonneg (by omega)]; omega
          have hkid : Hid ((⟨⟨#[44]⟩, 10, ws⟩ : Tq) = kid f ws (2 * i + 1)) := Lib.hid (by unfold kid; rw [if_neg hpar])
          replace hF := Lib.hid hF
          obtain ⟨kk, hkk⟩ : ∃ kk : Int, ((2 * i + 1 : Nat) : Int) = kk := ⟨_, rfl⟩
          rw [hkk] at hm k0 k1
          have hkt : kk.toNat = 2 * i + 1 := by omega
          rw [hkk]
          replace hkk := Lib.hid hkk
          go_wp2_with ((with_reducible refine wpList_at (o := ⟨none, .store 79 (.tmp 43) (.tmp 42), _, _, _, _⟩) ?_); refine wpList_store_room (op := ⟨none, .store 79 (.tmp 43) (.tmp 42), _, _, _, _⟩) rfl 79 (.tmp 43) (.tmp 42) rfl A ((2 * i + 1) * 7) (N * 7) ((⟨⟨#[44]⟩, 10, ws⟩ : Tq).L) ra.out (by show (2 * i + 1) * 7 + 7 ≤ N * 7; omega) rfl rfl (i79 ⟨⟨#[44]⟩, 10, ws⟩) (Tq.one ⟨⟨#[44]⟩, 10, ws⟩) ?_; intro w7 hW7; replace hW7 := Lib.hid hW7)
          go_roundw
          case rel => exact ⟨2 * i + 1 + 1, by omega, by rw [← hkk.out]; go_num, hF.out.step hlt hkid.out (by rw [hkk.out] at *; exact hW7.out), by rw [hW7.out]; exact Below.setCellsB hB.out (by omega) _ _, by rw [hW7.out, setCells_size]; exact hz⟩
          case measure => simp [intOf]; omega
      · obtain rfl : k = N := by omega
        replace hF := Lib.hid hF
        clear c0
        obtain ⟨v6, hv6⟩ : ∃ y : Int, (k : Int) = y := ⟨_, rfl⟩
        go_wp2
        go_ret
        have hms := hF.out.ms (nm := nm) hz rfl
        exact ⟨w1.heap.size, C, A, rfl, by rw [hN]; exact hms, hB.out.size, hCs, hAs, hB.out.trans ((ba w1 _).mono hB.out.size)⟩
end Go.Proofs.YtoblbakaemglbaaFmt
