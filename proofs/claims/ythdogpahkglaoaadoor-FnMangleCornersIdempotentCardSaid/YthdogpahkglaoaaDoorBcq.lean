/- The law's helpers. -/
import Derived.Test.YthdogpahkglaoaaDoorBcp
import Derived.Test.YthdogpahkglaoaaDoorMk
import Derived.Test.YthdogpahkglaoaaDoorRl
import Derived.LaidEqlPtr
import Derived.Lib.SliceRun
set_option linter.unusedVariables false
set_option linter.unusedSimpArgs false
namespace Go.Proofs.YthdogpahkglaoaaDoor
open Go.RowKit
theorem i46n (a : Value) (x : Int) : (Tryd.prog.info? 46).map (·.size) = some ([a, .int .i32 x] : List Value).length := (by kernel_rfl : (Tryd.prog.info? 46).map (·.size) = some 2)
theorem rule_onen (a : Value) (ha : a.oneCell' = true) (x : Int) : ∀ v ∈ ([a, .int .i32 x] : List Value), v.oneCell' = true := by
  intro v hv
  simp only [List.mem_cons, List.not_mem_nil, or_false] at hv
  rcases hv with rfl | rfl
  · exact ha
  · rfl
theorem ptr_nen {a b : Nat} {ca cb : Array Value} {ta tb : TypeId} (w : World) (hne : ¬ a = b) (ha : w.heap[a]? = some (.cells ca ta)) (hb : w.heap[b]? = some (.cells cb tb)) :
    (binOp .eql 36 (.pointer (some ⟨a, 0, none⟩)) (.pointer (some ⟨b, 0, none⟩))).run Tryd.prog w = .ok (.bool false) w := by
  cases hi : Tryd.prog.info? 39 with
  | none => exact absurd hi (by decide +kernel)
  | some j =>
    have hj : j.size = 6 := by
      have : (Tryd.prog.info? 39).map (·.size) = some 6 := by kernel_rfl
      rw [hi] at this
      simpa using this
    exact run_eql_ptr_other w (tp := 36) (te := 39) (j := j) (ca := ca) (cb := cb) (ta := ta) (tb := tb) Tryd.underlying36 hi (by omega) (by intro e; injection e with e1; exact hne e1) ha hb
theorem ptr_eqn (w : World) (a : Addr) : (binOp .eql 36 (.pointer (some a)) (.pointer (some a))).run Tryd.prog w = .ok (.bool true) w := by
  cases hi : Tryd.prog.info? 39 with
  | none => exact absurd hi (by decide +kernel)
  | some j => exact run_eql_ptr_same w (tp := 36) (te := 39) (j := j) a Tryd.underlying36 hi
/-- the first k cells of the row at T are filled -/
structure FillR (val : Nat → Value) (w : World) (T n k : Nat) (wr : World) : Prop where
  below : Below T w wr
  size : T < wr.heap.size
  row : ∀ i, i < k → wr.cell? ⟨T, i, none⟩ = some (val i)
  room : Room wr T n
theorem FillR.step {val : Nat → Value} {w wr : World} {T n k : Nat} (h : FillR val w T n k wr) (hk : k < n) : FillR val w T n (k + 1) (wr.setCell ⟨T, k, none⟩ (val k)) :=
  ⟨h.below.setCell (Nat.le_refl _) _, by simpa [World.setCell] using h.size, fun i hi => by
    by_cases e : i = k
    · subst e; obtain ⟨v, h1, h2⟩ := h.room i hk; exact cs h1
    · rw [co (by intro h; injection h; omega)]; exact h.row i (by omega), h.room.set _ _⟩
theorem own_add (T m : Nat) : (⟨T, 0, none⟩ : Addr).add m = ⟨T, m, none⟩ := by
  unfold Addr.add
  by_cases h : m = 0
  · subst h; rfl
  · simp [h]
def RowV (val : Nat → Value) (w : World) (A : Option Addr) (n : Nat) : Prop := ∀ i, i < n → ∃ x, A = some x ∧ w.cell? (x.add i) = some (val i)
theorem RowV.after {val : Nat → Value} {w w' : World} {A : Option Addr} {n : Nat} (h : RowV val w A n) (hb : Below w.heap.size w w') : RowV val w' A n := fun i hi => by
  obtain ⟨x, e, hc⟩ := h i hi
  exact ⟨x, e, ac hb hc⟩
theorem FillR.rowV {val : Nat → Value} {w wr : World} {T n : Nat} (h : FillR val w T n n wr) : RowV val wr (some ⟨T, 0, none⟩) n := fun i hi => ⟨_, rfl, by rw [own_add]; exact h.row i hi⟩
/-- a slice of one-cell elements that was cloned -/
def CloneR (val : Nat → Value) (w : World) (A : Option Addr) (n : Nat) (e : Ending) (w' : World) : Prop := ∃ A', e = .returned (.slice A' n n) ∧ (A' = none ↔ A = none) ∧ (∀ x, A' = some x → ∃ T, x = ⟨T, 0, none⟩ ∧ w.heap.size ≤ T) ∧ RowV val w' A' n ∧ Below w.heap.size w w'
set_option maxRecDepth 100000 in
set_option maxHeartbeats 4000000 in
theorem clone15_c (A : Option Addr) (n c : Nat) (f : Nat → Int) (w : World) (hn : n ≤ 1048576) (hnil : A = none → n = 0 ∧ c = 0) (h : RowV (fun i => Value.int .u8 (f i)) w A n) : Calls Tryd.prog 15 #[.slice A n c] w (CloneR (fun i => Value.int .u8 (f i)) w A n) := by
  cases A with
  | none =>
    obtain ⟨rfl, rfl⟩ := hnil rfl
    have hq := fun W => Lib.run_eql_slice_nil (P := Tryd.prog) W 57 5 none 0 0 0 0 Tryd.underlying57
    go_enter Tryd.func15, Tryd.ntmps15
    go_wp2
    go_ret
    exact ⟨none, rfl, Iff.rfl, (fun x h => by cases h), fun i hi => absurd hi (by omega), Below.refl _ _⟩
  | some y =>
    obtain ⟨z, hmk⟩ := make_any (b := 1) Tryd.underlying57 (show (Tryd.prog.info? 5).map (fun i => (i.zero.isSome, i.size, i.bytes)) = some (true, 1, 1) by kernel_rfl) n hn (by omega)
    have hq := fun W => Lib.run_eql_slice_nil (P := Tryd.prog) W 57 5 (some y) n c 0 0 Tryd.underlying57
    have H := Lib.hid h
    clear h hnil
    simp only [Nat.mul_one] at hmk
    go_enter Tryd.func15, Tryd.ntmps15
    go_wp2
    have H0 : FillR (fun i => Value.int .u8 (f i)) w w.heap.size n 0 (w.alloc (.cells (madeCells z n) 5)) := ⟨ba _ _, by simp, fun i hi => by omega, Room.made _ _ _ _⟩
    clear hmk hq
    go_loopw [4] (fun i wr => ∃ k : Nat, k ≤ n ∧ i = .int .i64 k ∧ FillR (fun i => Value.int .u8 (f i)) w w.heap.size n k wr) (fun i _ => n - (intOf i).toNat)
    case atStart => exact ⟨0, by omega, rfl, H0⟩
    case round =>
      obtain ⟨k, hk, rfl, HF⟩ := hrel
      clear H0
      by_cases hlt : k < n
      · obtain ⟨x, hx, d0⟩ := (H.out.after HF.below) k hlt
        cases hx
        obtain ⟨v0, c0, f0⟩ := HF.room k (by omega)
        have i0 : (0 : Int) ≤ k := by omega
        have i1 : (k : Int) < n := by omega
        have HS := Lib.hid (HF.step hlt)
        clear HF
        go_wp2
        go_roundw
        case rel => exact ⟨k + 1, by omega, by go_num, HS.out⟩
        case measure => simp [intOf]; omega
      · obtain rfl : k = n := by omega
        go_wp2
        go_ret
        exact ⟨_, rfl, by simp, (fun x h => by cases h; exact ⟨_, rfl, Nat.le_refl _⟩), HF.rowV, HF.below⟩
set_option maxRecDepth 100000 in
set_option maxHeartbeats 4000000 in
theorem by14_yes (A : Option Addr) (n c : Nat) (i m : Bool) (l : Int) (w : World) (hn : n ≤ 1048576) : Calls Tryd.prog 14 #[.slice A n c, .bool i, .bool m, .int .i32 l] w (Gv (.bool true) w) := by
  have h1 : ¬ ((1048576 : Int) < n) := by omega
  have h2 : (0 : Int) ≤ n := by omega
  go_enter Tryd.func14, Tryd.ntmps14
  go_wp2
  go_ret
  exact ⟨rfl, Below.refl _ _⟩
set_option maxRecDepth 100000 in
set_option maxHeartbeats 4000000 in
theorem by14_no (A : Option Addr) (n c : Nat) (i m : Bool) (l : Int) (w : World) (hn : ¬ n ≤ 1048576) : Calls Tryd.prog 14 #[.slice A n c, .bool i, .bool m, .int .i32 l] w (Gv (.bool false) w) := by
  have h1 : (1048576 : Int) < n := by omega
  go_enter Tryd.func14, Tryd.ntmps14
  go_wp2
  go_ret
  exact ⟨rfl, Below.refl _ _⟩
/-- the loop that lays tokens -/
structure LS (w : World) (S n : Nat) (G : Nat → Tk) (i : Nat) (wr : World) : Prop where
  ct : ∀ j, j < i → Seg wr S (j * 7) (tkL (G j))
  rs : Room wr S (n * 7)
  only : Only (fun z => z = S) w wr
theorem LS.step {w v V V' : World} {S n : Nat} {G : Nat → Tk} {i : Nat} (h : LS w S n G i v) (hi : i < n) (hb : Below v.heap.size v V) (h2 : V' = V.setCells S (i * 7) (tkL (G i))) : LS w S n G (i + 1) V' := by
  have o2 : Only (fun z => z = S) V V' := by rw [h2]; exact Only.setCells (S := fun z => z = S) S rfl _ _ (Only.refl _)
  have rs1 : Room V S (n * 7) := h.rs.after hb
  refine ⟨fun j hj => ?_, o2.rooms _ _ rs1, h.only.trans ((Only.of hb).trans o2)⟩
  by_cases e : j = i
  · subst e; rw [h2]; exact Seg.put rs1 (by show j * 7 + 7 ≤ n * 7; omega)
  · have c : Seg V S (j * 7) (tkL (G j)) := (h.ct j (by omega)).after hb
    rw [h2]
    exact c.far (by show j * 7 + 7 ≤ i * 7 ∨ i * 7 + 7 ≤ j * 7; omega)
theorem heap2' (w : World) (a b : Obj) : ((w.alloc a).alloc b).heap[w.heap.size]? = some a := by
  show ((w.heap.push a).push b)[w.heap.size]? = _
  rw [Array.getElem?_push, if_neg (by simp)]
  exact Array.getElem?_push_size
theorem Rul.one {W V : World} {R : Nat} {a : Value} {x : Int} (h : Room W R 2) (hV : V = W.setCells R 0 [a, .int .i32 x]) : Rul V R 1 (fun _ => a) (fun _ => x) := by
  subst hV
  have s1 : Seg (W.setCells R 0 [a, .int .i32 x]) R 0 [a, .int .i32 x] := Seg.put h (by show 0 + 2 ≤ 2; omega)
  refine ⟨fun j hj => ?_, fun j hj => ?_, Room.setCells _ _ _ _ h⟩
  · match j, hj with
    | 0, _ => exact s1 0 _ rfl
  · match j, hj with
    | 0, _ => exact s1 1 _ rfl
theorem heap2 (w : World) (a b c : Obj) : (((w.alloc a).alloc b).alloc c).heap[w.heap.size + 1]? = some b := by
  show (((w.heap.push a).push b).push c)[w.heap.size + 1]? = _
  rw [Array.getElem?_push, if_neg (by simp), show w.heap.size + 1 = (w.heap.push a).size by simp]
  exact Array.getElem?_push_size
theorem zk_sim (c : Int) : SimC (zk c) (c % 8) := by
  refine ⟨?_, ?_, rfl, rfl⟩
  · show kdC c = kdC (c % 8)
    unfold kdC; rw [Int.emod_emod]
  · show txC c = txC (c % 8)
    unfold txC; rw [Int.emod_emod]
theorem DcC.only {S : Nat → Prop} {w w' : World} {Q T n : Nat} {G : Nat → Tk} {c u : Nat → Int} {lo len : Int} {imp : Bool} (h : DcC w Q T n G c u lo len imp) (ho : Only S w w') (hQ : ¬ S Q) (hT : ¬ S T) : DcC w' Q T n G c u lo len imp := by
  obtain ⟨⟨cc, hs⟩, ⟨cs, hc⟩, ht, hsm⟩ := h
  have hl : Q < w.heap.size := (Array.getElem?_eq_some_iff.1 hc).1
  refine ⟨⟨cc, hs.only ho hQ⟩, ⟨cs, by rw [ho.obj Q hl hQ]; exact hc⟩, fun i hi => ?_, hsm⟩
  have := (ht i hi).seg (hsm i).1.ch
  exact (this.only ho hT).tat (hsm i).1.ch
/-- how a run ends -/
structure RunP (w : World) (N : Nat) (g : Nat → Int) (imp m : Bool) (loc : Int) (e : Ending) (w' : World) : Prop where
  below : Below w.heap.size w w'
  ex : ∃ P R, e = .returned (.tuple #[.pointer (some ⟨P, 0, none⟩), .slice (some ⟨R, 0, none⟩) 1 1, .agg #[.int .i32 loc, .int .i32 13]]) ∧ (∃ cs : Array Value, w'.heap[P]? = some (.cells cs 39)) ∧ (∃ l, w'.cell? ⟨R, 1, none⟩ = some (.int .i32 l)) ∧
    ((w'.cell? ⟨R, 0, none⟩ = some (.iface 36 (.pointer (some ⟨P, 0, none⟩)))) ∨ ∃ bs sa, OkL g N bs sa ∧ ∃ Q T G, ¬ Q = P ∧ w'.cell? ⟨R, 0, none⟩ = some (.iface 36 (.pointer (some ⟨Q, 0, none⟩))) ∧ DcC w' Q T (mN (xqI bs g) (q2I g N bs sa)) G (mC (xqI bs g) (q2I g N bs sa)) (mW (xqI bs g) (q2I g N bs sa) m) loc 13 imp)
set_option maxRecDepth 100000 in
set_option maxHeartbeats 4000000 in
theorem run_c (A : Option Addr) (N c : Nat) (f : Nat → Int) (imp m : Bool) (loc : Int) (w : World) (hN : N ≤ 4096) (h : RowV (fun i => .int .u8 (f i)) w A N) (hf : ∀ i, i < N → 0 ≤ f i ∧ f i ≤ 255) :
    Calls Tryd.prog 16 #[.slice A N c, .bool imp, .bool m, .int .i32 loc] w (RunP w N (fun i => f i % 8) imp m loc) := by
  have mk : ∀ W, (Instr.makeSlice 23 (.int .i64 N) (.int .i64 N)).run Tryd.prog W = .ok (.slice (some ⟨W.heap.size, 0, none⟩) N N) (W.alloc (.cells (madeCells tkZ (N * 7)) 32)) := fun W => make_z (b := 40) tkZ Tryd.underlying23 (show (Tryd.prog.info? 32).map (fun i => (i.zero.map (·.cells), i.size, i.bytes)) = some (some tkZ, 7, 40) by kernel_rfl) N (by omega) (by omega) W
  have mk2 : ∀ W, (Instr.makeSlice 40 (.int .i64 1) (.int .i64 1)).run Tryd.prog W = .ok (.slice (some ⟨W.heap.size, 0, none⟩) 1 1) (W.alloc (.cells (madeCells #[.nilIface, .int .i32 0] (1 * 2)) 46)) := fun W => make_z (b := 24) #[.nilIface, .int .i32 0] Tryd.underlying40 (show (Tryd.prog.info? 46).map (fun i => (i.zero.map (·.cells), i.size, i.bytes)) = some (some #[.nilIface, .int .i32 0], 2, 24) by kernel_rfl) 1 (by omega) (by omega) W
  have H := Lib.hid h
  have HF := Lib.hid hf
  clear h hf
  go_enter Tryd.func16, Tryd.ntmps16
  go_wp2
  refine wp_gen (fun W0 hW => ?_)
  have hb0 : Hid (Below w.heap.size w W0) := Lib.hid (by rw [hW]; exact (ba _ _).trans ((ba _ _).mono (by simp)))
  have rk0 : Hid (Room W0 w.heap.size 2) := Lib.hid (by
    rw [hW]
    have := (Room.new w #[.int .i32 0, .int .i32 0] 35).after (ba _ (.cells (madeCells tkZ (N * 7)) 32))
    simpa using this)
  have rs0 : Hid (Room W0 (w.heap.size + 1) (N * 7)) := Lib.hid (by
    rw [hW]
    have := Room.made (w.alloc (.cells #[.int .i32 0, .int .i32 0] 35)) tkZ (N * 7) 32
    simpa using this)
  have lS0 : w.heap.size + 1 < W0.heap.size := by rw [hW]; simp
  clear hW mk
  obtain ⟨S, hS⟩ : ∃ x, w.heap.size + 1 = x := ⟨_, rfl⟩
  obtain ⟨K0, hK0⟩ : ∃ x, w.heap.size = x := ⟨_, rfl⟩
  rw [hS] at rs0 lS0 ⊢
  rw [hK0] at rk0 ⊢
  have lt1 : K0 < S := by omega
  have hKw := Lib.hid hK0
  clear hS hK0
  have hC5 := Lib.hid (fun (x : Int) (h0 : 0 ≤ x) (h1 : x ≤ 255) w => (tok_c x w h0 h1 : Calls Tryd.prog 5 #[.int .u8 x] w (Gv (tkV (zk x)) w)))
  have N0 : (0 : Int) ≤ N := by omega
  go_loopw [13] (fun v wr => ∃ i : Nat, i ≤ N ∧ v = .int .i64 i ∧ LS W0 S N (fun j => zk (f j)) i wr) (fun v _ => N - (intOf v).toNat)
  case atStart => exact ⟨0, by omega, rfl, fun j hj => by omega, rs0.out, Only.refl _⟩
  case round =>
    obtain ⟨i, hi, rfl, hL⟩ := hrel
    obtain ⟨w1, rfl⟩ : ∃ w1 : World, w1 = wr := ⟨_, rfl⟩
    replace hL := Lib.hid hL
    have bw1 : Hid (Below w.heap.size w w1) := Lib.hid (hb0.out.trans (hL.out.only.below w.heap.size hb0.out.size (fun b e => by rw [e]; have := hKw.out; omega)))
    by_cases hlt : i < N
    · have i0 : (0 : Int) ≤ i := by omega
      have i1 : (i : Int) < N := by omega
      obtain ⟨a, rfl, d0⟩ := (H.out.after bw1.out) i hlt
      have q0 := (HF.out i hlt).1
      have q1 := (HF.out i hlt).2
      have HS := Lib.hid (fun V V' hb hV => LS.step (V := V) (V' := V') hL.out hlt hb hV)
      dsimp only at d0
      obtain ⟨x, hx⟩ : ∃ x, x = f i := ⟨_, rfl⟩
      rw [← hx] at d0 q0 q1
      replace HS : Hid (∀ V V', Below w1.heap.size w1 V → V' = V.setCells S (i * 7) (tkL (zk x)) → LS W0 S N (fun j => zk (f j)) (i + 1) V') := Lib.hid (fun V V' hb hV => HS.out V V' hb (by rw [← hx]; exact hV))
      clear hx
      go_upto_region 5 with (first | (go_at_call 5; (with_reducible refine (hC5.out x q0 q1 _).mono ?_); rintro e V2 ⟨rfl, b2⟩; replace b2 := Lib.hid b2; have rs2 := Lib.hid (hL.out.rs.after b2.out)) | ((with_reducible refine wpList_at (o := ⟨none, .store 32 (.tmp 34) (.tmp 33), _, _, _, _⟩) ?_); refine wpList_store_room (op := ⟨none, .store 32 (.tmp 34) (.tmp 33), _, _, _, _⟩) rfl 32 (.tmp 34) (.tmp 33) rfl S (i * 7) (N * 7) (tkL (zk x)) rs2.out (by show i * 7 + 7 ≤ N * 7; omega) rfl rfl (i32k (zk x)) (tkL_one (zk x)) ?_; intro V3 hV3))
      have HL2 : Hid (LS W0 S N (fun j => zk (f j)) (i + 1) V3) := Lib.hid (HS.out _ _ b2.out hV3)
      clear hV3
      go_wp2
      go_roundw
      case rel => exact ⟨i + 1, by omega, by go_num, HL2.out⟩
      case measure => simp [intOf]; omega
    · obtain rfl : i = N := by omega
      go_upto_region 10 with fail
      refine wp_gen (fun W2 hW2 => ?_)
      have b2 : Hid (Below w1.heap.size w1 W2) := Lib.hid (by rw [hW2]; exact (ba _ _).trans ((ba _ _).mono (by simp)) |>.trans ((ba _ _).mono (by simp; omega)))
      have kS : Hid (Seg W2 w1.heap.size 0 [.int .i32 loc, .int .i32 13]) := Lib.hid (by rw [hW2]; exact ((Seg.new w1 [.int .i32 loc, .int .i32 13] 35).after (ba _ _)).after (ba _ _))
      have sD : Hid (Seg W2 (w1.heap.size + 1) 0 (dcL ktB (.slice (some ⟨S, 0, none⟩) i i) loc 13 66 imp)) := Lib.hid (by rw [hW2]; exact (Seg.new' (vs := dcL ktB (.slice (some ⟨S, 0, none⟩) i i) loc 13 66 imp) (by simp)).after (ba _ _))
      have oS : Hid (∃ cs : Array Value, W2.heap[w1.heap.size + 1]? = some (.cells cs 39)) := Lib.hid ⟨_, by rw [hW2]; exact heap2 _ _ _ _⟩
      have rR : Hid (Room W2 (w1.heap.size + 1 + 1) 2) := Lib.hid (by
        rw [hW2]
        have := Room.made ((w1.alloc (.cells #[.int .i32 loc, .int .i32 13] 35)).alloc (.cells (dcL ktB (.slice (some ⟨S, 0, none⟩) i i) loc 13 66 imp).toArray 39)) #[.nilIface, .int .i32 0] 2 46
        simpa using this)
      clear hW2
      obtain ⟨KS, hKS⟩ : ∃ x, w1.heap.size = x := ⟨_, rfl⟩
      obtain ⟨P, hP⟩ : ∃ x, KS + 1 = x := ⟨_, rfl⟩
      obtain ⟨R, hR⟩ : ∃ x, P + 1 = x := ⟨_, rfl⟩
      rw [hKS] at kS sD oS rR ⊢
      rw [hP] at sD oS rR ⊢
      rw [hR] at rR ⊢
      have lt3 : KS < P := by omega
      have lt4 : P < R := by omega
      replace hKS := Lib.hid hKS
      clear hP hR
      have hSK : S < KS := by
        have h1 := hKS.out
        have h2 := hL.out.only.size
        have h3 := lS0
        omega
      have tS : Hid (∀ j, j < i → TAt W2 S (j * 7) (zk (f j))) := Lib.hid (fun j hj => ((hL.out.ct j hj).tat rfl).after b2.out)
      have rk2 : Hid (Room W2 K0 2) := Lib.hid ((hL.out.only.rooms _ _ rk0.out).after b2.out)
      have bw2 : Hid (Below w.heap.size w W2) := Lib.hid (bw1.out.trans (b2.out.mono bw1.out.size))
      have lR : R < W2.heap.size := rR.out.lt (by omega)
      clear hL b2 bw1 rs0 rk0 hb0
      go_upto_region 12 with (first | ((with_reducible refine wpList_at (o := ⟨none, .store 46 (.tmp 50) (.tmp 49), _, _, _, _⟩) ?_); refine wpList_store_room (op := ⟨none, .store 46 (.tmp 50) (.tmp 49), _, _, _, _⟩) rfl 46 (.tmp 50) (.tmp 49) rfl R 0 2 [.iface 36 (.pointer (some ⟨P, 0, none⟩)), .int .i32 loc] rR.out (by show 0 + 2 ≤ 2; omega) rfl rfl (i46n _ _) (rule_onen _ rfl _) ?_; intro V3 hV3; replace hV3 := Lib.hid hV3) | (go_at_call 6; (with_reducible refine (new_c _).mono ?_); rintro e V4 ⟨rfl, b4, tr4, lt5⟩; replace b4 := Lib.hid b4; replace tr4 := Lib.hid tr4))
      have o3 : Hid (Only (fun z => z = R) W2 V3) := Lib.hid (by rw [hV3.out]; exact Only.setCells (S := fun z => z = R) R rfl _ _ (Only.refl _))
      have rl : Hid (Rul V4 R 1 (fun _ => .iface 36 (.pointer (some ⟨P, 0, none⟩))) (fun _ => loc)) := Lib.hid ((Rul.one rR.out hV3.out).after b4.out)
      have hs3 : V3.heap.size = W2.heap.size := by rw [hV3.out, setCells_size]
      clear hV3 rR
      obtain ⟨B, hB⟩ : ∃ z, V3.heap.size = z := ⟨_, rfl⟩
      rw [hB] at tr4 lt5 ⊢
      have o4 : Hid (Only (fun z => z = R) W2 V4) := Lib.hid (o3.out.trans (Only.of b4.out))
      have hBw : W2.heap.size = B := by omega
      replace hB := Lib.hid hB
      have C8 := Lib.hid (crn_c B R 1 P S i i imp m (fun j => f j % 8) (fun j => zk (f j)) ktB loc 13 66 _ _ V4 tr4.out rl.out (sD.out.only o4.out (by show ¬ P = R; omega)) (fun j hj => (((tS.out j hj).seg rfl).only o4.out (by show ¬ S = R; omega)).tat rfl) (fun j hj => ⟨zk_sim _, by show 0 ≤ f j % 8; omega, by show f j % 8 ≤ 7; omega⟩) hN (Nat.le_refl _) (by omega) (by omega) (by omega) (by omega))
      go_upto_region 13 with (go_at_call 8; (with_reducible refine C8.out.mono ?_); rintro e W5 hc; obtain rfl := hc.ret; replace hc := Lib.hid hc)
      have o5 : Hid (Only (fun z => z = B ∨ z = R) W2 W5) := Lib.hid ((o4.out.wide (fun _ e => .inr e)).trans hc.out.only)
      have k0 : W5.cell? ⟨KS, 0, none⟩ = some (.int .i32 loc) := o5.out.keep (by simpa using kS.out 0 _ rfl) (by show ¬ (KS = B ∨ KS = R); omega)
      have k1 : W5.cell? ⟨KS, 1, none⟩ = some (.int .i32 13) := o5.out.keep (by simpa using kS.out 1 _ rfl) (by show ¬ (KS = B ∨ KS = R); omega)
      have rk5 := o5.out.rooms _ _ rk2.out
      obtain ⟨z0, e0, f0⟩ := rk5 0 (by omega)
      obtain ⟨z1, e1, f1⟩ := rk5 1 (by omega)
      clear rk5
      have hK5 : K0 < W5.heap.size := by have := o5.out.size; omega
      go_region
      go_wp2
      have oV : Only (fun z => z = K0) W5 ((W5.setCell ⟨K0, 0, none⟩ (.int .i32 loc)).setCell ⟨K0, 1, none⟩ (.int .i32 13)).drew := (((Only.refl (S := fun z => z = K0) W5).set ⟨K0, 0, none⟩ (.int .i32 loc) rfl).set ⟨K0, 1, none⟩ (.int .i32 13) rfl).trans (Only.of (Below.refl _ _).drew)
      have hw := hKw.out
      have hs5 := hc.out.only.size
      refine bodyPost_ret (v := .tuple #[.pointer (some ⟨P, 0, none⟩), .slice (some ⟨R, 0, none⟩) 1 1, .agg #[.int .i32 loc, .int .i32 13]]) (by simp [results, Tryd.results16, go_sem, e0, e1]) rfl ⟨?_, P, R, rfl, ?_, ?_, ?_⟩
      · exact (bw2.out.trans (o5.out.below w.heap.size bw2.out.size (fun z h => by omega))).trans (oV.below w.heap.size (by omega) (fun z h => by omega))
      · obtain ⟨cs, hcs⟩ := oS.out
        exact ⟨cs, (oV.obj P (by omega) (by omega)).trans ((o5.out.obj P (by omega) (by omega)).trans hcs)⟩
      · obtain ⟨l, hl⟩ := hc.out.l
        exact ⟨l, oV.keep hl (by show ¬ R = K0; omega)⟩
      · rcases hc.out.cas with ⟨c0, -⟩ | ⟨bs, sa, hok, Q, T, G, hQ, hT, c0, hd⟩
        · exact .inl (oV.keep c0 (by show ¬ R = K0; omega))
        · exact .inr ⟨bs, sa, hok, Q, T, G, by omega, oV.keep c0 (by show ¬ R = K0; omega), hd.only oV (by omega) (by omega)⟩
end Go.Proofs.YthdogpahkglaoaaDoor
