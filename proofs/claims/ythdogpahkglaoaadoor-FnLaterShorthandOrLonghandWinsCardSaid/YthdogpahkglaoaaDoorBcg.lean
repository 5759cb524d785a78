/- FnLaterShorthandOrLonghandWins: the walk's first part. -/
import Derived.Test.YthdogpahkglaoaaDoorBch
import Derived.Test.YthdogpahkglaoaaDoorBc9
import Derived.Test.YthdogpahkglaoaaDoorRl
import Derived.LaidEqlPtr
set_option linter.unusedVariables false
set_option linter.unusedSimpArgs false
namespace Go.Proofs.YthdogpahkglaoaaDoor
open Go.RowKit
theorem w7 (args : Array Value) (b : Addr) (R : Value) (Dd : Addr) (m : Bool) (k : Int) (w : World) (Q : Ending → World → Prop) (h : Calls Tryd.prog 17 #[.pointer (some b), R, .pointer (some Dd), .bool m, .int .i64 k] w Q) (hQ : ∀ e w', Q e w' → e = .returned (.tuple #[])) : Calls Tryd.prog 7 #[.pointer (some b), R, .pointer (some Dd), .bool m, .int .i64 k] w Q := by
  replace h := Lib.hid h
  replace hQ := Lib.hid hQ
  go_enter Tryd.func7, Tryd.ntmps7
  go_wp2_with (go_at_call 17; (with_reducible refine h.out.mono ?_); intro e w1 hq; obtain rfl := hQ.out _ _ hq; replace hq := Lib.hid hq)
  exact bodyPost_end (v := .tuple #[]) (by simp [results, Tryd.results7, go_sem]) rfl hq.out
theorem w8 (args : Array Value) (b : Addr) (R : Value) (Dd : Addr) (m : Bool) (w : World) (Q : Ending → World → Prop) (h : Calls Tryd.prog 18 #[.pointer (some b), R, .pointer (some Dd), .bool m] w Q) (hQ : ∀ e w', Q e w' → e = .returned (.tuple #[])) : Calls Tryd.prog 8 #[.pointer (some b), R, .pointer (some Dd), .bool m] w Q := by
  replace h := Lib.hid h
  replace hQ := Lib.hid hQ
  go_enter Tryd.func8, Tryd.ntmps8
  go_wp2_with (go_at_call 18; (with_reducible refine h.out.mono ?_); intro e w1 hq; obtain rfl := hQ.out _ _ hq; replace hq := Lib.hid hq)
  exact bodyPost_end (v := .tuple #[]) (by simp [results, Tryd.results8, go_sem]) rfl hq.out
/-- the loop that lays the four tokens -/
structure LQ (w : World) (Pq S : Nat) (q : Nat → Int) (i : Nat) (wr : World) : Prop where
  cq : ∀ j, j < i → wr.cell? ⟨Pq, j, none⟩ = some (.int .u8 (q j))
  ct : ∀ j, j < i → Seg wr S (j * 7) (tkL (zk (q j)))
  rq : Room wr Pq 4
  rs : Room wr S 28
  only : Only (fun z => z = Pq ∨ z = S) w wr
theorem LQ.step {w v V V' V'' : World} {Pq S : Nat} {q : Nat → Int} {i : Nat} (h : LQ w Pq S q i v) (hi : i < 4) (hPS : Pq ≠ S) (h1 : V = v.setCell ⟨Pq, i, none⟩ (.int .u8 (q i))) (hb : Below V.heap.size V V') (h2 : V'' = V'.setCells S (i * 7) (tkL (zk (q i)))) : LQ w Pq S q (i + 1) V'' := by
  have o1 : Only (fun z => z = Pq) v V := by rw [h1]; exact (Only.refl _).set _ _ rfl
  have o2 : Only (fun z => z = S) V' V'' := by rw [h2]; exact Only.setCells (S := fun z => z = S) S rfl _ _ (Only.refl _)
  have rq1 : Room V Pq 4 := o1.rooms _ _ h.rq
  have rs1 : Room V' S 28 := (o1.rooms _ _ h.rs).after hb
  refine ⟨fun j hj => ?_, fun j hj => ?_, o2.rooms _ _ (rq1.after hb), o2.rooms _ _ rs1, (h.only.trans (o1.wide (fun _ e => .inl e))).trans ((Only.of hb).trans (o2.wide (fun _ e => .inr e)))⟩
  · have c : V.cell? ⟨Pq, j, none⟩ = some (.int .u8 (q j)) := by
      by_cases e : j = i
      · subst e; obtain ⟨u, hu, -⟩ := h.rq j (by omega); rw [h1]; exact cs hu
      · rw [h1, co (by intro q; injection q; omega)]; exact h.cq j (by omega)
    exact o2.keep (ac hb c) (by show ¬ Pq = S; exact hPS)
  · by_cases e : j = i
    · subst e; rw [h2]; exact Seg.put rs1 (by show j * 7 + 7 ≤ 28; omega)
    · have c : Seg V' S (j * 7) (tkL (zk (q j))) := ((h.ct j (by omega)).only o1 (by show ¬ S = Pq; exact fun e => hPS e.symm)).after hb
      rw [h2]
      exact c.far (by show j * 7 + 7 ≤ i * 7 ∨ i * 7 + 7 ≤ j * 7; omega)
def qm (a b c d : Int) (i : Nat) : Int := qI a b c d i % 5
/-- a declaration of one token, new from B on -/
def NewD (B : Nat) (t : Tk) (imp : Bool) (lo len : Int) (P T : Nat) (W : World) : Prop := B ≤ P ∧ B ≤ T ∧ T ≠ P ∧ Seg W P 0 (dcL ⟨#[]⟩ (.slice (some ⟨T, 0, none⟩) 1 1) lo len 0 imp) ∧ TAt W T 0 t ∧ W.heap[P]? = some (.cells (dcL ⟨#[]⟩ (.slice (some ⟨T, 0, none⟩) 1 1) lo len 0 imp).toArray 39)
def R13 (B : Nat) (x : Int) (imp : Bool) (lo len : Int) (i : Nat) (v : Value) (W : World) : Prop :=
  (i = 0 → v = .int .u8 x) ∧ (i = 1 → v = tkV (zk x)) ∧ (i = 2 → ∃ T, v = .slice (some ⟨T, 0, none⟩) 1 1 ∧ B ≤ T ∧ TAt W T 0 (zk x)) ∧ (i = 3 → v = .bool imp) ∧ (i = 4 → v = .agg #[.int .i32 lo, .int .i32 len]) ∧ (i = 5 → ∃ T, v = .agg #[.string ⟨#[]⟩, .slice (some ⟨T, 0, none⟩) 1 1, .int .i32 lo, .int .i32 len, .int .u16 0, .bool imp] ∧ B ≤ T ∧ TAt W T 0 (zk x)) ∧ (i = 6 → ∃ P T, v = .pointer (some ⟨P, 0, none⟩) ∧ NewD B (zk x) imp lo len P T W)
theorem R13.after {B : Nat} {x : Int} {imp : Bool} {lo len : Int} (i : Nat) (v : Value) (W W' : World) (hb : Below W.heap.size W W') (h : R13 B x imp lo len i v W) : R13 B x imp lo len i v W' := by
  obtain ⟨h0, h1, h2, h3, h4, h5, h6⟩ := h
  refine ⟨h0, h1, fun e => ?_, h3, h4, fun e => ?_, fun e => ?_⟩
  · obtain ⟨T, a, b, c⟩ := h2 e; exact ⟨T, a, b, c.after hb⟩
  · obtain ⟨T, a, b, c⟩ := h5 e; exact ⟨T, a, b, c.after hb⟩
  · obtain ⟨P, T, a, b, c, d, e, f, g⟩ := h6 e; exact ⟨P, T, a, b, c, d, e.after hb, f.after hb, by rw [hb.block P (by have := block_lt_of_cell (e 0 _ rfl); exact this)]; exact g⟩
theorem R13.r0 {B : Nat} {x : Int} {imp : Bool} {lo len : Int} (v : Value) (W : World) (h : v = .int .u8 x) : R13 B x imp lo len 0 v W := ⟨fun _ => h, by simp, by simp, by simp, by simp, by simp, by simp⟩
theorem R13.r1 {B : Nat} {x : Int} {imp : Bool} {lo len : Int} (v : Value) (W : World) (h : v = tkV (zk x)) : R13 B x imp lo len 1 v W := ⟨by simp, fun _ => h, by simp, by simp, by simp, by simp, by simp⟩
theorem R13.r2 {B : Nat} {x : Int} {imp : Bool} {lo len : Int} (v : Value) (W : World) (h : ∃ T, v = .slice (some ⟨T, 0, none⟩) 1 1 ∧ B ≤ T ∧ TAt W T 0 (zk x)) : R13 B x imp lo len 2 v W := ⟨by simp, by simp, fun _ => h, by simp, by simp, by simp, by simp⟩
theorem R13.r3 {B : Nat} {x : Int} {imp : Bool} {lo len : Int} (v : Value) (W : World) (h : v = .bool imp) : R13 B x imp lo len 3 v W := ⟨by simp, by simp, by simp, fun _ => h, by simp, by simp, by simp⟩
theorem R13.r4 {B : Nat} {x : Int} {imp : Bool} {lo len : Int} (v : Value) (W : World) (h : v = .agg #[.int .i32 lo, .int .i32 len]) : R13 B x imp lo len 4 v W := ⟨by simp, by simp, by simp, by simp, fun _ => h, by simp, by simp⟩
theorem R13.r5 {B : Nat} {x : Int} {imp : Bool} {lo len : Int} (v : Value) (W : World) (h : ∃ T, v = .agg #[.string ⟨#[]⟩, .slice (some ⟨T, 0, none⟩) 1 1, .int .i32 lo, .int .i32 len, .int .u16 0, .bool imp] ∧ B ≤ T ∧ TAt W T 0 (zk x)) : R13 B x imp lo len 5 v W := ⟨by simp, by simp, by simp, by simp, by simp, fun _ => h, by simp⟩
theorem R13.r6 {B : Nat} {x : Int} {imp : Bool} {lo len : Int} (v : Value) (W : World) (h : ∃ P T, v = .pointer (some ⟨P, 0, none⟩) ∧ NewD B (zk x) imp lo len P T W) : R13 B x imp lo len 6 v W := ⟨by simp, by simp, by simp, by simp, by simp, by simp, fun _ => h⟩
theorem i46 (a : Value) (x : Int) : (Tryd.prog.info? 46).map (·.size) = some ([a, .int .i32 x] : List Value).length := (by kernel_rfl : (Tryd.prog.info? 46).map (·.size) = some 2)
theorem rule_one (a : Value) (ha : a.oneCell' = true) (x : Int) : ∀ v ∈ ([a, .int .i32 x] : List Value), v.oneCell' = true := by
  intro v hv
  simp only [List.mem_cons, List.not_mem_nil, or_false] at hv
  rcases hv with rfl | rfl
  · exact ha
  · rfl
def two (a b : Value) : Nat → Value := fun j => if j = 0 then a else b
def twoI (a b : Int) : Nat → Int := fun j => if j = 0 then a else b
theorem Rul.two {W W1 W2 : World} {R : Nat} {a b : Value} {x y : Int} (h : Room W R 4) (h1 : W1 = W.setCells R 0 [a, .int .i32 x]) (h2 : W2 = W1.setCells R 2 [b, .int .i32 y]) : Rul W2 R 2 (two a b) (twoI x y) ∧ Only (fun z => z = R) W W2 := by
  have r1 : Room W1 R 4 := by rw [h1]; exact Room.setCells _ _ _ _ h
  have s1 : Seg W1 R 0 [a, .int .i32 x] := by rw [h1]; exact Seg.put h (by show 0 + 2 ≤ 4; omega)
  have s1' : Seg W2 R 0 [a, .int .i32 x] := by rw [h2]; exact s1.far (by show 0 + 2 ≤ 2 ∨ 2 + 2 ≤ 0; omega)
  have s2 : Seg W2 R 2 [b, .int .i32 y] := by rw [h2]; exact Seg.put r1 (by show 2 + 2 ≤ 4; omega)
  refine ⟨⟨fun j hj => ?_, fun j hj => ?_, by rw [h2]; exact Room.setCells _ _ _ _ r1⟩, ?_⟩
  · match j, hj with
    | 0, _ => exact s1' 0 _ rfl
    | 1, _ => exact s2 0 _ rfl
  · match j, hj with
    | 0, _ => exact s1' 1 _ rfl
    | 1, _ => exact s2 1 _ rfl
  · rw [h2, h1]
    exact Only.setCells (S := fun z => z = R) R rfl _ _ (Only.setCells (S := fun z => z = R) R rfl _ _ (Only.refl _))
theorem gone_i (R n c j : Nat) (jj : Int) (hjj : jj = (j : Int)) (w : World) (hj : j < n) (hn : n ≤ 4096) (c0 : w.cell? ⟨R, j * 2, none⟩ = some .nilIface) (c1 : w.cell? ⟨R, j * 2 + 1, none⟩ = some (.int .i32 0)) : Calls Tryd.prog 9 #[.slice (some ⟨R, 0, none⟩) n c, .int .i64 jj] w (Gv (.bool true) w) := by
  subst hjj; exact gone_c R n c j w hj hn c0 c1
theorem minloc_i (ix : Nat → Nat) (L : Nat → Int) (A n c : Nat) (a0 a1 a2 a3 : Int) (h0 : a0 = ix 0) (h1 : a1 = ix 1) (h2 : a2 = ix 2) (h3 : a3 = ix 3) (w : World) (hn : n ≤ 4096) (hix : ∀ i, i < 4 → ix i < n) (hL : ∀ i, i < n → w.cell? ⟨A, i, none⟩ = some (.int .i32 (L i))) :
    Calls Tryd.prog 11 #[.agg #[.int .i64 a0, .int .i64 a1, .int .i64 a2, .int .i64 a3], .slice (some ⟨A, 0, none⟩) n c] w (Gv (.int .i32 (mnF ix L 4)) w) := by
  subst h0 h1 h2 h3; exact minloc_c ix L A n c w hn hix hL
/-- values of operations, one of them a new slice -/
def RS (V : Nat → Value) (k : Nat) (cs : List Value) (i : Nat) (v : Value) (W : World) : Prop := (i ≠ k → v = V i) ∧ (i = k → ∃ A, v = .slice (some ⟨A, 0, none⟩) cs.length cs.length ∧ Seg W A 0 cs)
theorem RS.after {V : Nat → Value} {k : Nat} {cs : List Value} (i : Nat) (v : Value) (W W' : World) (hb : Below W.heap.size W W') (h : RS V k cs i v W) : RS V k cs i v W' := ⟨h.1, fun e => by obtain ⟨A, a, b⟩ := h.2 e; exact ⟨A, a, b.after hb⟩⟩
theorem RS.val {V : Nat → Value} {k i : Nat} {cs : List Value} {v : Value} {W : World} (h : i ≠ k) (e : v = V i) : RS V k cs i v W := ⟨fun _ => e, fun q => absurd q h⟩
theorem RS.new {V : Nat → Value} {k : Nat} {cs : List Value} {v : Value} {W : World} (h : ∃ A, v = .slice (some ⟨A, 0, none⟩) cs.length cs.length ∧ Seg W A 0 cs) : RS V k cs k v W := ⟨fun q => absurd rfl q, fun _ => h⟩
def dkL {A : Type} (z : A) (cN : Nat) (D : Nat → A) (i : Nat) : Nat → A := fun j => if cN < i ∧ j = 0 then z else D j
theorem dkL_0 {A : Type} (z : A) (cN : Nat) (D : Nat → A) : dkL z cN D 0 = D := by
  funext j; unfold dkL; rw [if_neg (by omega)]
theorem lf_up (cN : Nat) (x : Int) (hx : 0 ≤ x ∧ x ≤ 4) (q : Nat → Int) (D : Nat → Value) (L : Nat → Int) (k : Nat) (hk : k < 4) : UpR (upF (fun _ => Cn0) cN (lhC x 1)) k 2 2 (shF q 2 k) (dkL .nilIface cN D k) (dkL .nilIface cN D (k + 1)) (dkL 0 cN L k) (dkL 0 cN L (k + 1)) := by
  by_cases e : k = cN
  · subst e
    have hk : upF (fun _ => Cn0) k (lhC x 1) k = lhC x 1 := by unfold upF; rw [if_pos rfl]
    refine .inr ⟨?_, rfl, by rw [hk]; rfl, rfl, 0, by rw [hk]; rfl, by omega, fun j hj => ?_, fun j hj => ?_⟩
    · rw [hk]
      have := kd_ne x hx
      show ((zk x).kd != 0) = true
      simpa [bne] using this
    · unfold dkL
      by_cases h : j = 0
      · rw [if_pos ⟨by omega, h⟩, if_pos h]
      · rw [if_neg (fun q => h q.2), if_neg h, if_neg (fun q => h q.2)]
    · unfold dkL
      by_cases h : j = 0
      · rw [if_pos ⟨by omega, h⟩, if_pos h]
      · rw [if_neg (fun q => h q.2), if_neg h, if_neg (fun q => h q.2)]
  · refine .inl ⟨.inl ?_, ?_, ?_⟩
    · unfold upF; rw [if_neg e]; rfl
    · funext j; unfold dkL
      by_cases h : cN < k
      · by_cases hj : j = 0
        · rw [if_pos ⟨by omega, hj⟩, if_pos ⟨h, hj⟩]
        · rw [if_neg (fun q => hj q.2), if_neg (fun q => hj q.2)]
      · rw [if_neg (by omega), if_neg (by omega)]
    · funext j; unfold dkL
      by_cases h : cN < k
      · by_cases hj : j = 0
        · rw [if_pos ⟨by omega, hj⟩, if_pos ⟨h, hj⟩]
        · rw [if_neg (fun q => hj q.2), if_neg (fun q => hj q.2)]
      · rw [if_neg (by omega), if_neg (by omega)]
theorem lf_0 (cN : Nat) (hc : cN < 4) (D : Nat → Value) (L : Nat → Int) (Q : Nat) : finD (fun _ => 2 - 1) (dkL .nilIface cN D 4) Q 0 = .nilIface ∧ finL (fun _ => 2 - 1) (dkL 0 cN L 4) 0 = 0 := by
  have h1 : sn (fun _ => 2 - 1) 4 0 = false := by decide
  unfold finD finL clrD clrL dkL
  rw [h1]
  exact ⟨by rw [if_neg (by decide), if_neg (by decide), if_pos ⟨hc, rfl⟩], by rw [if_neg (by decide), if_neg (by decide), if_pos ⟨hc, rfl⟩]⟩
theorem lf_1 (cN : Nat) (D : Nat → Value) (L : Nat → Int) (Q : Nat) (y z : Int) (hz : L 1 = z) : finD (fun _ => 2 - 1) (dkL .nilIface cN D 4) Q 1 = .iface 36 (.pointer (some ⟨Q, 0, none⟩)) ∧ finL (fun _ => 2 - 1) (dkL 0 cN L 4) 1 = mnF (fun _ => 1) (twoI y z) 4 := by
  unfold finD finL
  refine ⟨if_pos rfl, ?_⟩
  rw [if_pos rfl]
  refine mnF_cg _ _ _ (fun i hi => ?_) 4 (Nat.le_refl _)
  show dkL 0 cN L 4 1 = z
  unfold dkL
  rw [if_neg (by omega)]
  exact hz
theorem ptr_ne {a b : Nat} {ca cb : Array Value} {ta tb : TypeId} (w : World) (hne : ¬ a = b) (ha : w.heap[a]? = some (.cells ca ta)) (hb : w.heap[b]? = some (.cells cb tb)) :
    (binOp .eql 36 (.pointer (some ⟨a, 0, none⟩)) (.pointer (some ⟨b, 0, none⟩))).run Tryd.prog w = .ok (.bool false) w := by
  cases hi : Tryd.prog.info? 39 with
  | none => exact absurd hi (by decide +kernel)
  | some j =>
    have hj : j.size = 6 := by
      have : (Tryd.prog.info? 39).map (·.size) = some 6 := by kernel_rfl
      rw [hi] at this
      simpa using this
    exact run_eql_ptr_other w (tp := 36) (te := 39) (j := j) (ca := ca) (cb := cb) (ta := ta) (tb := tb) Tryd.underlying36 hi (by omega) (by intro e; injection e with e1; exact hne e1) ha hb
theorem qI_self (q : Nat → Int) (i : Nat) (hi : i < 4) : qI (q 0) (q 1) (q 2) (q 3) i = q i := by
  match i, hi with
  | 0, _ => rfl
  | 1, _ => rfl
  | 2, _ => rfl
  | 3, _ => rfl
theorem sf_rul {w : World} {R Q : Nat} {a b : Value} {x y : Int} (h : Rul w R 2 (finD (fun _ => 1 - 1) (two a b) Q) (finL (fun _ => 1 - 1) (twoI x y))) : Rul w R 2 (two (.iface 36 (.pointer (some ⟨Q, 0, none⟩))) b) (twoI (mnF (fun _ => 0) (twoI x y) 4) y) := by
  refine ⟨fun j hj => ?_, fun j hj => ?_, h.room⟩
  · match j, hj with
    | 0, _ => exact h.d 0 (by omega)
    | 1, _ => exact h.d 1 (by omega)
  · match j, hj with
    | 0, _ => exact h.l 0 (by omega)
    | 1, _ => exact h.l 1 (by omega)
theorem heap3 (w : World) (a b c : Obj) : (((w.alloc a).alloc b).alloc c).heap[w.heap.size + 1 + 1]? = some c := by
  show (((w.heap.push a).push b).push c)[w.heap.size + 1 + 1]? = _
  rw [show w.heap.size + 1 + 1 = ((w.heap.push a).push b).size by simp]
  exact Array.getElem?_push_size
/-- the corners' rules and codes when the longhand of corner c comes second -/
def ixS (c i : Nat) : Nat := if i = c then 1 else 0
def pS (q : Nat → Int) (c : Nat) (x : Int) (i : Nat) : Int := if i = c then x else q i
theorem ixS_le (c i : Nat) : ixS c i ≤ 1 := by unfold ixS; split <;> omega
theorem ixS_sn (c : Nat) (hc : c < 4) : sn (ixS c) 4 (1 - ixS c 3) = true := by
  rcases (by omega : c = 0 ∨ c = 1 ∨ c = 2 ∨ c = 3) with rfl | rfl | rfl | rfl <;> decide
theorem sf_o (c : Nat) (hc : c < 4) (D : Nat → Value) (L : Nat → Int) (Q : Nat) : finD (ixS c) D Q (1 - ixS c 3) = .nilIface ∧ finL (ixS c) L (1 - ixS c 3) = 0 := by
  have h := ixS_le c 3
  have hne : ¬ (1 - ixS c 3 = ixS c 3) := by omega
  unfold finD finL clrD clrL
  rw [if_neg hne, if_neg hne, ixS_sn c hc]
  exact ⟨rfl, rfl⟩
theorem sf_t (c : Nat) (D : Nat → Value) (L : Nat → Int) (Q : Nat) : finD (ixS c) D Q (ixS c 3) = .iface 36 (.pointer (some ⟨Q, 0, none⟩)) ∧ finL (ixS c) L (ixS c 3) = mnF (ixS c) L 4 := ⟨if_pos rfl, if_pos rfl⟩
theorem tkv_zk (c : Int) : (zk c).val = tkV (zk c) := rfl
set_option maxRecDepth 100000 in
set_option maxHeartbeats 4000000 in
theorem law_c (a0 b0 c0 d0 cr v : Int) (lf imp m : Bool) (locS locL : Int) (w : World) (ha : 0 ≤ a0 ∧ a0 ≤ 255) (hb : 0 ≤ b0 ∧ b0 ≤ 255) (hc : 0 ≤ c0 ∧ c0 ≤ 255) (hd : 0 ≤ d0 ∧ d0 ≤ 255) (hcr : 0 ≤ cr ∧ cr ≤ 255) (hv : 0 ≤ v ∧ v ≤ 255) :
    Calls Tryd.prog 3 #[q4 a0 b0 c0 d0, .int .u8 cr, .int .u8 v, .bool lf, .bool imp, .bool m, .int .i32 locS, .int .i32 locL] w (fun e w' => e = .returned (.bool true) ∧ Below w.heap.size w w') := by
  have cr0 := hcr.1; have cr1 := hcr.2; have v0 := hv.1; have v1 := hv.2
  have HB : Hid (∀ i, i < 4 → 0 ≤ qI a0 b0 c0 d0 i ∧ qI a0 b0 c0 d0 i ≤ 255) := Lib.hid (fun i hi => (match i, hi with | 0, _ => ha | 1, _ => hb | 2, _ => hc | 3, _ => hd))
  clear ha hb hc hd hcr hv
  have mk : ∀ W, (Instr.makeSlice 23 (.int .i64 4) (.int .i64 4)).run Tryd.prog W = .ok (.slice (some ⟨W.heap.size, 0, none⟩) 4 4) (W.alloc (.cells (madeCells tkZ (4 * 7)) 32)) := fun W => make_z (b := 40) tkZ Tryd.underlying23 (show (Tryd.prog.info? 32).map (fun i => (i.zero.map (·.cells), i.size, i.bytes)) = some (some tkZ, 7, 40) by kernel_rfl) 4 (by omega) (by omega) W
  have mk2 : ∀ W, (Instr.makeSlice 40 (.int .i64 2) (.int .i64 2)).run Tryd.prog W = .ok (.slice (some ⟨W.heap.size, 0, none⟩) 2 2) (W.alloc (.cells (madeCells #[.nilIface, .int .i32 0] (2 * 2)) 46)) := fun W => make_z (b := 24) #[.nilIface, .int .i32 0] Tryd.underlying40 (show (Tryd.prog.info? 46).map (fun i => (i.zero.map (·.cells), i.size, i.bytes)) = some (some #[.nilIface, .int .i32 0], 2, 24) by kernel_rfl) 2 (by omega) (by omega) W
  go_enter Tryd.func3, Tryd.ntmps3
  go_upto_region 5 with fail
  refine wp_gen (fun W0 hW => ?_)
  have hb0 : Hid (Below w.heap.size w W0) := Lib.hid (by rw [hW]; exact (ba _ _).trans ((ba _ _).mono (by simp)) |>.trans ((ba _ _).mono (by simp; omega)))
  have hQ : Hid (∀ i, i < 4 → W0.cell? ⟨w.heap.size, i, none⟩ = some (.int .u8 (qI a0 b0 c0 d0 i))) := Lib.hid (fun i hi => by
    rw [hW]
    match i, hi with
    | 0, _ => simp [go_sem, qI]
    | 1, _ => simp [go_sem, qI]
    | 2, _ => simp [go_sem, qI]
    | 3, _ => simp [go_sem, qI])
  have rq0 : Hid (Room W0 (w.heap.size + 1) 4) := Lib.hid (by
    rw [hW]
    have := (Room.new (w.alloc (.cells #[.int .u8 a0, .int .u8 b0, .int .u8 c0, .int .u8 d0] 22)) #[.int .u8 0, .int .u8 0, .int .u8 0, .int .u8 0] 22).after (ba _ (.cells (madeCells tkZ 28) 32))
    simpa using this)
  have rs0 : Hid (Room W0 (w.heap.size + 1 + 1) 28) := Lib.hid (by
    rw [hW]
    have := Room.made ((w.alloc (.cells #[.int .u8 a0, .int .u8 b0, .int .u8 c0, .int .u8 d0] 22)).alloc (.cells #[.int .u8 0, .int .u8 0, .int .u8 0, .int .u8 0] 22)) tkZ 28 32
    simpa using this)
  clear hW mk
  obtain ⟨Pq, hPq⟩ : ∃ x, w.heap.size + 1 = x := ⟨_, rfl⟩
  obtain ⟨S, hS⟩ : ∃ x, Pq + 1 = x := ⟨_, rfl⟩
  obtain ⟨P0, hP0⟩ : ∃ x, w.heap.size = x := ⟨_, rfl⟩
  rw [hPq] at rq0 rs0 ⊢
  rw [hS] at rs0 ⊢
  rw [hP0] at hQ ⊢
  have lt1 : P0 < Pq := by omega
  have lt2 : Pq < S := by omega
  have hPw := Lib.hid hP0
  clear hS hPq hP0
  have hC5 := Lib.hid (fun (x : Int) (h : 0 ≤ x ∧ x ≤ 255) w => tok_c x w h.1 h.2)
  go_loopw [20] (fun v wr => ∃ i : Nat, i ≤ 4 ∧ v = .int .i64 i ∧ LQ W0 Pq S (qm a0 b0 c0 d0) i wr) (fun v _ => 4 - (intOf v).toNat)
  case atStart => exact ⟨0, by omega, rfl, fun j hj => by omega, fun j hj => by omega, rq0.out, rs0.out, Only.refl _⟩
  case round =>
    obtain ⟨i, hi, rfl, hL⟩ := hrel
    obtain ⟨w1, rfl⟩ : ∃ w1 : World, w1 = wr := ⟨_, rfl⟩
    replace hL := Lib.hid hL
    by_cases hlt : i < 4
    · have i0 : (0 : Int) ≤ i := by omega
      have i1 : (i : Int) < 4 := by omega
      have dq : w1.cell? ⟨P0, i, none⟩ = some (.int .u8 (qI a0 b0 c0 d0 i)) := hL.out.only.keep (hQ.out i hlt) (by show ¬ (P0 = Pq ∨ P0 = S); omega)
      have hqm : Hid (qm a0 b0 c0 d0 i = qI a0 b0 c0 d0 i % 5) := Lib.hid rfl
      have q0 := (HB.out i hlt).1
      have q1 := (HB.out i hlt).2
      obtain ⟨x, hx⟩ : ∃ x, x = qI a0 b0 c0 d0 i := ⟨_, rfl⟩
      rw [← hx] at dq hqm q0 q1
      clear hx
      obtain ⟨u, eq, fq⟩ := hL.out.rq i hlt
      have C5 := Lib.hid (fun w => hC5.out (x % 5) ⟨by omega, by omega⟩ w)
      have hqv : Hid (∀ V, V = w1.setCell ⟨Pq, i, none⟩ (.int .u8 (x % 5)) → V = w1.setCell ⟨Pq, i, none⟩ (.int .u8 (qm a0 b0 c0 d0 i))) := Lib.hid (fun V h => by rw [hqm.out]; exact h)
      go_upto_region 8 with fail
      refine wp_gen (fun V1 hV1 => ?_)
      have cq1 : V1.cell? ⟨Pq, i, none⟩ = some (.int .u8 (x % 5)) := by rw [hV1]; exact cs eq
      have o1 : Hid (Only (fun z => z = Pq) w1 V1) := Lib.hid (by rw [hV1]; exact (Only.refl _).set _ _ rfl)
      have HV1 := Lib.hid (hqv.out V1 hV1)
      clear hV1 dq eq fq hqv
      go_upto_region 6 with (first | (go_at_call 5; (with_reducible refine (C5.out _).mono ?_); rintro e V2 ⟨rfl, b2⟩; replace b2 := Lib.hid b2; have rs2 := Lib.hid (((hL.out.only.trans (o1.out.wide (fun _ e => .inl e))).rooms _ _ rs0.out).after b2.out)) | ((with_reducible refine wpList_at (o := ⟨none, .store 32 (.tmp 56) (.tmp 55), _, _, _, _⟩) ?_); refine wpList_store_room (op := ⟨none, .store 32 (.tmp 56) (.tmp 55), _, _, _, _⟩) rfl 32 (.tmp 56) (.tmp 55) rfl S (i * 7) 28 (tkL (zk (x % 5))) rs2.out (by show i * 7 + 7 ≤ 28; omega) rfl rfl (i32k (zk (x % 5))) (tkL_one (zk (x % 5))) ?_; intro V3 hV3))
      have HL2 : Hid (LQ W0 Pq S (qm a0 b0 c0 d0) (i + 1) V3) := Lib.hid (hL.out.step hlt (by omega) HV1.out b2.out (by rw [hqm.out]; exact hV3))
      clear hV3 cq1
      go_wp2
      go_roundw
      case rel => exact ⟨i + 1, by omega, by go_num, HL2.out⟩
      case measure => simp [intOf]; omega
    · obtain rfl : i = 4 := by omega
      go_wp2
      refine wp_gen (fun W2 hW2 => ?_)
      have b2 : Hid (Below w1.heap.size w1 W2) := Lib.hid (by rw [hW2]; exact (ba _ _).trans ((ba _ _).mono (by simp)) |>.trans ((ba _ _).mono (by simp; omega)))
      have kS : Hid (Seg W2 w1.heap.size 0 [.int .i32 locS, .int .i32 13]) := Lib.hid (by rw [hW2]; exact ((Seg.new w1 [.int .i32 locS, .int .i32 13] 35).after (ba _ _)).after (ba _ _))
      have kL : Hid (Seg W2 (w1.heap.size + 1) 0 [.int .i32 locL, .int .i32 22]) := Lib.hid (by rw [hW2]; exact (Seg.new' (vs := [.int .i32 locL, .int .i32 22]) (by simp)).after (ba _ _))
      have sD : Hid (Seg W2 (w1.heap.size + 1 + 1) 0 (dcL ⟨#[]⟩ (.slice (some ⟨S, 0, none⟩) 4 4) locS 13 0 imp)) := Lib.hid (by rw [hW2]; exact Seg.new' (vs := dcL ⟨#[]⟩ (.slice (some ⟨S, 0, none⟩) 4 4) locS 13 0 imp) (by simp))
      have oS : Hid (W2.heap[w1.heap.size + 1 + 1]? = some (.cells (dcL ⟨#[]⟩ (.slice (some ⟨S, 0, none⟩) 4 4) locS 13 0 imp).toArray 39)) := Lib.hid (by rw [hW2]; exact heap3 _ _ _ _)
      clear hW2
      obtain ⟨KS, hKS⟩ : ∃ x, w1.heap.size = x := ⟨_, rfl⟩
      obtain ⟨KL, hKL⟩ : ∃ x, KS + 1 = x := ⟨_, rfl⟩
      obtain ⟨SD, hSD⟩ : ∃ x, KL + 1 = x := ⟨_, rfl⟩
      rw [hKS] at kS kL sD oS ⊢
      rw [hKL] at kL sD oS ⊢
      rw [hSD] at sD oS ⊢
      have lt3 : KS < KL := by omega
      have lt4 : KL < SD := by omega
      replace hKS := Lib.hid hKS
      clear hKL hSD
      have x0 : (0 : Int) ≤ v % 5 := by omega
      have x1 : v % 5 ≤ 255 := by omega
      obtain ⟨x, hx⟩ : ∃ x, v % 5 = x := ⟨_, rfl⟩
      rw [hx] at x0 x1 ⊢
      have hx4 : x ≤ 4 := by omega
      clear hx hC5
      have C5 : Hid (∀ w, Calls Tryd.prog 5 #[.int .u8 x] w (Gv (tkV (zk x)) w)) := Lib.hid (fun w => tok_c x w x0 x1)
      refine QTail.drawn_rel 7 (R13 W2.heap.size x imp locL 22) (by kernel_rfl) (by kernel_rfl) (fun i v W W' h1 h2 => R13.after i v W W' h1 h2) ?_ ?_
      · simp only [List.take_succ_cons, List.take_zero]
        refine ⟨?_, ?_, ?_, ?_, ?_, ?_, ?_, trivial⟩
        all_goals intro vs W hC hd
        · clear hd hC
          simp only [QTail.putA, Nat.reduceAdd, Act.put, List.setIfInBounds_toArray, List.set_cons_succ, List.set_cons_zero]
          go_wp2
          exact ⟨R13.r0 _ _ rfl, Below.refl _ _⟩
        · have h0 : vs 0 = .int .u8 x := (hd { on := 0, ground := Ground.data } (by simp) rfl).1 rfl
          clear hd hC
          simp only [QTail.putA, Nat.reduceAdd, Act.put, List.setIfInBounds_toArray, List.set_cons_succ, List.set_cons_zero]
          go_wp2_with (go_at_call 5; (with_reducible refine (C5.out _).mono ?_); rintro e w5 ⟨rfl, hb5⟩; replace hb5 := Lib.hid hb5)
          exact ⟨R13.r1 _ _ rfl, hb5.out⟩
        · have h1 : vs 1 = tkV (zk x) := (hd { on := 1, ground := Ground.data } (by simp) rfl).2.1 rfl
          have hC' := Lib.hid hC
          clear hd hC
          simp only [QTail.putA, Nat.reduceAdd, Act.put, List.setIfInBounds_toArray, List.set_cons_succ, List.set_cons_zero]
          go_wp2
          exact ⟨R13.r2 _ _ ⟨_, rfl, hC'.out.size, tokNew _ (zk x) 32⟩, ba _ _⟩
        · clear hd hC
          simp only [QTail.putA, Nat.reduceAdd, Act.put, List.setIfInBounds_toArray, List.set_cons_succ, List.set_cons_zero]
          go_wp2
          exact ⟨R13.r3 _ _ rfl, Below.refl _ _⟩
        · have c0 : W.cell? ⟨KL, 0, none⟩ = some (.int .i32 locL) := ac hC (kL.out 0 _ rfl)
          have c1 : W.cell? ⟨KL, 1, none⟩ = some (.int .i32 22) := ac hC (kL.out 1 _ rfl)
          clear hd hC
          simp only [QTail.putA, Nat.reduceAdd, Act.put, List.setIfInBounds_toArray, List.set_cons_succ, List.set_cons_zero]
          go_wp2
          exact ⟨R13.r4 _ _ rfl, Below.refl _ _⟩
        · obtain ⟨T, h2, hT, hk⟩ := (hd { on := 2, ground := Ground.data } (by simp) rfl).2.2.1 rfl
          have h3 : vs 3 = .bool imp := (hd { on := 3, ground := Ground.data } (by simp) rfl).2.2.2.1 rfl
          have h4 : vs 4 = .agg #[.int .i32 locL, .int .i32 22] := (hd { on := 4, ground := Ground.data } (by simp) rfl).2.2.2.2.1 rfl
          replace hk := Lib.hid hk
          clear hd hC
          simp only [QTail.putA, Nat.reduceAdd, Act.put, List.setIfInBounds_toArray, List.set_cons_succ, List.set_cons_zero]
          go_wp2
          exact ⟨R13.r5 _ _ ⟨T, rfl, hT, hk.out⟩, Below.refl _ _⟩
        · obtain ⟨T, h5, hT, hk⟩ := (hd { on := 5, ground := Ground.data } (by simp) rfl).2.2.2.2.2.1 rfl
          have hC' := Lib.hid hC
          have hTl : T < W.heap.size := block_lt_of_cell hk.c0
          replace hk := Lib.hid hk
          clear hd hC
          simp only [QTail.putA, Nat.reduceAdd, Act.put, List.setIfInBounds_toArray, List.set_cons_succ, List.set_cons_zero]
          go_wp2
          exact ⟨R13.r6 _ _ ⟨_, T, rfl, hC'.out.size, hT, by omega, Seg.new _ (dcL ⟨#[]⟩ (.slice (some ⟨T, 0, none⟩) 1 1) locL 22 0 imp) 39, hk.out.after (ba _ _), by show (W.heap.push _)[W.heap.size]? = _; simp⟩, ba _ _⟩
      · intro vs W3 b3 hR
        obtain ⟨LD, TL, h6, hnd⟩ := (hR 6 (by omega)).2.2.2.2.2.2 rfl
        replace hnd := Lib.hid hnd
        replace b3 := Lib.hid b3
        clear hR
        simp only [List.take_succ_cons, List.take_zero, List.drop_succ_cons, List.drop_zero, QTail.putA, Nat.reduceAdd, Act.put, List.setIfInBounds_toArray, List.set_cons_succ, List.set_cons_zero]
        rw [h6]
        clear h6
        generalize vs 0 = z0
        generalize vs 1 = z1
        generalize vs 2 = z2
        generalize vs 3 = z3
        generalize vs 4 = z4
        generalize vs 5 = z5
        clear vs
        go_upto_region 16 with (go_at_call 6; (with_reducible refine (new_c _).mono ?_); rintro e W4 ⟨rfl, b4, t4, l4⟩; replace b4 := Lib.hid b4; replace t4 := Lib.hid t4; replace l4 := Lib.hid l4)
        have hsz : (W3.alloc (.cells (madeCells #[.nilIface, .int .i32 0] 4) 46)).heap.size = W3.heap.size + 1 := by simp
        rw [hsz] at t4 l4
        have rr4 : Hid (Room W4 W3.heap.size 4) := Lib.hid ((Room.made W3 #[.nilIface, .int .i32 0] 4 46).after b4.out)
        have bA : Hid (Below w1.heap.size w1 W4) := Lib.hid (by
          have h1 := b2.out.trans (b3.out.mono b2.out.size)
          have h2 := h1.trans ((ba W3 (.cells (madeCells #[.nilIface, .int .i32 0] 4) 46)).mono h1.size)
          exact h2.trans (b4.out.mono h2.size))
        have bw4 : Hid (Below w.heap.size w W4) := Lib.hid (by
          have h1 := hb0.out.trans (hL.out.only.below w.heap.size hb0.out.size (fun z e => by have := hPw.out; omega))
          exact h1.trans (bA.out.mono h1.size))
        have q4c : Hid (∀ j, j < 4 → W4.cell? ⟨Pq, j, none⟩ = some (.int .u8 (qm a0 b0 c0 d0 j))) := Lib.hid (fun j hj => ac bA.out (hL.out.cq j hj))
        have sS4 : Hid (∀ j, j < 4 → Seg W4 S (j * 7) (tkL (zk (qm a0 b0 c0 d0 j)))) := Lib.hid (fun j hj => (hL.out.ct j hj).after bA.out)
        have b24 : Hid (Below W2.heap.size W2 W4) := Lib.hid (b3.out.trans (((ba W3 (.cells (madeCells #[.nilIface, .int .i32 0] 4) 46)).trans (b4.out.mono (by simp))).mono b3.out.size))
        have b34 : Hid (Below W3.heap.size W3 W4) := Lib.hid ((ba W3 (.cells (madeCells #[.nilIface, .int .i32 0] 4) 46)).trans (b4.out.mono (by simp)))
        have kS4 := Lib.hid (kS.out.after b24.out)
        have kL4 := Lib.hid (kL.out.after b24.out)
        have sD4 := Lib.hid (sD.out.after b24.out)
        have hLD : LD < W3.heap.size := block_lt_of_cell (hnd.out.2.2.2.1 0 _ rfl)
        have hTL : TL < W3.heap.size := block_lt_of_cell hnd.out.2.2.2.2.1.c0
        have sL4 : Hid (Seg W4 LD 0 (dcL ⟨#[]⟩ (.slice (some ⟨TL, 0, none⟩) 1 1) locL 22 0 imp)) := Lib.hid (hnd.out.2.2.2.1.after b34.out)
        have tL4 : Hid (TAt W4 TL 0 (zk x)) := Lib.hid (hnd.out.2.2.2.2.1.after b34.out)
        have hSD2 : SD < W2.heap.size := block_lt_of_cell (sD.out 0 _ rfl)
        have hSD : SD < W3.heap.size := Nat.lt_of_lt_of_le hSD2 b3.out.size
        have oS4 : Hid (W4.heap[SD]? = some (.cells (dcL ⟨#[]⟩ (.slice (some ⟨S, 0, none⟩) 4 4) locS 13 0 imp).toArray 39)) := Lib.hid (by rw [b24.out.block SD hSD2]; exact oS.out)
        have oL4 : Hid (W4.heap[LD]? = some (.cells (dcL ⟨#[]⟩ (.slice (some ⟨TL, 0, none⟩) 1 1) locL 22 0 imp).toArray 39)) := Lib.hid (by rw [b34.out.block LD hLD]; exact hnd.out.2.2.2.2.2)
        have hSDL : SD ≠ LD := by have := hnd.out.1; omega
        have hq04 : Hid (∀ j, j < 4 → 0 ≤ qm a0 b0 c0 d0 j ∧ qm a0 b0 c0 d0 j ≤ 4) := Lib.hid (fun j hj => by have := HB.out j hj; unfold qm; omega)
        have hS0 : S < KS := by have := hKS.out; have := block_lt_of_cell (hL.out.ct 0 (by omega) 0 _ rfl); dsimp only at this; omega
        clear b2 b3 b4 hL kS kL sD hnd b24 b34 HB hb0 hQ rq0 rs0
        obtain ⟨cN, hcN⟩ : ∃ n : Nat, cr % 4 = n := ⟨(cr % 4).toNat, by omega⟩
        have hc4 : cN < 4 := by omega
        rw [hcN]
        replace hcN := Lib.hid hcN
        obtain ⟨RR, hRR⟩ : ∃ r, W3.heap.size = r := ⟨_, rfl⟩
        obtain ⟨TR, hTR⟩ : ∃ r, RR + 1 = r := ⟨_, rfl⟩
        rw [hRR] at rr4 t4 l4 hLD hTL hSD ⊢
        rw [hTR] at t4 l4 ⊢
        have hRT : RR < TR := by omega
        have hwR : w.heap.size ≤ RR := by have := hPw.out; omega
        clear hsz hRR hTR
        obtain ⟨q, hq⟩ : ∃ q, q = qm a0 b0 c0 d0 := ⟨_, rfl⟩
        rw [← hq] at q4c sS4 hq04
        clear hq
        cases lf
        · go_upto_region 31 with (first | ((with_reducible refine wpList_at (o := ⟨none, .store 46 (.tmp 156) (.tmp 155), _, _, _, _⟩) ?_); refine wpList_store_room (op := ⟨none, .store 46 (.tmp 156) (.tmp 155), _, _, _, _⟩) rfl 46 (.tmp 156) (.tmp 155) rfl RR 0 4 [.iface 36 (.pointer (some ⟨SD, 0, none⟩)), .int .i32 locS] rr4.out (by show _ + 2 ≤ 4; omega) rfl rfl (i46 _ _) (rule_one _ rfl _) ?_; intro W5 hW5; have rr5 : Hid (Room W5 RR 4) := Lib.hid (by rw [hW5]; exact Room.setCells _ _ _ _ rr4.out); replace hW5 := Lib.hid hW5) | ((with_reducible refine wpList_at (o := ⟨none, .store 46 (.tmp 163) (.tmp 162), _, _, _, _⟩) ?_); refine wpList_store_room (op := ⟨none, .store 46 (.tmp 163) (.tmp 162), _, _, _, _⟩) rfl 46 (.tmp 163) (.tmp 162) rfl RR 2 4 [.iface 36 (.pointer (some ⟨LD, 0, none⟩)), .int .i32 locL] rr5.out (by show _ + 2 ≤ 4; omega) rfl rfl (i46 _ _) (rule_one _ rfl _) ?_; intro W6 hW6))
          obtain ⟨rl, ol⟩ := Rul.two rr4.out hW5.out hW6
          replace rl := Lib.hid rl
          replace ol := Lib.hid ol
          clear hW5 hW6
          have t6 : Hid (Trk W6 TR (fun _ => Cn0) false) := Lib.hid (t4.out.only ol.out (by omega))
          have nS : ¬ (S = TR ∨ S = RR) := by omega
          have nD : ¬ (SD = TR ∨ SD = RR) := by omega
          have nL : ¬ (LD = TR ∨ LD = RR) := by omega
          have nT : ¬ (TL = TR ∨ TL = RR) := by omega
          have nP : ¬ (Pq = TR ∨ Pq = RR) := by omega
          have nK : ¬ (KL = TR ∨ KL = RR) := by omega
          have O6 : Hid (Only (fun z => z = TR ∨ z = RR) W4 W6) := Lib.hid (ol.out.wide (fun _ e => .inr e))
          have C8 := Lib.hid (w8 #[] ⟨TR, 0, none⟩ (.slice (some ⟨RR, 0, none⟩) 1 2) ⟨SD, 0, none⟩ m W6 _ (sh_c TR RR 1 2 2 SD S 4 _ false imp m q ⟨#[]⟩ locS 13 0 (fun _ => two (.iface 36 (.pointer (some ⟨SD, 0, none⟩))) (.iface 36 (.pointer (some ⟨LD, 0, none⟩)))) (fun _ => twoI locS locL) W6 t6.out (.inr rfl) rl.out (sD4.out.only O6.out nD) (fun i hi => (sS4.out i hi).only O6.out nS) hq04.out (by omega) (by omega) (by omega) (by omega) (by omega) (by omega) (by omega) (by omega) (fun k hk => .inl ⟨.inl rfl, rfl, rfl⟩)) (fun e w' h => h.1))
          go_upto_region 32 with (go_at_call 8; (with_reducible refine C8.out.mono ?_); rintro e W7 ⟨rfl, Q, T, cc, hdn⟩; replace hdn := Lib.hid hdn)
          have O7 : Hid (Only (fun z => z = TR ∨ z = RR) W4 W7) := Lib.hid (O6.out.trans hdn.out.only)
          have hQ6 : W6.heap.size ≤ Q := hdn.out.qn
          have h46 : W4.heap.size ≤ W6.heap.size := O6.out.size
          have h67 : W6.heap.size ≤ W7.heap.size := hdn.out.only.size
          have hR4 : TR < W4.heap.size := l4.out
          have hQSD : ¬ Q = SD := by omega
          obtain ⟨y0, hy0⟩ : ∃ y, y = mnF (fun _ => 0) (twoI locS locL) 4 := ⟨_, rfl⟩
          have r7 : Hid (Rul W7 RR 2 (two (.iface 36 (.pointer (some ⟨Q, 0, none⟩))) (.iface 36 (.pointer (some ⟨LD, 0, none⟩)))) (twoI y0 locL)) := Lib.hid (by rw [hy0]; exact sf_rul hdn.out.rul)
          have t7 := Lib.hid hdn.out.trk
          have oQ7 := Lib.hid hdn.out.obj
          have hQ7 : Q < W7.heap.size := block_lt_of_cell (hdn.out.dcl 0 _ rfl)
          replace hy0 := Lib.hid hy0
          clear C8 t6 rl ol hdn
          have d0 : W7.cell? ⟨RR, 0, none⟩ = some (.iface 36 (.pointer (some ⟨Q, 0, none⟩))) := r7.out.d 0 (by omega)
          have d1 : W7.cell? ⟨RR, 1, none⟩ = some (.int .i32 y0) := r7.out.l 0 (by omega)
          have C10 := Lib.hid (fun w => declOf_c ⟨Q, 0, none⟩ y0 w)
          go_upto_region 33 with (go_at_call 10; (with_reducible refine (C10.out _).mono ?_); rintro e W8 ⟨rfl, b8⟩; replace b8 := Lib.hid b8)
          clear d0 d1
          have oQ : W8.heap[Q]? = _ := (b8.out.block Q hQ7).trans oQ7.out
          have oSD : W8.heap[SD]? = _ := (b8.out.block SD (by omega)).trans (((O7.out.below (SD + 1) (by omega) (fun z e => by omega)).block SD (by omega)).trans oS4.out)
          have E1 := ptr_ne W8 hQSD oQ oSD
          clear oQ oSD
          go_upto_region 35 with fail
          clear E1
          have d1 : W8.cell? ⟨RR, 1, none⟩ = some (.int .i32 y0) := ac b8.out (r7.out.l 0 (by omega))
          have C11 : Hid (∀ A W, W.cell? ⟨A, 0, none⟩ = some (.int .i32 locS) → Calls Tryd.prog 11 #[.agg #[.int .i64 0, .int .i64 0, .int .i64 0, .int .i64 0], .slice (some ⟨A, 0, none⟩) 1 1] W (Gv (.int .i32 y0) W)) := Lib.hid (fun A W h => by
            rw [hy0.out]
            exact minloc_i (fun _ => 0) (twoI locS locL) A 1 1 0 0 0 0 rfl rfl rfl rfl W (by omega) (fun i hi => by omega) (fun i hi => (match i, hi with | 0, _ => h)))
          go_upto_region 38 with (go_at_call 11; (with_reducible refine (C11.out _ _ (by simp [go_sem])).mono ?_); rintro e W9 ⟨rfl, b9⟩; have B89 : Hid (Below W8.heap.size W8 W9) := Lib.hid ((ba W8 _).trans (b9.mono (by simp))); clear b9)
          clear d1
          have B79x : Hid (Below W7.heap.size W7 W9) := Lib.hid (b8.out.trans ((B89.out).mono b8.out.size))
          have O9 : Hid (Only (fun z => z = TR ∨ z = RR) W4 W9) := Lib.hid (O7.out.trans (Only.of B79x.out))
          have t9 : Hid (Trk W9 TR (shF q 1) imp) := Lib.hid (t7.out.after B79x.out)
          have r9 := Lib.hid (r7.out.after B79x.out)
          have hp4 : Hid (∀ i, i < 4 → 0 ≤ pS q cN x i ∧ pS q cN x i ≤ 4) := Lib.hid (fun i hi => by unfold pS; split; exact ⟨x0, hx4⟩; exact hq04.out i hi)
          have C7 := Lib.hid (w7 #[] ⟨TR, 0, none⟩ (.slice (some ⟨RR, 0, none⟩) 2 2) ⟨LD, 0, none⟩ m cN W9 _ (lh_c TR RR 2 2 2 LD TL 1 cN q 1 imp m x ⟨#[]⟩ locL 22 0 _ _ (ixS cN) W9 t9.out r9.out (sL4.out.only O9.out nL) (((tL4.out.seg rfl).only O9.out nT).tat rfl) ⟨x0, hx4⟩ hq04.out hc4 (by omega) (by omega) (by omega) (by omega) (by omega) (by omega) (by omega) (by omega) (by omega) (fun i hi => rfl) (pS q cN x) (fun i => rfl)) (fun e w' h => h.1))
          go_upto_region 39 with (go_at_call 7; (with_reducible refine C7.out.mono ?_); rintro e W10 ⟨rfl, Q2, T2, cc2, hdn⟩; replace hdn := Lib.hid hdn)
          have O10 : Hid (Only (fun z => z = TR ∨ z = RR) W4 W10) := Lib.hid (O9.out.trans hdn.out.only)
          have h79 : W7.heap.size ≤ W9.heap.size := B79x.out.size
          have hQ29 : W9.heap.size ≤ Q2 := hdn.out.qn
          have oQ10 : Hid (W10.heap[Q]? = _) := Lib.hid ((hdn.out.only.obj Q (by omega) (by omega)).trans ((B79x.out.block Q hQ7).trans oQ7.out))
          obtain ⟨tN, htN⟩ : ∃ t, t = ixS cN 3 := ⟨_, rfl⟩
          have ht1 : tN ≤ 1 := by rw [htN]; exact ixS_le _ _
          obtain ⟨y, hy⟩ : ∃ y, y = mnF (ixS cN) (twoI y0 locL) 4 := ⟨_, rfl⟩
          have f0 := sf_o cN hc4 (two (.iface 36 (.pointer (some ⟨Q, 0, none⟩))) (.iface 36 (.pointer (some ⟨LD, 0, none⟩)))) (twoI y0 locL) Q2
          have f1 := sf_t cN (two (.iface 36 (.pointer (some ⟨Q, 0, none⟩))) (.iface 36 (.pointer (some ⟨LD, 0, none⟩)))) (twoI y0 locL) Q2
          rw [← htN] at f0 f1
          rw [← hy] at f1
          replace htN := Lib.hid htN
          have c0 : Hid (W10.cell? ⟨RR, (1 - tN) * 2, none⟩ = some .nilIface) := Lib.hid (by have := hdn.out.rul.d (1 - tN) (by omega); rw [f0.1] at this; exact this)
          have c1 : Hid (W10.cell? ⟨RR, (1 - tN) * 2 + 1, none⟩ = some (.int .i32 0)) := Lib.hid (by have := hdn.out.rul.l (1 - tN) (by omega); rw [f0.2] at this; exact this)
          have c2 : Hid (W10.cell? ⟨RR, tN * 2, none⟩ = some (.iface 36 (.pointer (some ⟨Q2, 0, none⟩)))) := Lib.hid (by have := hdn.out.rul.d tN (by omega); rw [f1.1] at this; exact this)
          have c3 : Hid (W10.cell? ⟨RR, tN * 2 + 1, none⟩ = some (.int .i32 y)) := Lib.hid (by have := hdn.out.rul.l tN (by omega); rw [f1.2] at this; exact this)
          have hQ210 : Q2 < W10.heap.size := block_lt_of_cell (hdn.out.dcl 0 _ rfl)
          have hRW : RR < W10.heap.size := by omega
          have hPqW : Pq < W10.heap.size := by omega
          replace hy := Lib.hid hy
          clear f0 f1 C7 t9 r9
          have i0 : (0 : Int) ≤ cN := by omega
          have i1 : (cN : Int) < 4 := by omega
          have p0 : W10.cell? ⟨Pq, 0, none⟩ = some (.int .u8 (q 0)) := O10.out.keep (q4c.out 0 (by omega)) nP
          have p1 : W10.cell? ⟨Pq, 1, none⟩ = some (.int .u8 (q 1)) := O10.out.keep (q4c.out 1 (by omega)) nP
          have p2 : W10.cell? ⟨Pq, 2, none⟩ = some (.int .u8 (q 2)) := O10.out.keep (q4c.out 2 (by omega)) nP
          have p3 : W10.cell? ⟨Pq, 3, none⟩ = some (.int .u8 (q 3)) := O10.out.keep (q4c.out 3 (by omega)) nP
          go_upto_region 40 with fail
          refine wp_gen (fun V1 hV1 => ?_)
          have v1r : Room V1 W10.heap.size 4 := by rw [hV1]; exact Room.newN _ _ rfl _
          have v1s : Hid (Seg V1 W10.heap.size 0 [.int .i64 0, .int .i64 0, .int .i64 0, .int .i64 0]) := Lib.hid (by rw [hV1]; exact Seg.new _ [.int .i64 0, .int .i64 0, .int .i64 0, .int .i64 0] _)
          have vb1 : Hid (Below W10.heap.size W10 V1) := Lib.hid (by rw [hV1]; exact ba _ _)
          clear hV1
          obtain ⟨IX, hIX⟩ : ∃ z, W10.heap.size = z := ⟨_, rfl⟩
          rw [hIX] at v1r v1s ⊢
          replace hIX := Lib.hid hIX
          obtain ⟨u0, e0, g0⟩ := v1r cN hc4
          replace v1r := Lib.hid v1r
          go_upto_region 41 with fail
          refine wp_gen (fun V2 hV2 => ?_)
          have ix2 : Hid (∀ i, i < 4 → V2.cell? ⟨IX, i, none⟩ = some (.int .i64 (ixS cN i))) := Lib.hid (fun i hi => by
            rw [hV2]
            unfold ixS
            by_cases e : i = cN
            · subst e; rw [if_pos rfl]; exact cs e0
            · rw [if_neg e, co (by intro h; injection h with _ h2; exact e h2.symm)]
              match i, hi with
              | 0, _ => exact v1s.out 0 _ rfl
              | 1, _ => exact v1s.out 1 _ rfl
              | 2, _ => exact v1s.out 2 _ rfl
              | 3, _ => exact v1s.out 3 _ rfl)
          have vb2 : Hid (Below W10.heap.size W10 V2) := Lib.hid (by rw [hV2]; exact vb1.out.setCell (by show _ ≤ IX; have := hIX.out; omega) _)
          clear hV2 e0 g0 v1s v1r p0 p1 p2 p3
          have hPV : Pq < V2.heap.size := by have := vb2.out.size; omega
          have p0 : V2.cell? ⟨Pq, 0, none⟩ = some (.int .u8 (q 0)) := ac vb2.out (O10.out.keep (q4c.out 0 (by omega)) nP)
          have p1 : V2.cell? ⟨Pq, 1, none⟩ = some (.int .u8 (q 1)) := ac vb2.out (O10.out.keep (q4c.out 1 (by omega)) nP)
          have p2 : V2.cell? ⟨Pq, 2, none⟩ = some (.int .u8 (q 2)) := ac vb2.out (O10.out.keep (q4c.out 2 (by omega)) nP)
          have p3 : V2.cell? ⟨Pq, 3, none⟩ = some (.int .u8 (q 3)) := ac vb2.out (O10.out.keep (q4c.out 3 (by omega)) nP)
          go_upto_region 42 with fail
          refine wp_gen (fun V3 hV3 => ?_)
          have v3r : Room V3 V2.heap.size 4 := by rw [hV3]; exact Room.newN _ _ rfl _
          have v3s : Hid (Seg V3 V2.heap.size 0 [.int .u8 (q 0), .int .u8 (q 1), .int .u8 (q 2), .int .u8 (q 3)]) := Lib.hid (by rw [hV3]; exact Seg.new _ [.int .u8 (q 0), .int .u8 (q 1), .int .u8 (q 2), .int .u8 (q 3)] _)
          have vb3 : Hid (Below V2.heap.size V2 V3) := Lib.hid (by rw [hV3]; exact ba _ _)
          clear hV3 p0 p1 p2 p3
          obtain ⟨QP, hQP⟩ : ∃ z, V2.heap.size = z := ⟨_, rfl⟩
          rw [hQP] at v3r v3s ⊢
          replace hQP := Lib.hid hQP
          obtain ⟨u0, e0, g0⟩ := v3r cN hc4
          replace v3r := Lib.hid v3r
          go_upto_region 43 with fail
          refine wp_gen (fun V4 hV4 => ?_)
          have qp4 : Hid (∀ i, i < 4 → V4.cell? ⟨QP, i, none⟩ = some (.int .u8 (pS q cN x i))) := Lib.hid (fun i hi => by
            rw [hV4]
            unfold pS
            by_cases e : i = cN
            · subst e; rw [if_pos rfl]; exact cs e0
            · rw [if_neg e, co (by intro h; injection h with _ h2; exact e h2.symm)]
              match i, hi with
              | 0, _ => exact v3s.out 0 _ rfl
              | 1, _ => exact v3s.out 1 _ rfl
              | 2, _ => exact v3s.out 2 _ rfl
              | 3, _ => exact v3s.out 3 _ rfl)
          have vb4 : Hid (Below V2.heap.size V2 V4) := Lib.hid (by rw [hV4]; exact vb3.out.setCell (by show _ ≤ QP; have := hQP.out; omega) _)
          have bV : Hid (Below W10.heap.size W10 V4) := Lib.hid (vb2.out.trans (vb4.out.mono vb2.out.size))
          clear hV4 e0 g0 v3s v3r
          have ix4 : Hid (∀ i, i < 4 → V4.cell? ⟨IX, i, none⟩ = some (.int .i64 (ixS cN i))) := Lib.hid (fun i hi => ac vb4.out (ix2.out i hi))
          have e3 : V4.cell? ⟨IX, 3, none⟩ = some (.int .i64 tN) := by rw [htN.out]; exact ix4.out 3 (by omega)
          have C9 : Hid (Calls Tryd.prog 9 #[.slice (some ⟨RR, 0, none⟩) 2 2, .int .i64 (1 - tN)] V4 (Gv (.bool true) V4)) := Lib.hid (gone_i RR 2 2 (1 - tN) (1 - tN) (by omega) V4 (by omega) (by omega) (ac bV.out c0.out) (ac bV.out c1.out))
          have j0 : (0 : Int) ≤ tN := by omega
          have j1 : (tN : Int) < 2 := by omega
          have j2 : (tN : Int) ≤ 1 := by omega
          go_upto_region 47 with (go_at_call 9; (with_reducible refine C9.out.mono ?_); rintro e V5 ⟨rfl, b5⟩; replace b5 := Lib.hid b5)
          clear e3 c0 c1
          have bV5 : Hid (Below W10.heap.size W10 V5) := Lib.hid (bV.out.trans (b5.out.mono bV.out.size))
          have d2 := ac bV5.out c2.out
          have d3 := ac bV5.out c3.out
          have C10 := Lib.hid (fun w => declOf_c ⟨Q2, 0, none⟩ y w)
          go_upto_region 48 with (go_at_call 10; (with_reducible refine (C10.out _).mono ?_); rintro e V6 ⟨rfl, b6⟩; replace b6 := Lib.hid b6)
          clear d2 d3
          have bV6 : Hid (Below W10.heap.size W10 V6) := Lib.hid (bV5.out.trans (b6.out.mono bV5.out.size))
          have oQ2 : V6.heap[Q2]? = _ := (bV6.out.block Q2 hQ210).trans hdn.out.obj
          have oQ1 : V6.heap[Q]? = _ := (bV6.out.block Q (by omega)).trans oQ10.out
          have oSD : V6.heap[SD]? = _ := (bV6.out.block SD (by omega)).trans (((O10.out.below (SD + 1) (by omega) (fun z e => by omega)).block SD (by omega)).trans oS4.out)
          have oLD : V6.heap[LD]? = _ := (bV6.out.block LD (by omega)).trans (((O10.out.below (LD + 1) (by omega) (fun z e => by omega)).block LD (by omega)).trans oL4.out)
          have E1 := ptr_ne V6 (by omega) oQ2 oQ1
          have E2 := ptr_ne V6 (by omega) oQ2 oSD
          have E3 := ptr_ne V6 (by omega) oQ2 oLD
          clear oQ2 oQ1 oSD oLD
          go_upto_region 50 with fail
          clear E1 E2 E3
          have hd3 : Hid (V6.cell? ⟨RR, tN * 2 + 1, none⟩ = some (.int .i32 y)) := Lib.hid (ac bV6.out c3.out)
          have b46 : Hid (Below V4.heap.size V4 V6) := Lib.hid (b5.out.trans (b6.out.mono b5.out.size))
          have ix6 : Hid (∀ i, i < 4 → V6.cell? ⟨IX, i, none⟩ = some (.int .i64 (ixS cN i))) := Lib.hid (fun i hi => ac b46.out (ix4.out i hi))
          refine QTail.drawn_rel 11 (RS (fun i => ([.slice (some ⟨RR, 0, none⟩) 2 2, .int .i64 tN, .pointer (some ⟨RR, tN * 2, none⟩), .pointer (some ⟨RR, tN * 2 + 1, none⟩), .pointer (some ⟨RR, tN * 2 + 1, none⟩), .int .i32 y, .agg #[.int .i64 (ixS cN 0), .int .i64 (ixS cN 1), .int .i64 (ixS cN 2), .int .i64 (ixS cN 3)], .int .i32 y0, .int .i32 locL, undef, .int .i32 y] : List Value).getD i undef) 9 [.int .i32 y0, .int .i32 locL]) (by kernel_rfl) (by kernel_rfl) (fun i v W W' h1 h2 => RS.after i v W W' h1 h2) ?_ ?_
          · simp only [List.take_succ_cons, List.take_zero]
            refine ⟨?_, ?_, ?_, ?_, ?_, ?_, ?_, ?_, ?_, ?_, ?_, trivial⟩
            all_goals intro vs W hC hd
            · clear hd hC
              simp only [QTail.putA, Nat.reduceAdd, Act.put, List.setIfInBounds_toArray, List.set_cons_succ, List.set_cons_zero]
              go_wp2
              exact ⟨RS.val (by decide) rfl, Below.refl _ _⟩
            · clear hd hC
              simp only [QTail.putA, Nat.reduceAdd, Act.put, List.setIfInBounds_toArray, List.set_cons_succ, List.set_cons_zero]
              go_wp2
              exact ⟨RS.val (by decide) rfl, Below.refl _ _⟩
            · have g0 : vs 0 = .slice (some ⟨RR, 0, none⟩) 2 2 := (hd { on := 0, ground := Ground.data } (by simp) rfl).1 (by decide)
              have g1 : vs 1 = .int .i64 tN := (hd { on := 1, ground := Ground.data } (by simp) rfl).1 (by decide)
              clear hd hC
              simp only [QTail.putA, Nat.reduceAdd, Act.put, List.setIfInBounds_toArray, List.set_cons_succ, List.set_cons_zero]
              go_wp2
              exact ⟨RS.val (by decide) rfl, Below.refl _ _⟩
            · have g2 : vs 2 = .pointer (some ⟨RR, tN * 2, none⟩) := (hd { on := 2, ground := Ground.data } (by simp) rfl).1 (by decide)
              clear hd hC
              simp only [QTail.putA, Nat.reduceAdd, Act.put, List.setIfInBounds_toArray, List.set_cons_succ, List.set_cons_zero]
              go_wp2
              exact ⟨RS.val (by decide) rfl, Below.refl _ _⟩
            · have g3 : vs 3 = .pointer (some ⟨RR, tN * 2 + 1, none⟩) := (hd { on := 3, ground := Ground.data } (by simp) rfl).1 (by decide)
              clear hd hC
              simp only [QTail.putA, Nat.reduceAdd, Act.put, List.setIfInBounds_toArray, List.set_cons_succ, List.set_cons_zero]
              go_wp2
              exact ⟨RS.val (by decide) rfl, Below.refl _ _⟩
            · have g4 : vs 4 = .pointer (some ⟨RR, tN * 2 + 1, none⟩) := (hd { on := 4, ground := Ground.data } (by simp) rfl).1 (by decide)
              have d3 := ac hC hd3.out
              clear hd hC
              simp only [QTail.putA, Nat.reduceAdd, Act.put, List.setIfInBounds_toArray, List.set_cons_succ, List.set_cons_zero]
              go_wp2
              exact ⟨RS.val (by decide) rfl, Below.refl _ _⟩
            · have z0 := ac hC (ix6.out 0 (by omega))
              have z1 := ac hC (ix6.out 1 (by omega))
              have z2 := ac hC (ix6.out 2 (by omega))
              have z3 := ac hC (ix6.out 3 (by omega))
              clear hd hC
              simp only [QTail.putA, Nat.reduceAdd, Act.put, List.setIfInBounds_toArray, List.set_cons_succ, List.set_cons_zero]
              go_wp2
              exact ⟨RS.val (by decide) rfl, Below.refl _ _⟩
            · clear hd hC
              simp only [QTail.putA, Nat.reduceAdd, Act.put, List.setIfInBounds_toArray, List.set_cons_succ, List.set_cons_zero]
              go_wp2
              exact ⟨RS.val (by decide) rfl, Below.refl _ _⟩
            · clear hd hC
              simp only [QTail.putA, Nat.reduceAdd, Act.put, List.setIfInBounds_toArray, List.set_cons_succ, List.set_cons_zero]
              go_wp2
              exact ⟨RS.val (by decide) rfl, Below.refl _ _⟩
            · have g7 : vs 7 = .int .i32 y0 := (hd { on := 7, ground := Ground.data } (by simp) rfl).1 (by decide)
              have g8 : vs 8 = .int .i32 locL := (hd { on := 8, ground := Ground.data } (by simp) rfl).1 (by decide)
              clear hd hC
              simp only [QTail.putA, Nat.reduceAdd, Act.put, List.setIfInBounds_toArray, List.set_cons_succ, List.set_cons_zero]
              go_wp2
              exact ⟨RS.new ⟨_, rfl, Seg.new _ [.int .i32 y0, .int .i32 locL] 21⟩, ba _ _⟩
            · have g6 : vs 6 = .agg #[.int .i64 (ixS cN 0), .int .i64 (ixS cN 1), .int .i64 (ixS cN 2), .int .i64 (ixS cN 3)] := (hd { on := 6, ground := Ground.data } (by simp) rfl).1 (by decide)
              obtain ⟨A, g9, hA⟩ := (hd { on := 9, ground := Ground.data } (by simp) rfl).2 rfl
              have hL4 : ∀ i, i < 2 → W.cell? ⟨A, i, none⟩ = some (.int .i32 (twoI y0 locL i)) := fun i hi => (match i, hi with | 0, _ => hA 0 _ rfl | 1, _ => hA 1 _ rfl)
              have C11 := Lib.hid (minloc_i (ixS cN) (twoI y0 locL) A 2 2 _ _ _ _ rfl rfl rfl rfl W (by omega) (fun i hi => by have := ixS_le cN i; omega) hL4)
              rw [← hy.out] at C11
              clear hd hC hL4 hA
              replace g9 : vs 9 = .slice (some ⟨A, 0, none⟩) 2 2 := g9
              simp only [QTail.putA, Nat.reduceAdd, Act.put, List.setIfInBounds_toArray, List.set_cons_succ, List.set_cons_zero]
              go_wp2_with (go_at_call 11; (with_reducible refine C11.out.mono ?_); rintro e w5 ⟨rfl, hb5⟩; replace hb5 := Lib.hid hb5)
              exact ⟨RS.val (by decide) rfl, hb5.out⟩
          · intro vs V7 b7 hR
            have g4 : vs 5 = .int .i32 y := (hR 5 (by omega)).1 (by decide)
            have g8 : vs 10 = .int .i32 y := (hR 10 (by omega)).1 (by decide)
            replace b7 := Lib.hid b7
            clear hR
            simp only [List.take_succ_cons, List.take_zero, List.drop_succ_cons, List.drop_zero, QTail.putA, Nat.reduceAdd, Act.put, List.setIfInBounds_toArray, List.set_cons_succ, List.set_cons_zero]
            rw [g4, g8]
            clear g4 g8
            generalize vs 0 = z0
            generalize vs 1 = z1
            generalize vs 2 = z2
            generalize vs 3 = z3
            generalize vs 4 = z4
            generalize vs 6 = z6
            generalize vs 7 = z7
            generalize vs 8 = z8
            generalize vs 9 = z9
            clear vs
            go_upto_region 52 with fail
            have B10 : Hid (Below W10.heap.size W10 V7) := Lib.hid (bV6.out.trans (b7.out.mono bV6.out.size))
            have kL11 : Hid (Seg V7 KL 0 [.int .i32 locL, .int .i32 22]) := Lib.hid ((kL4.out.only O10.out nK).after B10.out)
            have dQ11 := Lib.hid (hdn.out.dcl.after B10.out)
            have tk11 := Lib.hid (fun i hi => (hdn.out.tok i hi).after B10.out)
            have qc11 : Hid (∀ j, j < 4 → V7.cell? ⟨QP, j, none⟩ = some (.int .u8 (pS q cN x j))) := Lib.hid (fun j hj => ac b7.out (ac b46.out (qp4.out j hj)))
            obtain ⟨p, hp⟩ : ∃ p, p = pS q cN x := ⟨_, rfl⟩
            rw [← hp] at qc11 tk11 dQ11 hp4
            replace hp := Lib.hid hp
            have y0 : ∀ d os, (Sort.grow (redrawn V7 d) os).cell? ⟨KL, 0, none⟩ = some (.int .i32 locL) := fun d os => cell_regrown (kL11.out 0 _ rfl) d os
            have y1 : ∀ d os, (Sort.grow (redrawn V7 d) os).cell? ⟨KL, 1, none⟩ = some (.int .i32 22) := fun d os => cell_regrown (kL11.out 1 _ rfl) d os
            have y2 : ∀ d os, (Sort.grow (redrawn V7 d) os).cell? ⟨Q2, 1, none⟩ = some (.slice (some ⟨T2, 0, none⟩) (minN (p 0) (p 1) (p 2) (p 3)) cc2) := fun d os => cell_regrown (dQ11.out 1 _ rfl) d os
            have y3 : ∀ d os, (Sort.grow (redrawn V7 d) os).cell? ⟨QP, 0, none⟩ = some (.int .u8 (p 0)) := fun d os => cell_regrown (qc11.out 0 (by omega)) d os
            have y4 : ∀ d os, (Sort.grow (redrawn V7 d) os).cell? ⟨QP, 1, none⟩ = some (.int .u8 (p 1)) := fun d os => cell_regrown (qc11.out 1 (by omega)) d os
            have y5 : ∀ d os, (Sort.grow (redrawn V7 d) os).cell? ⟨QP, 2, none⟩ = some (.int .u8 (p 2)) := fun d os => cell_regrown (qc11.out 2 (by omega)) d os
            have y6 : ∀ d os, (Sort.grow (redrawn V7 d) os).cell? ⟨QP, 3, none⟩ = some (.int .u8 (p 3)) := fun d os => cell_regrown (qc11.out 3 (by omega)) d os
            have C12 := Lib.hid (fun d os => declIs_c Q2 _ locL 22 imp (Sort.grow (redrawn V7 d) os) (dQ11.out.after (below_regrown V7 d os)))
            have hq4 : ∀ i, i < 4 → 0 ≤ qI (p 0) (p 1) (p 2) (p 3) i ∧ qI (p 0) (p 1) (p 2) (p 3) i ≤ 255 := fun i hi => (by
              have := hp4.out i hi
              rw [qI_self p i hi]; omega)
            have C13 := Lib.hid (fun d os => value_c T2 _ cc2 (p 0) (p 1) (p 2) (p 3) m _ (Sort.grow (redrawn V7 d) os) rfl (fun i hi => ⟨(tk11.out i hi).after (below_regrown V7 d os), rfl, rfl, rfl, rfl⟩) hq4)
            clear hq4
            refine drawn_tail 14 (by kernel_rfl) (by kernel_rfl) (by kernel_rfl) (fun Q' hQ' => ?_)
            simp only [List.take_succ_cons, List.take_zero, List.drop_succ_cons, List.drop_zero]
            repeat (quiet_step (first | exact Calls.regrown_of (C12.out _ _) | exact Calls.regrown_of (C13.out _ _)))
            refine wpQuiet_nil ?_
            intro W12 hw
            have b12 : Hid (Below V7.heap.size V7 W12) := Lib.hid (by
              obtain ⟨⟨d, os⟩, rfl⟩ := hw
              exact below_regrown _ d os)
            clear hw y0 y1 y2 y3 y4 y5 y6
            have bF : Hid (Below w.heap.size w W12) := Lib.hid (by
              have h1 := bw4.out.trans (O10.out.below w.heap.size bw4.out.size (fun z e => by omega))
              have h2 := h1.trans (B10.out.mono h1.size)
              exact h2.trans (b12.out.mono h2.size))
            go_wp2
            go_ret
            exact ⟨rfl, bF.out⟩
        · go_upto_region 19 with (first | ((with_reducible refine wpList_at (o := ⟨none, .store 46 (.tmp 86) (.tmp 85), _, _, _, _⟩) ?_); refine wpList_store_room (op := ⟨none, .store 46 (.tmp 86) (.tmp 85), _, _, _, _⟩) rfl 46 (.tmp 86) (.tmp 85) rfl RR 0 4 [.iface 36 (.pointer (some ⟨LD, 0, none⟩)), .int .i32 locL] rr4.out (by show _ + 2 ≤ 4; omega) rfl rfl (i46 _ _) (rule_one _ rfl _) ?_; intro W5 hW5; have rr5 : Hid (Room W5 RR 4) := Lib.hid (by rw [hW5]; exact Room.setCells _ _ _ _ rr4.out); replace hW5 := Lib.hid hW5) | ((with_reducible refine wpList_at (o := ⟨none, .store 46 (.tmp 93) (.tmp 92), _, _, _, _⟩) ?_); refine wpList_store_room (op := ⟨none, .store 46 (.tmp 93) (.tmp 92), _, _, _, _⟩) rfl 46 (.tmp 93) (.tmp 92) rfl RR 2 4 [.iface 36 (.pointer (some ⟨SD, 0, none⟩)), .int .i32 locS] rr5.out (by show _ + 2 ≤ 4; omega) rfl rfl (i46 _ _) (rule_one _ rfl _) ?_; intro W6 hW6))
          obtain ⟨rl, ol⟩ := Rul.two rr4.out hW5.out hW6
          replace rl := Lib.hid rl
          replace ol := Lib.hid ol
          clear hW5 hW6
          have t6 : Hid (Trk W6 TR (fun _ => Cn0) false) := Lib.hid (t4.out.only ol.out (by omega))
          have C7 := Lib.hid (w7 #[] ⟨TR, 0, none⟩ (.slice (some ⟨RR, 0, none⟩) 1 2) ⟨LD, 0, none⟩ m cN W6 _ (fr_c TR RR 1 2 2 LD TL 1 cN false imp m x ⟨#[]⟩ locL 22 0 _ _ W6 t6.out rl.out (sL4.out.only ol.out (by omega)) ((tL4.out.seg rfl).only ol.out (by omega) |>.tat rfl) ⟨x0, hx4⟩ hc4 (by omega) (by omega) (by omega) (by omega) (by omega) (by omega) (by omega)) (fun e w' h => h.1))
          go_upto_region 20 with (go_at_call 7; (with_reducible refine C7.out.mono ?_); rintro e W7 ⟨rfl, t7, r7, o7⟩; replace t7 := Lib.hid t7; replace r7 := Lib.hid r7; replace o7 := Lib.hid o7)
          have O7 : Hid (Only (fun z => z = TR ∨ z = RR) W4 W7) := Lib.hid ((ol.out.wide (fun _ e => .inr e)).trans o7.out)
          have nS : ¬ (S = TR ∨ S = RR) := by omega
          have nD : ¬ (SD = TR ∨ SD = RR) := by omega
          have C8 := Lib.hid (w8 #[] ⟨TR, 0, none⟩ (.slice (some ⟨RR, 0, none⟩) 2 2) ⟨SD, 0, none⟩ m W7 _ (sh_c TR RR 2 2 2 SD S 4 _ imp imp m q ⟨#[]⟩ locS 13 0 (dkL .nilIface cN (two (.iface 36 (.pointer (some ⟨LD, 0, none⟩))) (.iface 36 (.pointer (some ⟨SD, 0, none⟩))))) (dkL 0 cN (twoI locL locS)) W7 t7.out (.inl rfl) (by rw [dkL_0, dkL_0]; exact r7.out) (sD4.out.only O7.out nD) (fun i hi => (sS4.out i hi).only O7.out nS) hq04.out (by omega) (by omega) (by omega) (by omega) (by omega) (by omega) (by omega) (by omega) (fun k hk => lf_up cN x ⟨x0, hx4⟩ q _ _ k hk)) (fun e w' h => h.1))
          go_upto_region 21 with (go_at_call 8; (with_reducible refine C8.out.mono ?_); rintro e W8 ⟨rfl, Q, T, cc, hdn⟩; replace hdn := Lib.hid hdn)
          have O8 : Hid (Only (fun z => z = TR ∨ z = RR) W4 W8) := Lib.hid (O7.out.trans hdn.out.only)
          have hQ7 : W7.heap.size ≤ Q := hdn.out.qn
          have h47 : W4.heap.size ≤ W7.heap.size := O7.out.size
          have hR4 : TR < W4.heap.size := l4.out
          have hQSD : ¬ Q = SD := by omega
          have hQLD : ¬ Q = LD := by omega
          have f0 := lf_0 cN hc4 (two (.iface 36 (.pointer (some ⟨LD, 0, none⟩))) (.iface 36 (.pointer (some ⟨SD, 0, none⟩)))) (twoI locL locS) Q
          have f1 := lf_1 cN (two (.iface 36 (.pointer (some ⟨LD, 0, none⟩))) (.iface 36 (.pointer (some ⟨SD, 0, none⟩)))) (twoI locL locS) Q 0 locS rfl
          obtain ⟨y, hy⟩ : ∃ y, y = mnF (fun _ => 1) (twoI 0 locS) 4 := ⟨_, rfl⟩
          rw [← hy] at f1
          have c0 : Hid (W8.cell? ⟨RR, 0, none⟩ = some .nilIface) := Lib.hid (by have := hdn.out.rul.d 0 (by omega); rw [f0.1] at this; exact this)
          have c1 : Hid (W8.cell? ⟨RR, 1, none⟩ = some (.int .i32 0)) := Lib.hid (by have := hdn.out.rul.l 0 (by omega); rw [f0.2] at this; exact this)
          have c2 : Hid (W8.cell? ⟨RR, 2, none⟩ = some (.iface 36 (.pointer (some ⟨Q, 0, none⟩)))) := Lib.hid (by have := hdn.out.rul.d 1 (by omega); rw [f1.1] at this; exact this)
          have c3 : Hid (W8.cell? ⟨RR, 3, none⟩ = some (.int .i32 y)) := Lib.hid (by have := hdn.out.rul.l 1 (by omega); rw [f1.2] at this; exact this)
          replace hy := Lib.hid hy
          clear f0 f1 C7 C8
          have C9 := Lib.hid (gone_i RR 2 2 0 0 rfl W8 (by omega) (by omega) c0.out c1.out)
          go_upto_region 23 with (go_at_call 9; (with_reducible refine C9.out.mono ?_); rintro e W9 ⟨rfl, b9⟩; replace b9 := Lib.hid b9)
          have d2 := ac b9.out c2.out
          have d3 := ac b9.out c3.out
          have C10 := Lib.hid (fun w => declOf_c ⟨Q, 0, none⟩ y w)
          go_upto_region 24 with (go_at_call 10; (with_reducible refine (C10.out _).mono ?_); rintro e W10 ⟨rfl, b10⟩; replace b10 := Lib.hid b10)
          clear d2 d3 c0 c1
          have B8 : Hid (Below W8.heap.size W8 W10) := Lib.hid (b9.out.trans (b10.out.mono b9.out.size))
          have hQ8 : Q < W8.heap.size := block_lt_of_cell (hdn.out.dcl 0 _ rfl)
          have oQ : W10.heap[Q]? = _ := (B8.out.block Q hQ8).trans hdn.out.obj
          have oSD : W10.heap[SD]? = _ := (B8.out.block SD (by have := O8.out.size; omega)).trans (((O8.out.below (SD + 1) (by omega) (fun z e => by omega)).block SD (by omega)).trans oS4.out)
          have oLD : W10.heap[LD]? = _ := (B8.out.block LD (by have := O8.out.size; omega)).trans (((O8.out.below (LD + 1) (by omega) (fun z e => by omega)).block LD (by omega)).trans oL4.out)
          have E1 := ptr_ne W10 hQSD oQ oSD
          have E2 := ptr_ne W10 hQLD oQ oLD
          clear oQ oSD oLD
          go_upto_region 26 with fail
          clear E1 E2
          have d3 : W10.cell? ⟨RR, 3, none⟩ = some (.int .i32 y) := ac b10.out (ac b9.out c3.out)
          have hd3 := Lib.hid d3
          clear d3
          refine QTail.drawn_rel 9 (RS (fun i => ([.slice (some ⟨RR, 0, none⟩) 2 2, .pointer (some ⟨RR, 2, none⟩), .pointer (some ⟨RR, 3, none⟩), .pointer (some ⟨RR, 3, none⟩), .int .i32 y, .agg #[.int .i64 1, .int .i64 1, .int .i64 1, .int .i64 1], .int .i32 locS, undef, .int .i32 y] : List Value).getD i undef) 7 [.int .i32 0, .int .i32 locS]) (by kernel_rfl) (by kernel_rfl) (fun i v W W' h1 h2 => RS.after i v W W' h1 h2) ?_ ?_
          · simp only [List.take_succ_cons, List.take_zero]
            refine ⟨?_, ?_, ?_, ?_, ?_, ?_, ?_, ?_, ?_, trivial⟩
            all_goals intro vs W hC hd
            · clear hd hC
              simp only [QTail.putA, Nat.reduceAdd, Act.put, List.setIfInBounds_toArray, List.set_cons_succ, List.set_cons_zero]
              go_wp2
              exact ⟨RS.val (by decide) rfl, Below.refl _ _⟩
            · have g : vs 0 = .slice (some ⟨RR, 0, none⟩) 2 2 := (hd { on := 0, ground := Ground.data } (by simp) rfl).1 (by decide)
              clear hd hC
              simp only [QTail.putA, Nat.reduceAdd, Act.put, List.setIfInBounds_toArray, List.set_cons_succ, List.set_cons_zero]
              go_wp2
              exact ⟨RS.val (by decide) rfl, Below.refl _ _⟩
            · have g : vs 1 = .pointer (some ⟨RR, 2, none⟩) := (hd { on := 1, ground := Ground.data } (by simp) rfl).1 (by decide)
              clear hd hC
              simp only [QTail.putA, Nat.reduceAdd, Act.put, List.setIfInBounds_toArray, List.set_cons_succ, List.set_cons_zero]
              go_wp2
              exact ⟨RS.val (by decide) rfl, Below.refl _ _⟩
            · have g : vs 2 = .pointer (some ⟨RR, 3, none⟩) := (hd { on := 2, ground := Ground.data } (by simp) rfl).1 (by decide)
              clear hd hC
              simp only [QTail.putA, Nat.reduceAdd, Act.put, List.setIfInBounds_toArray, List.set_cons_succ, List.set_cons_zero]
              go_wp2
              exact ⟨RS.val (by decide) rfl, Below.refl _ _⟩
            · have g : vs 3 = .pointer (some ⟨RR, 3, none⟩) := (hd { on := 3, ground := Ground.data } (by simp) rfl).1 (by decide)
              have d3 := ac hC hd3.out
              clear hd hC
              simp only [QTail.putA, Nat.reduceAdd, Act.put, List.setIfInBounds_toArray, List.set_cons_succ, List.set_cons_zero]
              go_wp2
              exact ⟨RS.val (by decide) rfl, Below.refl _ _⟩
            · clear hd hC
              simp only [QTail.putA, Nat.reduceAdd, Act.put, List.setIfInBounds_toArray, List.set_cons_succ, List.set_cons_zero]
              go_wp2
              exact ⟨RS.val (by decide) rfl, Below.refl _ _⟩
            · clear hd hC
              simp only [QTail.putA, Nat.reduceAdd, Act.put, List.setIfInBounds_toArray, List.set_cons_succ, List.set_cons_zero]
              go_wp2
              exact ⟨RS.val (by decide) rfl, Below.refl _ _⟩
            · have g : vs 6 = .int .i32 locS := (hd { on := 6, ground := Ground.data } (by simp) rfl).1 (by decide)
              clear hd hC
              simp only [QTail.putA, Nat.reduceAdd, Act.put, List.setIfInBounds_toArray, List.set_cons_succ, List.set_cons_zero]
              go_wp2
              exact ⟨RS.new ⟨_, rfl, Seg.new _ [.int .i32 0, .int .i32 locS] 21⟩, ba _ _⟩
            · have g : vs 5 = .agg #[.int .i64 1, .int .i64 1, .int .i64 1, .int .i64 1] := (hd { on := 5, ground := Ground.data } (by simp) rfl).1 (by decide)
              obtain ⟨A, g7, hA⟩ := (hd { on := 7, ground := Ground.data } (by simp) rfl).2 rfl
              have hL4 : ∀ i, i < 2 → W.cell? ⟨A, i, none⟩ = some (.int .i32 (twoI 0 locS i)) := fun i hi => (match i, hi with | 0, _ => hA 0 _ rfl | 1, _ => hA 1 _ rfl)
              have C11 := Lib.hid (minloc_i (fun _ => 1) (twoI 0 locS) A 2 2 1 1 1 1 rfl rfl rfl rfl W (by omega) (fun i hi => by omega) hL4)
              rw [← hy.out] at C11
              clear hd hC hL4 hA
              replace g7 : vs 7 = .slice (some ⟨A, 0, none⟩) 2 2 := g7
              simp only [QTail.putA, Nat.reduceAdd, Act.put, List.setIfInBounds_toArray, List.set_cons_succ, List.set_cons_zero]
              go_wp2_with (go_at_call 11; (with_reducible refine C11.out.mono ?_); rintro e w5 ⟨rfl, hb5⟩; replace hb5 := Lib.hid hb5)
              exact ⟨RS.val (by decide) rfl, hb5.out⟩
          · intro vs W11 b11 hR
            have g4 : vs 4 = .int .i32 y := (hR 4 (by omega)).1 (by decide)
            have g8 : vs 8 = .int .i32 y := (hR 8 (by omega)).1 (by decide)
            replace b11 := Lib.hid b11
            clear hR
            simp only [List.take_succ_cons, List.take_zero, List.drop_succ_cons, List.drop_zero, QTail.putA, Nat.reduceAdd, Act.put, List.setIfInBounds_toArray, List.set_cons_succ, List.set_cons_zero]
            rw [g4, g8]
            clear g4 g8
            generalize vs 0 = z0
            generalize vs 1 = z1
            generalize vs 2 = z2
            generalize vs 3 = z3
            generalize vs 5 = z5
            generalize vs 6 = z6
            generalize vs 7 = z7
            clear vs
            go_upto_region 28 with fail
            have B81 : Hid (Below W8.heap.size W8 W11) := Lib.hid (B8.out.trans (b11.out.mono B8.out.size))
            have nP : ¬ (Pq = TR ∨ Pq = RR) := by omega
            have nK : ¬ (KS = TR ∨ KS = RR) := by omega
            have kS11 : Hid (Seg W11 KS 0 [.int .i32 locS, .int .i32 13]) := Lib.hid ((kS4.out.only O8.out nK).after B81.out)
            have dQ11 := Lib.hid (hdn.out.dcl.after B81.out)
            have tk11 := Lib.hid (fun i hi => (hdn.out.tok i hi).after B81.out)
            have qc11 : Hid (∀ j, j < 4 → W11.cell? ⟨Pq, j, none⟩ = some (.int .u8 (q j))) := Lib.hid (fun j hj => ac B81.out (O8.out.keep (q4c.out j hj) nP))
            have y0 : ∀ d os, (Sort.grow (redrawn W11 d) os).cell? ⟨KS, 0, none⟩ = some (.int .i32 locS) := fun d os => cell_regrown (kS11.out 0 _ rfl) d os
            have y1 : ∀ d os, (Sort.grow (redrawn W11 d) os).cell? ⟨KS, 1, none⟩ = some (.int .i32 13) := fun d os => cell_regrown (kS11.out 1 _ rfl) d os
            have y2 : ∀ d os, (Sort.grow (redrawn W11 d) os).cell? ⟨Q, 1, none⟩ = some (.slice (some ⟨T, 0, none⟩) (minN (q 0) (q 1) (q 2) (q 3)) cc) := fun d os => cell_regrown (dQ11.out 1 _ rfl) d os
            have y3 : ∀ d os, (Sort.grow (redrawn W11 d) os).cell? ⟨Pq, 0, none⟩ = some (.int .u8 (q 0)) := fun d os => cell_regrown (qc11.out 0 (by omega)) d os
            have y4 : ∀ d os, (Sort.grow (redrawn W11 d) os).cell? ⟨Pq, 1, none⟩ = some (.int .u8 (q 1)) := fun d os => cell_regrown (qc11.out 1 (by omega)) d os
            have y5 : ∀ d os, (Sort.grow (redrawn W11 d) os).cell? ⟨Pq, 2, none⟩ = some (.int .u8 (q 2)) := fun d os => cell_regrown (qc11.out 2 (by omega)) d os
            have y6 : ∀ d os, (Sort.grow (redrawn W11 d) os).cell? ⟨Pq, 3, none⟩ = some (.int .u8 (q 3)) := fun d os => cell_regrown (qc11.out 3 (by omega)) d os
            have C12 := Lib.hid (fun d os => declIs_c Q _ locS 13 imp (Sort.grow (redrawn W11 d) os) (dQ11.out.after (below_regrown W11 d os)))
            have hq4 : ∀ i, i < 4 → 0 ≤ qI (q 0) (q 1) (q 2) (q 3) i ∧ qI (q 0) (q 1) (q 2) (q 3) i ≤ 255 := fun i hi => (by
              have := hq04.out i hi
              rw [qI_self q i hi]; omega)
            have C13 := Lib.hid (fun d os => value_c T _ cc (q 0) (q 1) (q 2) (q 3) m _ (Sort.grow (redrawn W11 d) os) rfl (fun i hi => ⟨(tk11.out i hi).after (below_regrown W11 d os), rfl, rfl, rfl, rfl⟩) hq4)
            clear hq4
            refine drawn_tail 14 (by kernel_rfl) (by kernel_rfl) (by kernel_rfl) (fun Q' hQ' => ?_)
            simp only [List.take_succ_cons, List.take_zero, List.drop_succ_cons, List.drop_zero]
            repeat (quiet_step (first | exact Calls.regrown_of (C12.out _ _) | exact Calls.regrown_of (C13.out _ _)))
            refine wpQuiet_nil ?_
            intro W12 hw
            have b12 : Hid (Below W11.heap.size W11 W12) := Lib.hid (by
              obtain ⟨⟨d, os⟩, rfl⟩ := hw
              exact below_regrown _ d os)
            clear hw y0 y1 y2 y3 y4 y5 y6
            have bF : Hid (Below w.heap.size w W12) := Lib.hid (by
              have h1 := bw4.out.trans (O8.out.below w.heap.size bw4.out.size (fun z e => by omega))
              have h2 := h1.trans (B81.out.mono h1.size)
              exact h2.trans (b12.out.mono h2.size))
            go_wp2
            go_ret
            exact ⟨rfl, bF.out⟩
end Go.Proofs.YthdogpahkglaoaaDoor
