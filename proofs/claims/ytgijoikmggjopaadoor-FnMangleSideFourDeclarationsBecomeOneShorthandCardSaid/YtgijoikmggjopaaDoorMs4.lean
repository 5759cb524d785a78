/- FnMangleSide: compactRules. -/
import Derived.Test.YtgijoikmggjopaaDoorMs2
import Derived.Test.YtgijoikmggjopaaDoorMs3
import Derived.BigRegion
set_option linter.unusedVariables false
set_option linter.unusedSimpArgs false
namespace Go.Proofs.YtgijoikmggjopaaDoor
open Go.RowKit
/-- a token's cells; it has no children -/
abbrev tkL (t : Tk) : List Value := [.pointer none, .string t.tx, .int .i32 t.lo, .int .u32 t.pl, .int .u16 t.uo, .int .u8 t.kd, .int .u8 t.ws]
theorem TAt.seg {w : World} {T o : Nat} {t : Tk} (h : TAt w T o t) (hc : t.ch = .pointer none) : Seg w T o (tkL t) := fun j v hj => by
  obtain ⟨c0, c1, c2, c3, c4, c5, c6⟩ := h
  match j, hj with
  | 0, hj => cases hj; rw [← hc]; exact c0
  | 1, hj => cases hj; exact c1
  | 2, hj => cases hj; exact c2
  | 3, hj => cases hj; exact c3
  | 4, hj => cases hj; exact c4
  | 5, hj => cases hj; exact c5
  | 6, hj => cases hj; exact c6
theorem Seg.tat {w : World} {T o : Nat} {t : Tk} (h : Seg w T o (tkL t)) (hc : t.ch = .pointer none) : TAt w T o t :=
  ⟨by rw [hc]; exact h 0 _ rfl, h 1 _ rfl, h 2 _ rfl, h 3 _ rfl, h 4 _ rfl, h 5 _ rfl, h 6 _ rfl⟩
theorem Seg.cast {w : World} {T o o' : Nat} {vs : List Value} (h : Seg w T o vs) (e : o = o') : Seg w T o' vs := e ▸ h
def seenB (ix : Nat → Nat) (i : Nat) (j : Nat) : Bool := (List.range j).any fun j => decide (ix j = ix i)
theorem seenB_succ (ix : Nat → Nat) (i j : Nat) : seenB ix i (j + 1) = (seenB ix i j || decide (ix j = ix i)) := by
  unfold seenB
  rw [List.range_succ, List.any_append]
  simp
/-- the place of corner i's rule, 0 where it was met before -/
def lF (ix : Nat → Nat) (L : Nat → Int) (i : Nat) : Int := if seenB ix i i = true then 0 else L (ix i)
def mnF (ix : Nat → Nat) (L : Nat → Int) : Nat → Int
  | 0 => 0
  | i + 1 => if i = 0 ∨ lF ix L i < mnF ix L i then lF ix L i else mnF ix L i
/-- the rules at R -/
structure Rul (w : World) (R n : Nat) (D : Nat → Value) (L : Nat → Int) : Prop where
  d : ∀ j, j < n → w.cell? ⟨R, j * 2, none⟩ = some (D j)
  l : ∀ j, j < n → w.cell? ⟨R, j * 2 + 1, none⟩ = some (.int .i32 (L j))
  room : Room w R (n * 2)
theorem Rul.after {w w' : World} {R n : Nat} {D : Nat → Value} {L : Nat → Int} (h : Rul w R n D L) (hb : Below w.heap.size w w') : Rul w' R n D L := ⟨fun j hj => ac hb (h.d j hj), fun j hj => ac hb (h.l j hj), h.room.after hb⟩
theorem Rul.only {S : Nat → Prop} {w w' : World} {R n : Nat} {D : Nat → Value} {L : Nat → Int} (h : Rul w R n D L) (ho : Only S w w') (hs : ¬ S R) : Rul w' R n D L := ⟨fun j hj => ho.keep (h.d j hj) hs, fun j hj => ho.keep (h.l j hj) hs, ho.room h.room hs⟩
theorem Rul.set {w : World} {R n k : Nat} {D : Nat → Value} {L : Nat → Int} (h : Rul w R n D L) (hk : k < n) (v : Value) (x : Int) : Rul ((w.setCell ⟨R, k * 2, none⟩ v).setCell ⟨R, k * 2 + 1, none⟩ (.int .i32 x)) R n (fun j => if j = k then v else D j) (fun j => if j = k then x else L j) := by
  refine ⟨fun j hj => ?_, fun j hj => ?_, (h.room.set _ _).set _ _⟩
  · rw [co (by intro e; injection e; omega)]
    by_cases e : j = k
    · subst e; rw [if_pos rfl]; exact cs (h.d j hj)
    · rw [if_neg e, co (by intro e; injection e; omega)]; exact h.d j hj
  · by_cases e : j = k
    · subst e; rw [if_pos rfl]; exact cs (u := .int .i32 (L j)) (by rw [co (by intro e; injection e; omega)]; exact h.l j hj)
    · rw [if_neg e, co (by intro e; injection e; omega), co (by intro e; injection e; omega)]; exact h.l j hj
def sn (ix : Nat → Nat) (i j : Nat) : Bool := (List.range i).any fun k => decide (ix k = j)
theorem sn_succ (ix : Nat → Nat) (i j : Nat) : sn ix (i + 1) j = (sn ix i j || decide (ix i = j)) := by
  unfold sn
  rw [List.range_succ, List.any_append]
  simp
def clrD (ix : Nat → Nat) (D : Nat → Value) (i j : Nat) : Value := if sn ix i j = true then .nilIface else D j
def clrL (ix : Nat → Nat) (L : Nat → Int) (i j : Nat) : Int := if sn ix i j = true then 0 else L j
theorem clrL_lF (ix : Nat → Nat) (L : Nat → Int) (i : Nat) : clrL ix L i (ix i) = lF ix L i := rfl
theorem Rul.clear {w : World} {R n i : Nat} {ix : Nat → Nat} {D : Nat → Value} {L : Nat → Int} (h : Rul w R n (clrD ix D i) (clrL ix L i)) (hk : ix i < n) : Rul ((w.setCell ⟨R, ix i * 2, none⟩ .nilIface).setCell ⟨R, ix i * 2 + 1, none⟩ (.int .i32 0)) R n (clrD ix D (i + 1)) (clrL ix L (i + 1)) := by
  have := h.set hk .nilIface 0
  refine ⟨fun j hj => ?_, fun j hj => ?_, this.room⟩
  · rw [this.d j hj]
    congr 1
    unfold clrD
    rw [sn_succ]
    by_cases e : j = ix i
    · rw [if_pos e, if_pos (by simp [e])]
    · rw [if_neg e]
      have : decide (ix i = j) = false := by simpa using fun h => e h.symm
      rw [this, Bool.or_false]
  · rw [this.l j hj]
    congr 2
    unfold clrL
    rw [sn_succ]
    by_cases e : j = ix i
    · rw [if_pos e, if_pos (by simp [e])]
    · rw [if_neg e]
      have : decide (ix i = j) = false := by simpa using fun h => e h.symm
      rw [this, Bool.or_false]
theorem pick_ch {a b c d : Tk} (ha : a.ch = .pointer none) (hb : b.ch = .pointer none) (hc : c.ch = .pointer none) (hd : d.ch = .pointer none) (i : Nat) : (pick4 a b c d i).ch = .pointer none := by
  unfold pick4
  repeat' split
  all_goals assumption
theorem kMin_le (a b c d : Tk) : kMin a b c d ≤ 4 := by
  unfold kMin
  repeat' split
  all_goals omega
abbrev tkV (t : Tk) : Value := .agg #[.pointer none, .string t.tx, .int .i32 t.lo, .int .u32 t.pl, .int .u16 t.uo, .int .u8 t.kd, .int .u8 t.ws]
theorem tkV_eq {t : Tk} (h : t.ch = .pointer none) : t.val = tkV t := by
  show Value.agg #[t.ch, _, _, _, _, _, _] = _
  rw [h]
def QQ (a b c d : Tk) (m : Bool) (k T : Nat) (w w' : World) : Prop := w.heap.size ≤ T ∧ T < w'.heap.size ∧ (∀ i, i < k → TAt w' T (i * 7) { pick4 a b c d i with ws := wsF i k m }) ∧ Room w' T 28 ∧ Below w.heap.size w w'
def QK (a b c d : Tk) (m : Bool) (k : Nat) (w : World) (e : Ending) (w' : World) : Prop := ∃ T, e = .returned (.slice (some ⟨T, 0, none⟩) k 4) ∧ QQ a b c d m k T w w'
theorem quad_k (a b c d : Tk) (m : Bool) (k : Nat) (hk : k = kMin a b c d) (ha : a.ch = .pointer none) (hb : b.ch = .pointer none) (hc : c.ch = .pointer none) (hd : d.ch = .pointer none) (w : World) :
    Calls Tryd.prog 29 #[tkV a, tkV b, tkV c, tkV d, .bool m] w (QK a b c d m k w) := by
  have := quad_c a b c d m ha hb hc hd w
  rw [tkV_eq ha, tkV_eq hb, tkV_eq hc, tkV_eq hd] at this
  subst hk
  exact this
/-- the four sides, as cells -/
def trk4 (F : Nat → Sd) : List Value := cnL (F 0) ++ (cnL (F 1) ++ (cnL (F 2) ++ cnL (F 3)))
theorem i63 (F : Nat → Sd) : (Tryd.prog.info? 63).map (·.size) = some (trk4 F).length := (by kernel_rfl : (Tryd.prog.info? 63).map (·.size) = some 44)
theorem Trk.seg {w : World} {b : Nat} {F : Nat → Sd} {kt : ByteArray} {al imp : Bool} {ky : Int} (h : Trk w b F kt al imp ky) : Seg w b 1 (trk4 F) := by
  intro j v hj
  unfold trk4 at hj
  have hl : j < 44 := by have := (List.getElem?_eq_some_iff.1 hj).1; simpa using this
  by_cases c1 : j < 11
  · rw [List.getElem?_append_left (by simpa using c1)] at hj; have := h.cn 0 (by omega) j v hj; rwa [Nat.zero_mul, Nat.add_zero] at this
  rw [List.getElem?_append_right (by simpa using c1)] at hj
  by_cases c2 : j < 22
  · rw [List.getElem?_append_left (by simp; omega)] at hj; have := h.cn 1 (by omega) _ v hj; rw [← this]; congr 2; simp; omega
  rw [List.getElem?_append_right (by simp; omega)] at hj
  by_cases c3 : j < 33
  · rw [List.getElem?_append_left (by simp; omega)] at hj; have := h.cn 2 (by omega) _ v hj; rw [← this]; congr 2; simp; omega
  rw [List.getElem?_append_right (by simp; omega)] at hj
  have := h.cn 3 (by omega) _ v hj; rw [← this]; congr 2; simp; omega
theorem ix63_0 (F : Nat → Sd) (w : World) : (Instr.index 63 (.agg (trk4 F).toArray) (.int .i64 0)).run Tryd.prog w = .ok (.agg (cnL (F 0)).toArray) w := by kernel_rfl
theorem ix63_1 (F : Nat → Sd) (w : World) : (Instr.index 63 (.agg (trk4 F).toArray) (.int .i64 1)).run Tryd.prog w = .ok (.agg (cnL (F 1)).toArray) w := by kernel_rfl
theorem ix63_2 (F : Nat → Sd) (w : World) : (Instr.index 63 (.agg (trk4 F).toArray) (.int .i64 2)).run Tryd.prog w = .ok (.agg (cnL (F 2)).toArray) w := by kernel_rfl
theorem ix63_3 (F : Nat → Sd) (w : World) : (Instr.index 63 (.agg (trk4 F).toArray) (.int .i64 3)).run Tryd.prog w = .ok (.agg (cnL (F 3)).toArray) w := by kernel_rfl
/-- the loop over the corners: i rules are gone -/
structure LP (W : World) (R n M : Nat) (ix : Nat → Nat) (D : Nat → Value) (L : Nat → Int) (i : Nat) (wr : World) : Prop where
  only : Only (fun z => z = R ∨ z = M) W wr
  rul : Rul wr R n (clrD ix D i) (clrL ix L i)
  mc : wr.cell? ⟨M, 0, none⟩ = some (.int .i32 (mnF ix L i))
  mr : Room wr M 1
theorem LP.keep {W : World} {R n M : Nat} {ix : Nat → Nat} {D : Nat → Value} {L : Nat → Int} {i : Nat} {v V V' : World} (h : LP W R n M ix D L i v) (hb : Below v.heap.size v V) (hi : ix i < n) (hRM : R ≠ M) (hc : ¬ (i = 0 ∨ lF ix L i < mnF ix L i)) (hV : V' = (V.setCell ⟨R, ix i * 2, none⟩ .nilIface).setCell ⟨R, ix i * 2 + 1, none⟩ (.int .i32 0)) : LP W R n M ix D L (i + 1) V' := by
  subst hV
  refine ⟨((h.only.trans (Only.of hb)).set _ _ (.inl rfl)).set _ _ (.inl rfl), (h.rul.after hb).clear hi, ?_, ((h.mr.after hb).setA _ _).setA _ _⟩
  rw [co (by intro e; injection e; omega), co (by intro e; injection e; omega), ac hb h.mc]
  show _ = some (Value.int .i32 (if i = 0 ∨ lF ix L i < mnF ix L i then lF ix L i else mnF ix L i))
  rw [if_neg hc]
theorem LP.take {W : World} {R n M : Nat} {ix : Nat → Nat} {D : Nat → Value} {L : Nat → Int} {i : Nat} {v V V' : World} (h : LP W R n M ix D L i v) (hb : Below v.heap.size v V) (hi : ix i < n) (hRM : R ≠ M) (hc : i = 0 ∨ lF ix L i < mnF ix L i) (hV : V' = ((V.setCell ⟨M, 0, none⟩ (.int .i32 (lF ix L i))).setCell ⟨R, ix i * 2, none⟩ .nilIface).setCell ⟨R, ix i * 2 + 1, none⟩ (.int .i32 0)) : LP W R n M ix D L (i + 1) V' := by
  subst hV
  have o1 : Only (fun z => z = M) V (V.setCell ⟨M, 0, none⟩ (.int .i32 (lF ix L i))) := (Only.refl _).set _ _ rfl
  refine ⟨(((h.only.trans (Only.of hb)).set _ _ (.inr rfl)).set _ _ (.inl rfl)).set _ _ (.inl rfl), ((h.rul.after hb).only o1 hRM).clear hi, ?_, (((h.mr.after hb).setA _ _).setA _ _).setA _ _⟩
  rw [co (by intro e; injection e; omega), co (by intro e; injection e; omega), cs (ac hb h.mc)]
  show _ = some (Value.int .i32 (if i = 0 ∨ lF ix L i < mnF ix L i then lF ix L i else mnF ix L i))
  rw [if_pos hc]
/-- the rules at the end -/
def finD (ix : Nat → Nat) (D : Nat → Value) (Q j : Nat) : Value := if j = ix 3 then .iface 32 (.pointer (some ⟨Q, 0, none⟩)) else clrD ix D 4 j
def finL (ix : Nat → Nat) (L : Nat → Int) (j : Nat) : Int := if j = ix 3 then mnF ix L 4 else clrL ix L 4 j
theorem LP.done {W : World} {R n M : Nat} {ix : Nat → Nat} {D : Nat → Value} {L : Nat → Int} {v V : World} (h : LP W R n M ix D L 4 v) (hb : Below v.heap.size v V) (hi : ix 3 < n) (hRM : R ≠ M) (Q : Nat) : Only (fun z => z = R ∨ z = M) W ((V.setCell ⟨R, ix 3 * 2, none⟩ (.iface 32 (.pointer (some ⟨Q, 0, none⟩)))).setCell ⟨R, ix 3 * 2 + 1, none⟩ (.int .i32 (mnF ix L 4))) ∧ Rul ((V.setCell ⟨R, ix 3 * 2, none⟩ (.iface 32 (.pointer (some ⟨Q, 0, none⟩)))).setCell ⟨R, ix 3 * 2 + 1, none⟩ (.int .i32 (mnF ix L 4))) R n (finD ix D Q) (finL ix L) :=
  ⟨((h.only.trans (Only.of hb)).set _ _ (.inl rfl)).set _ _ (.inl rfl), (h.rul.after hb).set hi _ _⟩
abbrev dcL (kt : ByteArray) (v : Value) (lo len key : Int) (imp : Bool) : List Value := [.string kt, v, .int .i32 lo, .int .i32 len, .int .u16 key, .bool imp]
def CompP (R n k : Nat) (G : Nat → Tk) (ix : Nat → Nat) (D : Nat → Value) (L : Nat → Int) (kt : ByteArray) (lo len ky : Int) (imp : Bool) (w : World) (e : Ending) (w' : World) : Prop := e = .returned (.tuple #[]) ∧ ∃ T cc Q, w.heap.size ≤ T ∧ w.heap.size ≤ Q ∧ Rul w' R n (finD ix D Q) (finL ix L) ∧ Seg w' Q 0 (dcL kt (.slice (some ⟨T, 0, none⟩) k cc) lo len ky imp) ∧ (∀ i, i < k → TAt w' T (i * 7) (G i)) ∧ Only (fun z => z = R) w w' ∧ w'.heap[Q]? = some (.cells (dcL kt (.slice (some ⟨T, 0, none⟩) k cc) lo len ky imp).toArray 46)
theorem Only.shrink {S S' : Nat → Prop} {w W X : World} (h1 : Below w.heap.size w W) (h2 : Only S' W X) (hS : ∀ b, S' b → b < w.heap.size → S b) : Only S w X :=
  ⟨Nat.le_trans h1.size h2.size, fun B hB hS' => (h1.mono hB).trans (h2.below B (Nat.le_trans hB h1.size) (fun b hb => by
    by_cases c : b < w.heap.size
    · exact hS' b (hS b hb c)
    · omega)), fun p hp hn => (h2.cell p (Nat.lt_of_lt_of_le hp h1.size) (fun h => hn (hS _ h hp))).trans (h1.cell hp), fun p hp => (h2.froz p (Nat.lt_of_lt_of_le hp h1.size)).trans (h1.frozen hp), fun T N r => h2.rooms T N (r.after h1), fun b hb hn => (h2.obj b (Nat.lt_of_lt_of_le hb h1.size) (fun h => hn (hS _ h hb))).trans (h1.block b hb)⟩
theorem comp_end {w W v X : World} {R n M k T cc : Nat} {G : Nat → Tk} {ix : Nat → Nat} {D : Nat → Value} {L : Nat → Int} {kt : ByteArray} {lo len ky : Int} {imp : Bool} (hR : Rul X R n (finD ix D v.heap.size) (finL ix L)) (hO : Only (fun z => z = R ∨ z = M) W X) (hw : Below w.heap.size w W) (hM : w.heap.size ≤ M) (hq : ∀ i, i < k → TAt W T (i * 7) (G i)) (hT : w.heap.size ≤ T) (hTR : T ≠ R) (hTM : T ≠ M) (hs : X.heap.size = v.heap.size) :
    CompP R n k G ix D L kt lo len ky imp w (.returned (.tuple #[])) (X.alloc (.cells (dcL kt (.slice (some ⟨T, 0, none⟩) k cc) lo len ky imp).toArray 46)).drew := by
  have hb : Below X.heap.size X (X.alloc (.cells (dcL kt (.slice (some ⟨T, 0, none⟩) k cc) lo len ky imp).toArray 46)).drew := (ba X _).drew
  have hwv : w.heap.size ≤ v.heap.size := by rw [← hs]; exact Nat.le_trans hw.size hO.size
  refine ⟨rfl, T, cc, v.heap.size, hT, hwv, hR.after hb, ?_, fun i hi => ?_, Only.shrink hw (hO.trans (Only.of hb)) (fun b h hlt => h.elim id (fun e => by omega)), by rw [← hs]; show (X.heap.push _)[X.heap.size]? = _; simp⟩
  · rw [← hs]
    exact (Seg.new X _ 46).after (Below.refl _ _).drew
  · obtain ⟨c0, c1, c2, c3, c4, c5, c6⟩ := hq i hi
    have hne : ∀ o, ¬ ((⟨T, o, none⟩ : Addr).block = R ∨ (⟨T, o, none⟩ : Addr).block = M) := fun o h => h.elim hTR hTM
    exact (⟨hO.keep c0 (hne _), hO.keep c1 (hne _), hO.keep c2 (hne _), hO.keep c3 (hne _), hO.keep c4 (hne _), hO.keep c5 (hne _), hO.keep c6 (hne _)⟩ : TAt X T (i * 7) (G i)).after hb
def NoP (w : World) (e : Ending) (w' : World) : Prop := e = .returned (.tuple #[]) ∧ Below w.heap.size w w'
set_option maxRecDepth 100000 in
set_option maxHeartbeats 4000000 in
theorem comp_no0 (b R n c : Nat) (F : Nat → Sd) (kt : ByteArray) (al imp m : Bool) (ky lo len : Int) (hky : (ky == 0) = false) (w : World) (h : Trk w b F kt al imp ky) (e0 : ((F 0).t.kd == 0) = true) : Calls Tryd.prog 21 #[.pointer (some ⟨b, 0, none⟩), .slice (some ⟨R, 0, none⟩) n c, .agg #[.int .i32 lo, .int .i32 len], .bool m] w (NoP w) := by
  have dk := fun o => Go.Proofs.YtgijoikmggjopaaDoor.al h.ck o
  have d0 := fun o => Go.Proofs.YtgijoikmggjopaaDoor.al (by have := h.cn 0 (by omega) 5 _ rfl; simpa using this : w.cell? ⟨b, 6, none⟩ = some (.int .u8 (F 0).t.kd)) o
  clear h
  go_enter Tryd.func21, Tryd.ntmps21
  go_wp2
  exact bodyPost_ret (v := .tuple #[]) (by simp [results, Tryd.results21, go_sem]) rfl ⟨rfl, ba _ _⟩
set_option maxRecDepth 100000 in
set_option maxHeartbeats 4000000 in
theorem comp_no1 (b R n c : Nat) (F : Nat → Sd) (kt : ByteArray) (al imp m : Bool) (ky lo len : Int) (hky : (ky == 0) = false) (w : World) (h : Trk w b F kt al imp ky) (e0 : ((F 0).t.kd == 0) = false) (e1 : ((F 1).t.kd == 0) = true) : Calls Tryd.prog 21 #[.pointer (some ⟨b, 0, none⟩), .slice (some ⟨R, 0, none⟩) n c, .agg #[.int .i32 lo, .int .i32 len], .bool m] w (NoP w) := by
  have dk := fun o => Go.Proofs.YtgijoikmggjopaaDoor.al h.ck o
  have d0 := fun o => Go.Proofs.YtgijoikmggjopaaDoor.al (by have := h.cn 0 (by omega) 5 _ rfl; simpa using this : w.cell? ⟨b, 6, none⟩ = some (.int .u8 (F 0).t.kd)) o
  have d1 := fun o => Go.Proofs.YtgijoikmggjopaaDoor.al (by have := h.cn 1 (by omega) 5 _ rfl; simpa using this : w.cell? ⟨b, 17, none⟩ = some (.int .u8 (F 1).t.kd)) o
  clear h
  go_enter Tryd.func21, Tryd.ntmps21
  go_wp2
  exact bodyPost_ret (v := .tuple #[]) (by simp [results, Tryd.results21, go_sem]) rfl ⟨rfl, ba _ _⟩
set_option maxRecDepth 100000 in
set_option maxHeartbeats 4000000 in
theorem comp_no2 (b R n c : Nat) (F : Nat → Sd) (kt : ByteArray) (al imp m : Bool) (ky lo len : Int) (hky : (ky == 0) = false) (w : World) (h : Trk w b F kt al imp ky) (e0 : ((F 0).t.kd == 0) = false) (e1 : ((F 1).t.kd == 0) = false) (e2 : ((F 2).t.kd == 0) = true) : Calls Tryd.prog 21 #[.pointer (some ⟨b, 0, none⟩), .slice (some ⟨R, 0, none⟩) n c, .agg #[.int .i32 lo, .int .i32 len], .bool m] w (NoP w) := by
  have dk := fun o => Go.Proofs.YtgijoikmggjopaaDoor.al h.ck o
  have d0 := fun o => Go.Proofs.YtgijoikmggjopaaDoor.al (by have := h.cn 0 (by omega) 5 _ rfl; simpa using this : w.cell? ⟨b, 6, none⟩ = some (.int .u8 (F 0).t.kd)) o
  have d1 := fun o => Go.Proofs.YtgijoikmggjopaaDoor.al (by have := h.cn 1 (by omega) 5 _ rfl; simpa using this : w.cell? ⟨b, 17, none⟩ = some (.int .u8 (F 1).t.kd)) o
  have d2 := fun o => Go.Proofs.YtgijoikmggjopaaDoor.al (by have := h.cn 2 (by omega) 5 _ rfl; simpa using this : w.cell? ⟨b, 28, none⟩ = some (.int .u8 (F 2).t.kd)) o
  clear h
  go_enter Tryd.func21, Tryd.ntmps21
  go_wp2
  exact bodyPost_ret (v := .tuple #[]) (by simp [results, Tryd.results21, go_sem]) rfl ⟨rfl, ba _ _⟩
set_option maxRecDepth 100000 in
set_option maxHeartbeats 4000000 in
theorem comp_no3 (b R n c : Nat) (F : Nat → Sd) (kt : ByteArray) (al imp m : Bool) (ky lo len : Int) (hky : (ky == 0) = false) (w : World) (h : Trk w b F kt al imp ky) (e0 : ((F 0).t.kd == 0) = false) (e1 : ((F 1).t.kd == 0) = false) (e2 : ((F 2).t.kd == 0) = false) (e3 : ((F 3).t.kd == 0) = true) : Calls Tryd.prog 21 #[.pointer (some ⟨b, 0, none⟩), .slice (some ⟨R, 0, none⟩) n c, .agg #[.int .i32 lo, .int .i32 len], .bool m] w (NoP w) := by
  have dk := fun o => Go.Proofs.YtgijoikmggjopaaDoor.al h.ck o
  have d0 := fun o => Go.Proofs.YtgijoikmggjopaaDoor.al (by have := h.cn 0 (by omega) 5 _ rfl; simpa using this : w.cell? ⟨b, 6, none⟩ = some (.int .u8 (F 0).t.kd)) o
  have d1 := fun o => Go.Proofs.YtgijoikmggjopaaDoor.al (by have := h.cn 1 (by omega) 5 _ rfl; simpa using this : w.cell? ⟨b, 17, none⟩ = some (.int .u8 (F 1).t.kd)) o
  have d2 := fun o => Go.Proofs.YtgijoikmggjopaaDoor.al (by have := h.cn 2 (by omega) 5 _ rfl; simpa using this : w.cell? ⟨b, 28, none⟩ = some (.int .u8 (F 2).t.kd)) o
  have d3 := fun o => Go.Proofs.YtgijoikmggjopaaDoor.al (by have := h.cn 3 (by omega) 5 _ rfl; simpa using this : w.cell? ⟨b, 39, none⟩ = some (.int .u8 (F 3).t.kd)) o
  clear h
  go_enter Tryd.func21, Tryd.ntmps21
  go_wp2
  exact bodyPost_ret (v := .tuple #[]) (by simp [results, Tryd.results21, go_sem]) rfl ⟨rfl, ba _ _⟩
theorem comp_no (b R n c : Nat) (F : Nat → Sd) (kt : ByteArray) (al imp m : Bool) (ky lo len : Int) (hky : (ky == 0) = false) (w : World) (h : Trk w b F kt al imp ky) (e : ∃ k, k < 4 ∧ (F k).t.kd = 0) : Calls Tryd.prog 21 #[.pointer (some ⟨b, 0, none⟩), .slice (some ⟨R, 0, none⟩) n c, .agg #[.int .i32 lo, .int .i32 len], .bool m] w (NoP w) := by
  cases e0 : ((F 0).t.kd == 0)
  · cases e1 : ((F 1).t.kd == 0)
    · cases e2 : ((F 2).t.kd == 0)
      · cases e3 : ((F 3).t.kd == 0)
        · exfalso
          obtain ⟨k, hk, e⟩ := e
          have h0 : ¬ (F 0).t.kd = 0 := by simpa using e0
          have h1 : ¬ (F 1).t.kd = 0 := by simpa using e1
          have h2 : ¬ (F 2).t.kd = 0 := by simpa using e2
          have h3 : ¬ (F 3).t.kd = 0 := by simpa using e3
          rcases (by omega : k = 0 ∨ k = 1 ∨ k = 2 ∨ k = 3) with rfl | rfl | rfl | rfl
          · exact h0 e
          · exact h1 e
          · exact h2 e
          · exact h3 e
        · exact comp_no3 b R n c F kt al imp m ky lo len hky w h e0 e1 e2 e3
      · exact comp_no2 b R n c F kt al imp m ky lo len hky w h e0 e1 e2
    · exact comp_no1 b R n c F kt al imp m ky lo len hky w h e0 e1
  · exact comp_no0 b R n c F kt al imp m ky lo len hky w h e0
set_option maxRecDepth 100000 in
set_option maxHeartbeats 4000000 in
theorem comp_un (b R n c : Nat) (F : Nat → Sd) (kt : ByteArray) (al imp m : Bool) (ky lo len : Int) (hky : (ky == 0) = false) (w : World) (h : Trk w b F kt al imp ky) (hk : ∀ i, i < 4 → ((F i).t.kd == 0) = false) (hs : ∀ i, i < 4 → ((F i).st = 0 ∨ (F i).st = 2) ∧ (F i).un = ⟨#[]⟩) (hx : ∃ i, i < 4 ∧ (F i).st = 2) : Calls Tryd.prog 21 #[.pointer (some ⟨b, 0, none⟩), .slice (some ⟨R, 0, none⟩) n c, .agg #[.int .i32 lo, .int .i32 len], .bool m] w (NoP w) := by
  have H := Lib.hid h
  have HS := Lib.hid hs
  have hbl : b < w.heap.size := h.room.lt (by omega)
  have dk := fun o => Go.Proofs.YtgijoikmggjopaaDoor.al h.ck o
  have d0 := fun o => Go.Proofs.YtgijoikmggjopaaDoor.al (by have := h.cn 0 (by omega) 5 _ rfl; simpa using this : w.cell? ⟨b, 6, none⟩ = some (.int .u8 (F 0).t.kd)) o
  have d1 := fun o => Go.Proofs.YtgijoikmggjopaaDoor.al (by have := h.cn 1 (by omega) 5 _ rfl; simpa using this : w.cell? ⟨b, 17, none⟩ = some (.int .u8 (F 1).t.kd)) o
  have d2 := fun o => Go.Proofs.YtgijoikmggjopaaDoor.al (by have := h.cn 2 (by omega) 5 _ rfl; simpa using this : w.cell? ⟨b, 28, none⟩ = some (.int .u8 (F 2).t.kd)) o
  have d3 := fun o => Go.Proofs.YtgijoikmggjopaaDoor.al (by have := h.cn 3 (by omega) 5 _ rfl; simpa using this : w.cell? ⟨b, 39, none⟩ = some (.int .u8 (F 3).t.kd)) o
  have e0 := hk 0 (by omega)
  have e1 := hk 1 (by omega)
  have e2 := hk 2 (by omega)
  have e3 := hk 3 (by omega)
  replace hx := Lib.hid hx
  clear h hs hk
  go_enter Tryd.func21, Tryd.ntmps21
  go_upto_region 4 with fail
  refine wp_gen (fun W hW => ?_)
  have hb : Hid (Below w.heap.size w W) := Lib.hid (by rw [hW]; exact ba _ _)
  have kk0 : Hid (W.cell? ⟨w.heap.size, 0, none⟩ = some (.int .i32 lo)) := Lib.hid (by rw [hW]; simp [go_sem])
  have kk1 : Hid (W.cell? ⟨w.heap.size, 1, none⟩ = some (.int .i32 len)) := Lib.hid (by rw [hW]; simp [go_sem])
  have hPW : Hid (w.heap.size + 1 = W.heap.size) := Lib.hid (by rw [hW]; simp)
  clear hW d0 d1 d2 d3 dk
  replace H : Hid (Trk W b F kt al imp ky) := Lib.hid (H.out.after hb.out)
  have C28 : Hid (∀ s s' : Int, (s = 0 ∨ s = 2) → (s' = 0 ∨ s' = 2) → ∀ w, Calls Tryd.prog 28 #[.agg #[.string ⟨#[]⟩, .int .u8 s], .agg #[.string ⟨#[]⟩, .int .u8 s']] w (Gv (.bool (s == 0 && s' == 0)) w)) := Lib.hid (fun s s' h h' w => safe_c s s' ⟨#[]⟩ (by omega) h h' w)
  go_wp2
  go_loopw [68] (fun v wr => ∃ i : Nat, i ≤ 3 ∧ v = .int .i64 i ∧ Below W.heap.size W wr ∧ ∀ j, j < i → (F (j + 1)).st = 0 ∧ (F 0).st = 0) (fun v _ => 3 - (intOf v).toNat)
  case atStart => exact ⟨0, by omega, rfl, Below.refl _ _, fun j hj => by omega⟩
  case round =>
    obtain ⟨i, hi, rfl, hB, hz⟩ := hrel
    obtain ⟨w1, rfl⟩ : ∃ w1 : World, w1 = wr := ⟨_, rfl⟩
    replace hB := Lib.hid hB
    replace hz := Lib.hid hz
    by_cases hlt : i < 3
    · have i0 : (0 : Int) ≤ i := by omega
      have i1 : (i : Int) < 3 := by omega
      have sg : Hid (Seg w1 b (12 + i * 11) (cnL (F (i + 1)))) := Lib.hid (((H.out.cn (i + 1) (by omega)).after hB.out).cast (by omega))
      have HN := Lib.hid (by have := Room.newN w1 zSd (n := 11) rfl 62; simpa using this : Room (w1.alloc (.cells zSd 62)) w1.heap.size 11)
      have b14 : Hid (Seg w1 b 1 (cnL (F 0))) := Lib.hid (((H.out.cn 0 (by omega)).after hB.out).cast (by omega))
      have un1 := Lib.hid (HS.out (i + 1) (by omega))
      have un0 := Lib.hid (HS.out 0 (by omega))
      go_upto_region 7 with (first | ((with_reducible refine wpList_at (o := ⟨some 71, .load 62 (.tmp 70), _, _, _, _⟩) ?_); refine wpList_load_seg (op := ⟨some 71, .load 62 (.tmp 70), _, _, _, _⟩) rfl 62 (.tmp 70) rfl b (12 + i * 11) rfl (cnL (F (i + 1))) _ Tryd.underlying62 rfl (i62 (F (i + 1))) sg.out ?_) | ((with_reducible refine wpList_at (o := ⟨none, .store 62 (.tmp 10) (.tmp 71), _, _, _, _⟩) ?_); refine wpList_store_room (op := ⟨none, .store 62 (.tmp 10) (.tmp 71), _, _, _, _⟩) rfl 62 (.tmp 10) (.tmp 71) rfl w1.heap.size 0 11 (cnL (F (i + 1))) HN.out (l11 (F (i + 1))) rfl rfl (i62 (F (i + 1))) (cnL_one (F (i + 1))) ?_; intro W2 hW2))
      have B2 : Hid (Below w1.heap.size w1 W2) := Lib.hid (by
        rw [hW2]
        exact (Only.setCells (S := fun z => z = w1.heap.size) _ rfl _ _ (Only.of (ba w1 _))).below w1.heap.size (Nat.le_refl _) (fun z e => by omega))
      have s2 : Hid (Seg W2 w1.heap.size 0 (cnL (F (i + 1)))) := Lib.hid (by rw [hW2]; exact Seg.put HN.out (l11 (F (i + 1))))
      have sb := Lib.hid (b14.out.after B2.out)
      have y14 : ∀ d os, (Sort.grow (redrawn W2 d) os).cell? ⟨w1.heap.size, 7, none⟩ = some (.string ⟨#[]⟩) := fun d os => cell_regrown (by rw [← un1.out.2]; exact s2.out 7 _ rfl) d os
      have y15 : ∀ d os, (Sort.grow (redrawn W2 d) os).cell? ⟨w1.heap.size, 8, none⟩ = some (.int .u8 (F (i + 1)).st) := fun d os => cell_regrown (by exact s2.out 8 _ rfl) d os
      have z14 : ∀ d os, (Sort.grow (redrawn W2 d) os).cell? ⟨b, 8, none⟩ = some (.string ⟨#[]⟩) := fun d os => cell_regrown (by rw [← un0.out.2]; exact sb.out 7 _ rfl) d os
      have z15 : ∀ d os, (Sort.grow (redrawn W2 d) os).cell? ⟨b, 9, none⟩ = some (.int .u8 (F 0).st) := fun d os => cell_regrown (by exact sb.out 8 _ rfl) d os
      clear hW2 HN sg b14 un1 un0 s2 sb
      refine drawn_tail 8 (by kernel_rfl) (by kernel_rfl) (by kernel_rfl) (fun Q hQ => ?_)
      simp only [List.take_succ_cons, List.take_zero, List.drop_succ_cons, List.drop_zero]
      repeat (quiet_step (fail))
      refine wpQuiet_nil ?_
      intro W3 hw
      have B3 : Hid (Below W.heap.size W W3) := Lib.hid (by
        obtain ⟨⟨d, os⟩, rfl⟩ := hw
        exact hB.out.trans ((B2.out.trans ((below_regrown _ d os).mono B2.out.size)).mono hB.out.size))
      clear hw y14 y15 z14 z15
      have hC : Hid (Calls Tryd.prog 28 #[.agg #[.string ⟨#[]⟩, .int .u8 (F (i + 1)).st], .agg #[.string ⟨#[]⟩, .int .u8 (F 0).st]] W3 (Gv (.bool ((F (i + 1)).st == 0 && (F 0).st == 0)) W3)) := Lib.hid (C28.out _ _ (HS.out (i + 1) (by omega)).1 (HS.out 0 (by omega)).1 W3)
      cases hq : ((F (i + 1)).st == 0 && (F 0).st == 0)
      · rw [hq] at hC
        replace hq := Lib.hid hq
        go_wp2_with (go_at_call 28; (with_reducible refine hC.out.mono ?_); rintro e wz ⟨rfl, hz2⟩; replace hz2 := Lib.hid hz2)
        exact bodyPost_ret (v := .tuple #[]) (by simp [results, Tryd.results21, go_sem]) rfl ⟨rfl, hb.out.trans ((B3.out.trans (hz2.out.mono B3.out.size)).mono hb.out.size)⟩
      · rw [hq] at hC
        replace hq := Lib.hid hq
        go_wp2_with (go_at_call 28; (with_reducible refine hC.out.mono ?_); rintro e wz ⟨rfl, hz2⟩; replace hz2 := Lib.hid hz2)
        go_roundw
        case rel =>
          refine ⟨i + 1, by omega, by go_num, B3.out.trans (hz2.out.mono B3.out.size), fun j hj => ?_⟩
          have h2 := hq.out
          simp only [Bool.and_eq_true, beq_iff_eq] at h2
          by_cases e : j = i
          · subst e; exact h2
          · exact hz.out j (by omega)
        case measure => simp [intOf]; omega
    · exfalso
      obtain rfl : i = 3 := by omega
      obtain ⟨k, hk, hx⟩ := hx.out
      have z := hz.out
      have z0 := z 0 (by omega)
      have z1 := z 1 (by omega)
      have z2 := z 2 (by omega)
      rcases (by omega : k = 0 ∨ k = 1 ∨ k = 2 ∨ k = 3) with rfl | rfl | rfl | rfl
      · omega
      · have := z0.1; simp only [Nat.zero_add] at this; omega
      · have := z1.1; simp only [Nat.reduceAdd] at this; omega
      · have := z2.1; simp only [Nat.reduceAdd] at this; omega
set_option maxRecDepth 100000 in
set_option maxHeartbeats 4000000 in
theorem comp_c (b R n0 n c : Nat) (hn0 : n0 ≤ n) (F : Nat → Sd) (kt : ByteArray) (al imp m : Bool) (D : Nat → Value) (L : Nat → Int) (ix : Nat → Nat) (ky lo len : Int) (hky : (ky == 0) = false) (w : World) (h : Trk w b F kt al imp ky) (hR : Rul w R n D L) (hbR : b ≠ R) (hn : n ≤ 4096) (hix : ∀ i, i < 4 → ix i < n0 ∧ (F i).ix = ix i)
    (hk : ∀ i, i < 4 → ((F i).t.kd == 0) = false) (hs : ∀ i, i < 4 → (F i).st = 0 ∧ (F i).un = ⟨#[]⟩) (hch : ∀ i, i < 4 → (F i).t.ch = .pointer none) (k1 : Nat) (hk1 : k1 = kMin (F 0).t (F 1).t (F 2).t (F 3).t) :
    Calls Tryd.prog 21 #[.pointer (some ⟨b, 0, none⟩), .slice (some ⟨R, 0, none⟩) n0 c, .agg #[.int .i32 lo, .int .i32 len], .bool m] w (CompP R n k1 (fun i => { pick4 (F 0).t (F 1).t (F 2).t (F 3).t i with ws := wsF i k1 m }) ix D L kt lo len ky imp w) := by
  have H := Lib.hid h
  have HR := Lib.hid hR
  have HS := Lib.hid hs
  have HIX := Lib.hid hix
  have hbl : b < w.heap.size := h.room.lt (by omega)
  have hRl : R < w.heap.size := hR.room.lt (by have := (hix 0 (by omega)).1; omega)
  have dk := fun o => Go.Proofs.YtgijoikmggjopaaDoor.al h.ck o
  have d0 := fun o => Go.Proofs.YtgijoikmggjopaaDoor.al (by have := h.cn 0 (by omega) 5 _ rfl; simpa using this : w.cell? ⟨b, 6, none⟩ = some (.int .u8 (F 0).t.kd)) o
  have d1 := fun o => Go.Proofs.YtgijoikmggjopaaDoor.al (by have := h.cn 1 (by omega) 5 _ rfl; simpa using this : w.cell? ⟨b, 17, none⟩ = some (.int .u8 (F 1).t.kd)) o
  have d2 := fun o => Go.Proofs.YtgijoikmggjopaaDoor.al (by have := h.cn 2 (by omega) 5 _ rfl; simpa using this : w.cell? ⟨b, 28, none⟩ = some (.int .u8 (F 2).t.kd)) o
  have d3 := fun o => Go.Proofs.YtgijoikmggjopaaDoor.al (by have := h.cn 3 (by omega) 5 _ rfl; simpa using this : w.cell? ⟨b, 39, none⟩ = some (.int .u8 (F 3).t.kd)) o
  have e0 := hk 0 (by omega)
  have e1 := hk 1 (by omega)
  have e2 := hk 2 (by omega)
  have e3 := hk 3 (by omega)
  have HbR := Lib.hid hbR
  have K14 : k1 ≤ 4 := by rw [hk1]; exact kMin_le _ _ _ _
  have C351 := Lib.hid (fun w => quad_k (F 0).t (F 1).t (F 2).t (F 3).t m k1 hk1 (hch 0 (by omega)) (hch 1 (by omega)) (hch 2 (by omega)) (hch 3 (by omega)) w)
  have HK1 := Lib.hid hk1
  clear h hR hs hch hix hk hbR hk1
  go_enter Tryd.func21, Tryd.ntmps21
  go_upto_region 4 with fail
  refine wp_gen (fun W hW => ?_)
  have hb : Hid (Below w.heap.size w W) := Lib.hid (by rw [hW]; exact ba _ _)
  have kk0 : Hid (W.cell? ⟨w.heap.size, 0, none⟩ = some (.int .i32 lo)) := Lib.hid (by rw [hW]; simp [go_sem])
  have kk1 : Hid (W.cell? ⟨w.heap.size, 1, none⟩ = some (.int .i32 len)) := Lib.hid (by rw [hW]; simp [go_sem])
  have hPW : Hid (w.heap.size + 1 = W.heap.size) := Lib.hid (by rw [hW]; simp)
  clear hW d0 d1 d2 d3 dk
  replace H : Hid (Trk W b F kt al imp ky) := Lib.hid (H.out.after hb.out)
  have C34 : Hid (∀ w, Calls Tryd.prog 28 #[.agg #[.string ⟨#[]⟩, .int .u8 0], .agg #[.string ⟨#[]⟩, .int .u8 0]] w (Gv (.bool true) w)) := Lib.hid (fun w => safe_c 0 0 ⟨#[]⟩ (.inl ⟨rfl, rfl⟩) (.inl rfl) (.inl rfl) w)
  replace HR : Hid (Rul W R n D L) := Lib.hid (HR.out.after hb.out)
  generalize hP : w.heap.size = P at kk0 kk1 ⊢
  replace hP := Lib.hid hP
  replace hbl : b < P := by have := hP.out; omega
  replace hRl : R < P := by have := hP.out; omega
  go_wp2
  go_loopw [68] (fun v wr => ∃ i : Nat, i ≤ 3 ∧ v = .int .i64 i ∧ Below W.heap.size W wr) (fun v _ => 3 - (intOf v).toNat)
  case atStart => exact ⟨0, by omega, rfl, Below.refl _ _⟩
  case round =>
    obtain ⟨i, hi, rfl, hB⟩ := hrel
    obtain ⟨w1, rfl⟩ : ∃ w1 : World, w1 = wr := ⟨_, rfl⟩
    replace hB := Lib.hid hB
    by_cases hlt : i < 3
    · have i0 : (0 : Int) ≤ i := by omega
      have i1 : (i : Int) < 3 := by omega
      have sg : Hid (Seg w1 b (12 + i * 11) (cnL (F (i + 1)))) := Lib.hid (((H.out.cn (i + 1) (by omega)).after hB.out).cast (by omega))
      have HN := Lib.hid (by have := Room.newN w1 zSd (n := 11) rfl 62; simpa using this : Room (w1.alloc (.cells zSd 62)) w1.heap.size 11)
      have b14 : Hid (Seg w1 b 1 (cnL (F 0))) := Lib.hid (((H.out.cn 0 (by omega)).after hB.out).cast (by omega))
      have un1 := Lib.hid (HS.out (i + 1) (by omega))
      have un0 := Lib.hid (HS.out 0 (by omega))
      go_upto_region 7 with (first | ((with_reducible refine wpList_at (o := ⟨some 71, .load 62 (.tmp 70), _, _, _, _⟩) ?_); refine wpList_load_seg (op := ⟨some 71, .load 62 (.tmp 70), _, _, _, _⟩) rfl 62 (.tmp 70) rfl b (12 + i * 11) rfl (cnL (F (i + 1))) _ Tryd.underlying62 rfl (i62 (F (i + 1))) sg.out ?_) | ((with_reducible refine wpList_at (o := ⟨none, .store 62 (.tmp 10) (.tmp 71), _, _, _, _⟩) ?_); refine wpList_store_room (op := ⟨none, .store 62 (.tmp 10) (.tmp 71), _, _, _, _⟩) rfl 62 (.tmp 10) (.tmp 71) rfl w1.heap.size 0 11 (cnL (F (i + 1))) HN.out (l11 (F (i + 1))) rfl rfl (i62 (F (i + 1))) (cnL_one (F (i + 1))) ?_; intro W2 hW2))
      have B2 : Hid (Below w1.heap.size w1 W2) := Lib.hid (by
        rw [hW2]
        exact (Only.setCells (S := fun z => z = w1.heap.size) _ rfl _ _ (Only.of (ba w1 _))).below w1.heap.size (Nat.le_refl _) (fun z e => by omega))
      have s2 : Hid (Seg W2 w1.heap.size 0 (cnL (F (i + 1)))) := Lib.hid (by rw [hW2]; exact Seg.put HN.out (l11 (F (i + 1))))
      have sb := Lib.hid (b14.out.after B2.out)
      have y14 : ∀ d os, (Sort.grow (redrawn W2 d) os).cell? ⟨w1.heap.size, 7, none⟩ = some (.string ⟨#[]⟩) := fun d os => cell_regrown (by rw [← un1.out.2]; exact s2.out 7 _ rfl) d os
      have y15 : ∀ d os, (Sort.grow (redrawn W2 d) os).cell? ⟨w1.heap.size, 8, none⟩ = some (.int .u8 0) := fun d os => cell_regrown (by rw [← un1.out.1]; exact s2.out 8 _ rfl) d os
      have z14 : ∀ d os, (Sort.grow (redrawn W2 d) os).cell? ⟨b, 8, none⟩ = some (.string ⟨#[]⟩) := fun d os => cell_regrown (by rw [← un0.out.2]; exact sb.out 7 _ rfl) d os
      have z15 : ∀ d os, (Sort.grow (redrawn W2 d) os).cell? ⟨b, 9, none⟩ = some (.int .u8 0) := fun d os => cell_regrown (by rw [← un0.out.1]; exact sb.out 8 _ rfl) d os
      clear hW2 HN sg b14 un1 un0 s2 sb
      refine drawn_tail 8 (by kernel_rfl) (by kernel_rfl) (by kernel_rfl) (fun Q hQ => ?_)
      simp only [List.take_succ_cons, List.take_zero, List.drop_succ_cons, List.drop_zero]
      repeat (quiet_step (fail))
      refine wpQuiet_nil ?_
      intro W3 hw
      have B3 : Hid (Below W.heap.size W W3) := Lib.hid (by
        obtain ⟨⟨d, os⟩, rfl⟩ := hw
        exact hB.out.trans ((B2.out.trans ((below_regrown _ d os).mono B2.out.size)).mono hB.out.size))
      clear hw y14 y15 z14 z15
      go_wp2_with (go_at_call 28; (with_reducible refine (C34.out _).mono ?_); rintro e wz ⟨rfl, hz⟩; replace hz := Lib.hid hz)
      go_roundw
      case rel => exact ⟨i + 1, by omega, by go_num, B3.out.trans (hz.out.mono B3.out.size)⟩
      case measure => simp [intOf]; omega
    · obtain rfl : i = 3 := by omega
      go_wp2
      have t1 : Hid (Trk w1 b F kt al imp ky) := Lib.hid (H.out.after hB.out)
      have r1 : Hid (Rul w1 R n D L) := Lib.hid (HR.out.after hB.out)
      have b1 : Hid (Below w.heap.size w w1) := Lib.hid (hb.out.trans (hB.out.mono hb.out.size))
      have k0' : Hid (w1.cell? ⟨P, 0, none⟩ = some (.int .i32 lo)) := Lib.hid (ac hB.out kk0.out)
      have k1' : Hid (w1.cell? ⟨P, 1, none⟩ = some (.int .i32 len)) := Lib.hid (ac hB.out kk1.out)
      clear hB HS
      have y1 : ∀ d os, (Sort.grow (redrawn w1 d) os).cell? ⟨b, 1, none⟩ = some (.pointer none) := fun d os => cell_regrown (by simpa using t1.out.cn 0 (by omega) 0 _ rfl) d os
      have y2 : ∀ d os, (Sort.grow (redrawn w1 d) os).cell? ⟨b, 2, none⟩ = some (.string (F 0).t.tx) := fun d os => cell_regrown (by simpa using t1.out.cn 0 (by omega) 1 _ rfl) d os
      have y3 : ∀ d os, (Sort.grow (redrawn w1 d) os).cell? ⟨b, 3, none⟩ = some (.int .i32 (F 0).t.lo) := fun d os => cell_regrown (by simpa using t1.out.cn 0 (by omega) 2 _ rfl) d os
      have y4 : ∀ d os, (Sort.grow (redrawn w1 d) os).cell? ⟨b, 4, none⟩ = some (.int .u32 (F 0).t.pl) := fun d os => cell_regrown (by simpa using t1.out.cn 0 (by omega) 3 _ rfl) d os
      have y5 : ∀ d os, (Sort.grow (redrawn w1 d) os).cell? ⟨b, 5, none⟩ = some (.int .u16 (F 0).t.uo) := fun d os => cell_regrown (by simpa using t1.out.cn 0 (by omega) 4 _ rfl) d os
      have y6 : ∀ d os, (Sort.grow (redrawn w1 d) os).cell? ⟨b, 6, none⟩ = some (.int .u8 (F 0).t.kd) := fun d os => cell_regrown (by simpa using t1.out.cn 0 (by omega) 5 _ rfl) d os
      have y7 : ∀ d os, (Sort.grow (redrawn w1 d) os).cell? ⟨b, 7, none⟩ = some (.int .u8 (F 0).t.ws) := fun d os => cell_regrown (by simpa using t1.out.cn 0 (by omega) 6 _ rfl) d os
      have y12 : ∀ d os, (Sort.grow (redrawn w1 d) os).cell? ⟨b, 12, none⟩ = some (.pointer none) := fun d os => cell_regrown (by simpa using t1.out.cn 1 (by omega) 0 _ rfl) d os
      have y13 : ∀ d os, (Sort.grow (redrawn w1 d) os).cell? ⟨b, 13, none⟩ = some (.string (F 1).t.tx) := fun d os => cell_regrown (by simpa using t1.out.cn 1 (by omega) 1 _ rfl) d os
      have y14 : ∀ d os, (Sort.grow (redrawn w1 d) os).cell? ⟨b, 14, none⟩ = some (.int .i32 (F 1).t.lo) := fun d os => cell_regrown (by simpa using t1.out.cn 1 (by omega) 2 _ rfl) d os
      have y15 : ∀ d os, (Sort.grow (redrawn w1 d) os).cell? ⟨b, 15, none⟩ = some (.int .u32 (F 1).t.pl) := fun d os => cell_regrown (by simpa using t1.out.cn 1 (by omega) 3 _ rfl) d os
      have y16 : ∀ d os, (Sort.grow (redrawn w1 d) os).cell? ⟨b, 16, none⟩ = some (.int .u16 (F 1).t.uo) := fun d os => cell_regrown (by simpa using t1.out.cn 1 (by omega) 4 _ rfl) d os
      have y17 : ∀ d os, (Sort.grow (redrawn w1 d) os).cell? ⟨b, 17, none⟩ = some (.int .u8 (F 1).t.kd) := fun d os => cell_regrown (by simpa using t1.out.cn 1 (by omega) 5 _ rfl) d os
      have y18 : ∀ d os, (Sort.grow (redrawn w1 d) os).cell? ⟨b, 18, none⟩ = some (.int .u8 (F 1).t.ws) := fun d os => cell_regrown (by simpa using t1.out.cn 1 (by omega) 6 _ rfl) d os
      have y23 : ∀ d os, (Sort.grow (redrawn w1 d) os).cell? ⟨b, 23, none⟩ = some (.pointer none) := fun d os => cell_regrown (by simpa using t1.out.cn 2 (by omega) 0 _ rfl) d os
      have y24 : ∀ d os, (Sort.grow (redrawn w1 d) os).cell? ⟨b, 24, none⟩ = some (.string (F 2).t.tx) := fun d os => cell_regrown (by simpa using t1.out.cn 2 (by omega) 1 _ rfl) d os
      have y25 : ∀ d os, (Sort.grow (redrawn w1 d) os).cell? ⟨b, 25, none⟩ = some (.int .i32 (F 2).t.lo) := fun d os => cell_regrown (by simpa using t1.out.cn 2 (by omega) 2 _ rfl) d os
      have y26 : ∀ d os, (Sort.grow (redrawn w1 d) os).cell? ⟨b, 26, none⟩ = some (.int .u32 (F 2).t.pl) := fun d os => cell_regrown (by simpa using t1.out.cn 2 (by omega) 3 _ rfl) d os
      have y27 : ∀ d os, (Sort.grow (redrawn w1 d) os).cell? ⟨b, 27, none⟩ = some (.int .u16 (F 2).t.uo) := fun d os => cell_regrown (by simpa using t1.out.cn 2 (by omega) 4 _ rfl) d os
      have y28 : ∀ d os, (Sort.grow (redrawn w1 d) os).cell? ⟨b, 28, none⟩ = some (.int .u8 (F 2).t.kd) := fun d os => cell_regrown (by simpa using t1.out.cn 2 (by omega) 5 _ rfl) d os
      have y29 : ∀ d os, (Sort.grow (redrawn w1 d) os).cell? ⟨b, 29, none⟩ = some (.int .u8 (F 2).t.ws) := fun d os => cell_regrown (by simpa using t1.out.cn 2 (by omega) 6 _ rfl) d os
      have y34 : ∀ d os, (Sort.grow (redrawn w1 d) os).cell? ⟨b, 34, none⟩ = some (.pointer none) := fun d os => cell_regrown (by simpa using t1.out.cn 3 (by omega) 0 _ rfl) d os
      have y35 : ∀ d os, (Sort.grow (redrawn w1 d) os).cell? ⟨b, 35, none⟩ = some (.string (F 3).t.tx) := fun d os => cell_regrown (by simpa using t1.out.cn 3 (by omega) 1 _ rfl) d os
      have y36 : ∀ d os, (Sort.grow (redrawn w1 d) os).cell? ⟨b, 36, none⟩ = some (.int .i32 (F 3).t.lo) := fun d os => cell_regrown (by simpa using t1.out.cn 3 (by omega) 2 _ rfl) d os
      have y37 : ∀ d os, (Sort.grow (redrawn w1 d) os).cell? ⟨b, 37, none⟩ = some (.int .u32 (F 3).t.pl) := fun d os => cell_regrown (by simpa using t1.out.cn 3 (by omega) 3 _ rfl) d os
      have y38 : ∀ d os, (Sort.grow (redrawn w1 d) os).cell? ⟨b, 38, none⟩ = some (.int .u16 (F 3).t.uo) := fun d os => cell_regrown (by simpa using t1.out.cn 3 (by omega) 4 _ rfl) d os
      have y39 : ∀ d os, (Sort.grow (redrawn w1 d) os).cell? ⟨b, 39, none⟩ = some (.int .u8 (F 3).t.kd) := fun d os => cell_regrown (by simpa using t1.out.cn 3 (by omega) 5 _ rfl) d os
      have y40 : ∀ d os, (Sort.grow (redrawn w1 d) os).cell? ⟨b, 40, none⟩ = some (.int .u8 (F 3).t.ws) := fun d os => cell_regrown (by simpa using t1.out.cn 3 (by omega) 6 _ rfl) d os
      refine drawn_tail 25 (by kernel_rfl) (by kernel_rfl) (by kernel_rfl) (fun Q hQ => ?_)
      simp only [List.take_succ_cons, List.take_zero, List.drop_succ_cons, List.drop_zero]
      repeat (quiet_step (fail))
      refine wpQuiet_nil ?_
      intro w2 hw
      have w2b : Hid (Below w1.heap.size w1 w2) := Lib.hid (by
        obtain ⟨⟨d, os⟩, rfl⟩ := hw
        exact below_regrown _ d os)
      clear hw y1 y2 y3 y4 y5 y6 y7 y12 y13 y14 y15 y16 y17 y18 y23 y24 y25 y26 y27 y28 y29 y34 y35 y36 y37 y38 y39 y40
      go_wp2_with (first | (go_at_call 29; (with_reducible refine (C351.out _).mono ?_); rintro e w3 ⟨T1, rfl, q1⟩; replace q1 := Lib.hid q1; have w3b : Hid (Below w1.heap.size w1 w3) := Lib.hid (w2b.out.trans (q1.out.2.2.2.2.mono w2b.out.size)); have t6 := Lib.hid (fun o => (t1.out.after w3b.out).seg.after (ba w3 o))) | ((with_reducible refine wpList_at (o := ⟨some 112, .load 63 (.tmp 111), _, _, _, _⟩) ?_); refine wpList_load_seg (op := ⟨some 112, .load 63 (.tmp 111), _, _, _, _⟩) rfl 63 (.tmp 111) rfl b 1 rfl (trk4 F) _ Tryd.underlying63 rfl (i63 F) (t6.out _) ?_))
      refine wp_gen (fun W7 hW7 => ?_)
      have b7 : Hid (Below w3.heap.size w3 W7) := Lib.hid (by rw [hW7]; exact ba _ _)
      have m7 : Hid (W7.cell? ⟨w3.heap.size, 0, none⟩ = some (.int .i32 0)) := Lib.hid (by rw [hW7]; simp [go_sem])
      have mr7 : Hid (Room W7 w3.heap.size 1) := Lib.hid (by rw [hW7]; exact Room.newN _ _ rfl _)
      clear hW7 t6
      have b17 : Hid (Below w1.heap.size w1 W7) := Lib.hid (w3b.out.trans (b7.out.mono w3b.out.size))
      have t7 : Hid (Trk W7 b F kt al imp ky) := Lib.hid (t1.out.after b17.out)
      have r7 : Hid (Rul W7 R n D L) := Lib.hid (r1.out.after b17.out)
      have q7 : Hid (∀ i, i < k1 → TAt W7 T1 (i * 7) { pick4 (F 0).t (F 1).t (F 2).t (F 3).t i with ws := wsF i k1 m }) := Lib.hid (fun i hi => (q1.out.2.2.1 i hi).after b7.out)
      have lo7 : Hid (W7.cell? ⟨P, 0, none⟩ = some (.int .i32 lo)) := Lib.hid (ac b17.out k0'.out)
      have len7 : Hid (W7.cell? ⟨P, 1, none⟩ = some (.int .i32 len)) := Lib.hid (ac b17.out k1'.out)
      have bw7 : Hid (Below w.heap.size w W7) := Lib.hid (b1.out.trans (b17.out.mono b1.out.size))
      have hT1 : w.heap.size ≤ T1 := Nat.le_trans (Nat.le_trans b1.out.size w2b.out.size) q1.out.1
      have hT1M : T1 < w3.heap.size := q1.out.2.1
      have hPM : P < w3.heap.size := by
        have h1 := block_lt_of_cell kk0.out
        have h2 := w3b.out.size
        have h3 := block_lt_of_cell k0'.out
        dsimp only at h1 h3
        omega
      have hwM0 : w.heap.size ≤ w3.heap.size := Nat.le_trans b1.out.size w3b.out.size
      clear t1 r1 k0' k1' w2b q1 w3b b17 kk0 kk1 H HR
      generalize hM : w3.heap.size = M at *
      have hwM := Lib.hid hwM0
      clear hwM0
      replace hM := Lib.hid hM
      replace hT1 := Lib.hid hT1
      have hRM : R < M := by omega
      have hbM : b < M := by omega
      have hMW : M < W7.heap.size := mr7.out.lt (by omega)
      go_loopw [113] (fun v wr => ∃ i : Nat, i ≤ 4 ∧ v = .int .i64 i ∧ LP W7 R n M ix D L i wr) (fun v _ => 4 - (intOf v).toNat)
      case atStart => exact ⟨0, by omega, rfl, Only.refl _, r7.out, m7.out, mr7.out⟩
      case round =>
        obtain ⟨i, hi, rfl, hL⟩ := hrel
        obtain ⟨v1, rfl⟩ : ∃ v1 : World, v1 = wr := ⟨_, rfl⟩
        replace hL := Lib.hid hL
        have hMv : M < v1.heap.size := Nat.lt_of_lt_of_le hMW hL.out.only.size
        rcases (by omega : i = 0 ∨ i = 1 ∨ i = 2 ∨ i = 3 ∨ i = 4) with rfl | rfl | rfl | rfl | rfl
        · have X := ix63_0 F
          have hx := HIX.out 0 (by omega)
          have hx0 := hx.1
          have hxn : ix 0 < n := by omega
          have HX2 := Lib.hid hx.2
          clear hx
          have x0 : (0 : Int) ≤ (ix 0 : Nat) := by omega
          have x1 : ((ix 0 : Nat) : Int) < n0 := by omega
          have HN := Lib.hid (by have := Room.newN v1 zSd (n := 11) rfl 62; simpa using this : Room (v1.alloc (.cells zSd 62)) v1.heap.size 11)
          go_upto_region 14 with ((with_reducible refine wpList_at (o := ⟨none, .store 62 (.tmp 14) (.tmp 116), _, _, _, _⟩) ?_); refine wpList_store_room (op := ⟨none, .store 62 (.tmp 14) (.tmp 116), _, _, _, _⟩) rfl 62 (.tmp 14) (.tmp 116) rfl v1.heap.size 0 11 (cnL (F 0)) HN.out (l11 (F 0)) rfl rfl (i62 (F 0)) (cnL_one (F 0)) ?_; intro V2 hV2)
          have B2 : Hid (Below v1.heap.size v1 V2) := Lib.hid (by
            rw [hV2]
            exact (Only.setCells (S := fun z => z = v1.heap.size) _ rfl _ _ (Only.of (ba v1 _))).below v1.heap.size (Nat.le_refl _) (fun z e => by omega))
          have hlt2 : v1.heap.size < V2.heap.size := by rw [hV2, setCells_size]; simp
          have s16 : Hid (V2.cell? ⟨v1.heap.size, 9, none⟩ = some (.int .u32 (ix 0))) := Lib.hid (by
            have : Seg V2 v1.heap.size 0 (cnL (F 0)) := by rw [hV2]; exact Seg.put HN.out (l11 (F 0))
            rw [← HX2.out]; exact this 9 _ rfl)
          clear hV2 HN X HX2
          generalize hP6 : v1.heap.size = P6 at s16 hlt2 ⊢
          replace hP6 := Lib.hid hP6
          have c16 := s16.out
          have cl : V2.cell? ⟨R, ix 0 * 2 + 1, none⟩ = some (.int .i32 (lF ix L 0)) := ac B2.out (hL.out.rul.l (ix 0) hxn)
          go_upto_region 15 with fail
          refine wp_gen (fun V3 hV3 => ?_)
          have B3 : Hid (Below V2.heap.size V2 V3) := Lib.hid (by rw [hV3]; exact ba _ _)
          have s17 : V3.cell? ⟨V2.heap.size, 0, none⟩ = some (.int .i32 (lF ix L 0)) := by rw [hV3]; simp [go_sem]
          have s16' : V3.cell? ⟨P6, 9, none⟩ = some (.int .u32 (ix 0)) := ac B3.out s16.out
          have hlt3 : V2.heap.size < V3.heap.size := by rw [hV3]; simp
          clear hV3 c16 cl
          have B13 : Hid (Below v1.heap.size v1 V3) := Lib.hid (B2.out.trans (B3.out.mono B2.out.size))
          generalize hP7 : V2.heap.size = P7 at s17 hlt2 hlt3 ⊢
          replace hP7 := Lib.hid hP7
          have HK := Lib.hid (fun hc V' => LP.keep (V' := V') hL.out B13.out hxn (by omega) hc)
          have HT := Lib.hid (fun hc V' => LP.take (V' := V') hL.out B13.out hxn (by omega) hc)
          have hMP : M < P6 := by have := hP6.out; omega
          have mc := ac B13.out hL.out.mc
          have mf : V3.frozen? ⟨M, 0, none⟩ = false := by obtain ⟨_, -, h⟩ := hL.out.mr.after B13.out 0 (by omega); exact h
          obtain ⟨g0, e0, f0⟩ := (hL.out.rul.after B13.out).room (ix 0 * 2) (by omega)
          obtain ⟨g1, e1, f1⟩ := (hL.out.rul.after B13.out).room (ix 0 * 2 + 1) (by omega)
          have hcm := Lib.hid (Or.inl rfl : (0 : Nat) = 0 ∨ lF ix L 0 < mnF ix L 0)
          go_upto_region 17 with fail
          refine wp_gen (fun V4 hV4 => ?_)
          replace hV4 := Lib.hid hV4
          have O4 : Hid (Only (fun z => z = M) V3 V4) := Lib.hid (by rw [hV4.out]; exact (Only.refl _).set _ _ rfl)
          replace s16' := O4.out.keep s16' (by show ¬ P6 = M; omega)
          replace e0 := O4.out.keep e0 (by show ¬ R = M; omega)
          replace e1 := O4.out.keep e1 (by show ¬ R = M; omega)
          replace f0 : V4.frozen? ⟨R, ix 0 * 2, none⟩ = false := by rw [hV4.out, fz]; exact f0
          replace f1 : V4.frozen? ⟨R, ix 0 * 2 + 1, none⟩ = false := by rw [hV4.out, fz]; exact f1
          clear mc mf s17
          go_wp2
          go_roundw
          case rel => exact ⟨1, by omega, by go_num, HT.out hcm.out _ (by rw [hV4.out])⟩
          case measure => simp [intOf]
        · have X := ix63_1 F
          have hx := HIX.out 1 (by omega)
          have hx0 := hx.1
          have hxn : ix 1 < n := by omega
          have HX2 := Lib.hid hx.2
          clear hx
          have x0 : (0 : Int) ≤ (ix 1 : Nat) := by omega
          have x1 : ((ix 1 : Nat) : Int) < n0 := by omega
          have HN := Lib.hid (by have := Room.newN v1 zSd (n := 11) rfl 62; simpa using this : Room (v1.alloc (.cells zSd 62)) v1.heap.size 11)
          go_upto_region 14 with ((with_reducible refine wpList_at (o := ⟨none, .store 62 (.tmp 14) (.tmp 116), _, _, _, _⟩) ?_); refine wpList_store_room (op := ⟨none, .store 62 (.tmp 14) (.tmp 116), _, _, _, _⟩) rfl 62 (.tmp 14) (.tmp 116) rfl v1.heap.size 0 11 (cnL (F 1)) HN.out (l11 (F 1)) rfl rfl (i62 (F 1)) (cnL_one (F 1)) ?_; intro V2 hV2)
          have B2 : Hid (Below v1.heap.size v1 V2) := Lib.hid (by
            rw [hV2]
            exact (Only.setCells (S := fun z => z = v1.heap.size) _ rfl _ _ (Only.of (ba v1 _))).below v1.heap.size (Nat.le_refl _) (fun z e => by omega))
          have hlt2 : v1.heap.size < V2.heap.size := by rw [hV2, setCells_size]; simp
          have s16 : Hid (V2.cell? ⟨v1.heap.size, 9, none⟩ = some (.int .u32 (ix 1))) := Lib.hid (by
            have : Seg V2 v1.heap.size 0 (cnL (F 1)) := by rw [hV2]; exact Seg.put HN.out (l11 (F 1))
            rw [← HX2.out]; exact this 9 _ rfl)
          clear hV2 HN X HX2
          generalize hP6 : v1.heap.size = P6 at s16 hlt2 ⊢
          replace hP6 := Lib.hid hP6
          have c16 := s16.out
          have cl : V2.cell? ⟨R, ix 1 * 2 + 1, none⟩ = some (.int .i32 (lF ix L 1)) := ac B2.out (hL.out.rul.l (ix 1) hxn)
          go_upto_region 15 with fail
          refine wp_gen (fun V3 hV3 => ?_)
          have B3 : Hid (Below V2.heap.size V2 V3) := Lib.hid (by rw [hV3]; exact ba _ _)
          have s17 : V3.cell? ⟨V2.heap.size, 0, none⟩ = some (.int .i32 (lF ix L 1)) := by rw [hV3]; simp [go_sem]
          have s16' : V3.cell? ⟨P6, 9, none⟩ = some (.int .u32 (ix 1)) := ac B3.out s16.out
          have hlt3 : V2.heap.size < V3.heap.size := by rw [hV3]; simp
          clear hV3 c16 cl
          have B13 : Hid (Below v1.heap.size v1 V3) := Lib.hid (B2.out.trans (B3.out.mono B2.out.size))
          generalize hP7 : V2.heap.size = P7 at s17 hlt2 hlt3 ⊢
          replace hP7 := Lib.hid hP7
          have HK := Lib.hid (fun hc V' => LP.keep (V' := V') hL.out B13.out hxn (by omega) hc)
          have HT := Lib.hid (fun hc V' => LP.take (V' := V') hL.out B13.out hxn (by omega) hc)
          have hMP : M < P6 := by have := hP6.out; omega
          have mc := ac B13.out hL.out.mc
          have mf : V3.frozen? ⟨M, 0, none⟩ = false := by obtain ⟨_, -, h⟩ := hL.out.mr.after B13.out 0 (by omega); exact h
          obtain ⟨g0, e0, f0⟩ := (hL.out.rul.after B13.out).room (ix 1 * 2) (by omega)
          obtain ⟨g1, e1, f1⟩ := (hL.out.rul.after B13.out).room (ix 1 * 2 + 1) (by omega)
          have HLF := Lib.hid (rfl : lF ix L 1 = lF ix L 1)
          by_cases hcmp : lF ix L 1 < mnF ix L 1
          · have hcm := Lib.hid (Or.inr hcmp : (1 : Nat) = 0 ∨ lF ix L 1 < mnF ix L 1)
            go_upto_region 17 with fail
            refine wp_gen (fun V4 hV4 => ?_)
            replace hV4 := Lib.hid hV4
            have O4 : Hid (Only (fun z => z = M) V3 V4) := Lib.hid (by rw [hV4.out]; exact (Only.refl _).set _ _ rfl)
            replace s16' := O4.out.keep s16' (by show ¬ P6 = M; omega)
            replace e0 := O4.out.keep e0 (by show ¬ R = M; omega)
            replace e1 := O4.out.keep e1 (by show ¬ R = M; omega)
            replace f0 : V4.frozen? ⟨R, ix 1 * 2, none⟩ = false := by rw [hV4.out, fz]; exact f0
            replace f1 : V4.frozen? ⟨R, ix 1 * 2 + 1, none⟩ = false := by rw [hV4.out, fz]; exact f1
            clear mc mf s17
            go_wp2
            go_roundw
            case rel => exact ⟨2, by omega, by go_num, HT.out hcm.out _ (by rw [hV4.out])⟩
            case measure => simp [intOf]
          · have hcm := Lib.hid (by rintro (h | h); exact absurd h (by decide); exact hcmp h : ¬ ((1 : Nat) = 0 ∨ lF ix L 1 < mnF ix L 1))
            go_upto_region 17 with fail
            refine wp_gen (fun V4 hV4 => ?_)
            replace hV4 := Lib.hid hV4
            obtain rfl := hV4.out
            clear mc mf s17
            go_wp2
            go_roundw
            case rel => exact ⟨2, by omega, by go_num, HK.out hcm.out _ rfl⟩
            case measure => simp [intOf]
        · have X := ix63_2 F
          have hx := HIX.out 2 (by omega)
          have hx0 := hx.1
          have hxn : ix 2 < n := by omega
          have HX2 := Lib.hid hx.2
          clear hx
          have x0 : (0 : Int) ≤ (ix 2 : Nat) := by omega
          have x1 : ((ix 2 : Nat) : Int) < n0 := by omega
          have HN := Lib.hid (by have := Room.newN v1 zSd (n := 11) rfl 62; simpa using this : Room (v1.alloc (.cells zSd 62)) v1.heap.size 11)
          go_upto_region 14 with ((with_reducible refine wpList_at (o := ⟨none, .store 62 (.tmp 14) (.tmp 116), _, _, _, _⟩) ?_); refine wpList_store_room (op := ⟨none, .store 62 (.tmp 14) (.tmp 116), _, _, _, _⟩) rfl 62 (.tmp 14) (.tmp 116) rfl v1.heap.size 0 11 (cnL (F 2)) HN.out (l11 (F 2)) rfl rfl (i62 (F 2)) (cnL_one (F 2)) ?_; intro V2 hV2)
          have B2 : Hid (Below v1.heap.size v1 V2) := Lib.hid (by
            rw [hV2]
            exact (Only.setCells (S := fun z => z = v1.heap.size) _ rfl _ _ (Only.of (ba v1 _))).below v1.heap.size (Nat.le_refl _) (fun z e => by omega))
          have hlt2 : v1.heap.size < V2.heap.size := by rw [hV2, setCells_size]; simp
          have s16 : Hid (V2.cell? ⟨v1.heap.size, 9, none⟩ = some (.int .u32 (ix 2))) := Lib.hid (by
            have : Seg V2 v1.heap.size 0 (cnL (F 2)) := by rw [hV2]; exact Seg.put HN.out (l11 (F 2))
            rw [← HX2.out]; exact this 9 _ rfl)
          clear hV2 HN X HX2
          generalize hP6 : v1.heap.size = P6 at s16 hlt2 ⊢
          replace hP6 := Lib.hid hP6
          have c16 := s16.out
          have cl : V2.cell? ⟨R, ix 2 * 2 + 1, none⟩ = some (.int .i32 (lF ix L 2)) := ac B2.out (hL.out.rul.l (ix 2) hxn)
          go_upto_region 15 with fail
          refine wp_gen (fun V3 hV3 => ?_)
          have B3 : Hid (Below V2.heap.size V2 V3) := Lib.hid (by rw [hV3]; exact ba _ _)
          have s17 : V3.cell? ⟨V2.heap.size, 0, none⟩ = some (.int .i32 (lF ix L 2)) := by rw [hV3]; simp [go_sem]
          have s16' : V3.cell? ⟨P6, 9, none⟩ = some (.int .u32 (ix 2)) := ac B3.out s16.out
          have hlt3 : V2.heap.size < V3.heap.size := by rw [hV3]; simp
          clear hV3 c16 cl
          have B13 : Hid (Below v1.heap.size v1 V3) := Lib.hid (B2.out.trans (B3.out.mono B2.out.size))
          generalize hP7 : V2.heap.size = P7 at s17 hlt2 hlt3 ⊢
          replace hP7 := Lib.hid hP7
          have HK := Lib.hid (fun hc V' => LP.keep (V' := V') hL.out B13.out hxn (by omega) hc)
          have HT := Lib.hid (fun hc V' => LP.take (V' := V') hL.out B13.out hxn (by omega) hc)
          have hMP : M < P6 := by have := hP6.out; omega
          have mc := ac B13.out hL.out.mc
          have mf : V3.frozen? ⟨M, 0, none⟩ = false := by obtain ⟨_, -, h⟩ := hL.out.mr.after B13.out 0 (by omega); exact h
          obtain ⟨g0, e0, f0⟩ := (hL.out.rul.after B13.out).room (ix 2 * 2) (by omega)
          obtain ⟨g1, e1, f1⟩ := (hL.out.rul.after B13.out).room (ix 2 * 2 + 1) (by omega)
          have HLF := Lib.hid (rfl : lF ix L 2 = lF ix L 2)
          by_cases hcmp : lF ix L 2 < mnF ix L 2
          · have hcm := Lib.hid (Or.inr hcmp : (2 : Nat) = 0 ∨ lF ix L 2 < mnF ix L 2)
            go_upto_region 17 with fail
            refine wp_gen (fun V4 hV4 => ?_)
            replace hV4 := Lib.hid hV4
            have O4 : Hid (Only (fun z => z = M) V3 V4) := Lib.hid (by rw [hV4.out]; exact (Only.refl _).set _ _ rfl)
            replace s16' := O4.out.keep s16' (by show ¬ P6 = M; omega)
            replace e0 := O4.out.keep e0 (by show ¬ R = M; omega)
            replace e1 := O4.out.keep e1 (by show ¬ R = M; omega)
            replace f0 : V4.frozen? ⟨R, ix 2 * 2, none⟩ = false := by rw [hV4.out, fz]; exact f0
            replace f1 : V4.frozen? ⟨R, ix 2 * 2 + 1, none⟩ = false := by rw [hV4.out, fz]; exact f1
            clear mc mf s17
            go_wp2
            go_roundw
            case rel => exact ⟨3, by omega, by go_num, HT.out hcm.out _ (by rw [hV4.out])⟩
            case measure => simp [intOf]
          · have hcm := Lib.hid (by rintro (h | h); exact absurd h (by decide); exact hcmp h : ¬ ((2 : Nat) = 0 ∨ lF ix L 2 < mnF ix L 2))
            go_upto_region 17 with fail
            refine wp_gen (fun V4 hV4 => ?_)
            replace hV4 := Lib.hid hV4
            obtain rfl := hV4.out
            clear mc mf s17
            go_wp2
            go_roundw
            case rel => exact ⟨3, by omega, by go_num, HK.out hcm.out _ rfl⟩
            case measure => simp [intOf]
        · have X := ix63_3 F
          have hx := HIX.out 3 (by omega)
          have hx0 := hx.1
          have hxn : ix 3 < n := by omega
          have HX2 := Lib.hid hx.2
          clear hx
          have x0 : (0 : Int) ≤ (ix 3 : Nat) := by omega
          have x1 : ((ix 3 : Nat) : Int) < n0 := by omega
          have HN := Lib.hid (by have := Room.newN v1 zSd (n := 11) rfl 62; simpa using this : Room (v1.alloc (.cells zSd 62)) v1.heap.size 11)
          go_upto_region 14 with ((with_reducible refine wpList_at (o := ⟨none, .store 62 (.tmp 14) (.tmp 116), _, _, _, _⟩) ?_); refine wpList_store_room (op := ⟨none, .store 62 (.tmp 14) (.tmp 116), _, _, _, _⟩) rfl 62 (.tmp 14) (.tmp 116) rfl v1.heap.size 0 11 (cnL (F 3)) HN.out (l11 (F 3)) rfl rfl (i62 (F 3)) (cnL_one (F 3)) ?_; intro V2 hV2)
          have B2 : Hid (Below v1.heap.size v1 V2) := Lib.hid (by
            rw [hV2]
            exact (Only.setCells (S := fun z => z = v1.heap.size) _ rfl _ _ (Only.of (ba v1 _))).below v1.heap.size (Nat.le_refl _) (fun z e => by omega))
          have hlt2 : v1.heap.size < V2.heap.size := by rw [hV2, setCells_size]; simp
          have s16 : Hid (V2.cell? ⟨v1.heap.size, 9, none⟩ = some (.int .u32 (ix 3))) := Lib.hid (by
            have : Seg V2 v1.heap.size 0 (cnL (F 3)) := by rw [hV2]; exact Seg.put HN.out (l11 (F 3))
            rw [← HX2.out]; exact this 9 _ rfl)
          clear hV2 HN X HX2
          generalize hP6 : v1.heap.size = P6 at s16 hlt2 ⊢
          replace hP6 := Lib.hid hP6
          have c16 := s16.out
          have cl : V2.cell? ⟨R, ix 3 * 2 + 1, none⟩ = some (.int .i32 (lF ix L 3)) := ac B2.out (hL.out.rul.l (ix 3) hxn)
          go_upto_region 15 with fail
          refine wp_gen (fun V3 hV3 => ?_)
          have B3 : Hid (Below V2.heap.size V2 V3) := Lib.hid (by rw [hV3]; exact ba _ _)
          have s17 : V3.cell? ⟨V2.heap.size, 0, none⟩ = some (.int .i32 (lF ix L 3)) := by rw [hV3]; simp [go_sem]
          have s16' : V3.cell? ⟨P6, 9, none⟩ = some (.int .u32 (ix 3)) := ac B3.out s16.out
          have hlt3 : V2.heap.size < V3.heap.size := by rw [hV3]; simp
          clear hV3 c16 cl
          have B13 : Hid (Below v1.heap.size v1 V3) := Lib.hid (B2.out.trans (B3.out.mono B2.out.size))
          generalize hP7 : V2.heap.size = P7 at s17 hlt2 hlt3 ⊢
          replace hP7 := Lib.hid hP7
          have HK := Lib.hid (fun hc V' => LP.keep (V' := V') hL.out B13.out hxn (by omega) hc)
          have HT := Lib.hid (fun hc V' => LP.take (V' := V') hL.out B13.out hxn (by omega) hc)
          have hMP : M < P6 := by have := hP6.out; omega
          have mc := ac B13.out hL.out.mc
          have mf : V3.frozen? ⟨M, 0, none⟩ = false := by obtain ⟨_, -, h⟩ := hL.out.mr.after B13.out 0 (by omega); exact h
          obtain ⟨g0, e0, f0⟩ := (hL.out.rul.after B13.out).room (ix 3 * 2) (by omega)
          obtain ⟨g1, e1, f1⟩ := (hL.out.rul.after B13.out).room (ix 3 * 2 + 1) (by omega)
          have HLF := Lib.hid (rfl : lF ix L 3 = lF ix L 3)
          by_cases hcmp : lF ix L 3 < mnF ix L 3
          · have hcm := Lib.hid (Or.inr hcmp : (3 : Nat) = 0 ∨ lF ix L 3 < mnF ix L 3)
            go_upto_region 17 with fail
            refine wp_gen (fun V4 hV4 => ?_)
            replace hV4 := Lib.hid hV4
            have O4 : Hid (Only (fun z => z = M) V3 V4) := Lib.hid (by rw [hV4.out]; exact (Only.refl _).set _ _ rfl)
            replace s16' := O4.out.keep s16' (by show ¬ P6 = M; omega)
            replace e0 := O4.out.keep e0 (by show ¬ R = M; omega)
            replace e1 := O4.out.keep e1 (by show ¬ R = M; omega)
            replace f0 : V4.frozen? ⟨R, ix 3 * 2, none⟩ = false := by rw [hV4.out, fz]; exact f0
            replace f1 : V4.frozen? ⟨R, ix 3 * 2 + 1, none⟩ = false := by rw [hV4.out, fz]; exact f1
            clear mc mf s17
            go_wp2
            go_roundw
            case rel => exact ⟨4, by omega, by go_num, HT.out hcm.out _ (by rw [hV4.out])⟩
            case measure => simp [intOf]
          · have hcm := Lib.hid (by rintro (h | h); exact absurd h (by decide); exact hcmp h : ¬ ((3 : Nat) = 0 ∨ lF ix L 3 < mnF ix L 3))
            go_upto_region 17 with fail
            refine wp_gen (fun V4 hV4 => ?_)
            replace hV4 := Lib.hid hV4
            obtain rfl := hV4.out
            clear mc mf s17
            go_wp2
            go_roundw
            case rel => exact ⟨4, by omega, by go_num, HK.out hcm.out _ rfl⟩
            case measure => simp [intOf]
        · have c43 : v1.cell? ⟨b, 43, none⟩ = some (.int .u32 (ix 3)) := by
            rw [← (HIX.out 3 (by omega)).2]
            exact hL.out.only.keep (by simpa using t7.out.cn 3 (by omega) 9 _ rfl) (by show ¬ (b = R ∨ b = M); have := HbR.out; omega)
          have c0 : v1.cell? ⟨b, 0, none⟩ = some (.string kt) := hL.out.only.keep t7.out.ct (by show ¬ (b = R ∨ b = M); have := HbR.out; omega)
          have c46 : v1.cell? ⟨b, 46, none⟩ = some (.bool imp) := hL.out.only.keep t7.out.im (by show ¬ (b = R ∨ b = M); have := HbR.out; omega)
          have c47 : v1.cell? ⟨b, 47, none⟩ = some (.int .u16 ky) := hL.out.only.keep t7.out.ck (by show ¬ (b = R ∨ b = M); have := HbR.out; omega)
          have cM := hL.out.mc
          have cP0 : v1.cell? ⟨P, 0, none⟩ = some (.int .i32 lo) := hL.out.only.keep lo7.out (by show ¬ (P = R ∨ P = M); omega)
          have cP1 : v1.cell? ⟨P, 1, none⟩ = some (.int .i32 len) := hL.out.only.keep len7.out (by show ¬ (P = R ∨ P = M); omega)
          have hx0 := (HIX.out 3 (by omega)).1
          have hx : ix 3 < n := by omega
          have x0 : (0 : Int) ≤ (ix 3 : Nat) := by omega
          have x1 : ((ix 3 : Nat) : Int) < n0 := by omega
          obtain ⟨g0, e0, f0⟩ := hL.out.rul.room (ix 3 * 2) (by omega)
          obtain ⟨g1, e1, f1⟩ := hL.out.rul.room (ix 3 * 2 + 1) (by omega)
          have hfin := Lib.hid (fun V hb => LP.done (V := V) hL.out hb hx (by omega))
          have hRv : R < v1.heap.size := by omega
          have hbv : b < v1.heap.size := by omega
          have hPv : P < v1.heap.size := by omega
          go_wp2
          go_region
          refine bodyPost_end (v := .tuple #[]) (by simp [results, Tryd.results21, go_sem]) rfl ?_
          obtain ⟨hO, hRu⟩ := hfin.out v1 (Below.refl _ _) v1.heap.size
          have hsz : ((v1.setCell ⟨R, ix 3 * 2, none⟩ (.iface 32 (.pointer (some ⟨v1.heap.size, 0, none⟩)))).setCell ⟨R, ix 3 * 2 + 1, none⟩ (.int .i32 (mnF ix L 4))).heap.size = v1.heap.size := by simp [World.setCell]
          exact comp_end hRu hO bw7.out hwM.out q7.out hT1.out (by have := hT1.out; have := hP.out; omega) (by omega) hsz
end Go.Proofs.YtgijoikmggjopaaDoor
