/- FnNameTokenReadsCurrentToken: a new parser. -/
import Derived.Test.YtbakdeoeceajeaaDoorNt1
import Derived.Test.YtbakdeoeceajeaaDoorRl
import Derived.BigRegion
set_option linter.unusedVariables false
set_option linter.unusedSimpArgs false
namespace Go.Proofs.YtbakdeoeceajeaaDoor
open Go.RowKit
theorem room5 (w : World) (a c d e : Obj) (Z : Array Value) (t : TypeId) {n : Nat} (hz : Z.size = n) : Room (((((w.alloc a).alloc (.cells Z t)).alloc c).alloc d).alloc e) (w.heap.size + 1) n := by
  subst hz
  have := (((Room.new (w.alloc a) Z t).after (ba _ c)).after (ba _ d)).after (ba _ e)
  simpa using this
theorem below5 (w : World) (a b c d e : Obj) : Below w.heap.size w (((((w.alloc a).alloc b).alloc c).alloc d).alloc e) := by
  refine Below.alloc ?_ (by simp; omega) _
  refine Below.alloc ?_ (by simp; omega) _
  refine Below.alloc ?_ (by simp; omega) _
  refine Below.alloc ?_ (by simp) _
  exact ba _ _
theorem i64 (x0 x1 x2 x3 x4 x5 : Value) : (Tryd.prog.info? 64).map (·.size) = some ([x0, x1, x2, x3, x4, x5] : List Value).length := (by kernel_rfl : (Tryd.prog.info? 64).map (·.size) = some 6)
theorem seg6 {x0 x1 x2 x3 x4 x5 : Value} {w V : World} {b : Nat} (h : Room w b 6) (hV : V = w.setCells b 0 [x0, x1, x2, x3, x4, x5]) : V.cell? ⟨b, 0, none⟩ = some x0 ∧ V.cell? ⟨b, 1, none⟩ = some x1 ∧ V.cell? ⟨b, 2, none⟩ = some x2 ∧ V.cell? ⟨b, 3, none⟩ = some x3 ∧ V.cell? ⟨b, 4, none⟩ = some x4 ∧ V.cell? ⟨b, 5, none⟩ = some x5 := by
  subst hV
  have s : Seg (w.setCells b 0 [x0, x1, x2, x3, x4, x5]) b 0 [x0, x1, x2, x3, x4, x5] := Seg.put h (by show 0 + 6 ≤ 6; omega)
  exact ⟨s 0 _ rfl, s 1 _ rfl, s 2 _ rfl, s 3 _ rfl, s 4 _ rfl, s 5 _ rfl⟩
def LogP (w : World) (e : Ending) (w' : World) : Prop := ∃ x0 x1 x2 x3 x4 x5 : Value, e = .returned (.agg #[x0, x1, x2, x3, x4, x5]) ∧ (∀ v ∈ ([x0, x1, x2, x3, x4, x5] : List Value), v.oneCell' = true) ∧ Below w.heap.size w w'
theorem one6 {x0 x1 x2 x3 x4 x5 : Value} (h0 : x0.oneCell' = true) (h1 : x1.oneCell' = true) (h2 : x2.oneCell' = true) (h3 : x3.oneCell' = true) (h4 : x4.oneCell' = true) (h5 : x5.oneCell' = true) : ∀ v ∈ ([x0, x1, x2, x3, x4, x5] : List Value), v.oneCell' = true := by
  intro v hv
  simp only [List.mem_cons, List.not_mem_nil, or_false] at hv
  rcases hv with rfl | rfl | rfl | rfl | rfl | rfl <;> assumption
set_option maxRecDepth 100000 in
set_option maxHeartbeats 4000000 in
theorem log_c (w : World) : Calls Tryd.prog 13 #[.int .u8 1, .map none] w (LogP w) := by
  go_enter Tryd.func13, Tryd.ntmps13
  go_upto_region 4 with fail
  refine wp_gen (fun W0 hW => ?_)
  have r0 : Hid (Room W0 (w.heap.size + 1) 6) := Lib.hid (by rw [hW]; exact room5 _ _ _ _ _ _ _ rfl)
  have b0 : Hid (Below w.heap.size w W0) := Lib.hid (by rw [hW]; exact below5 _ _ _ _ _ _)
  clear hW
  obtain ⟨B1, hB1⟩ : ∃ x, w.heap.size + 1 = x := ⟨_, rfl⟩
  obtain ⟨B2, hB2⟩ : ∃ x, B1 + 1 = x := ⟨_, rfl⟩
  obtain ⟨B3, hB3⟩ : ∃ x, B2 + 1 = x := ⟨_, rfl⟩
  obtain ⟨B4, hB4⟩ : ∃ x, B3 + 1 = x := ⟨_, rfl⟩
  rw [hB1] at r0 ⊢
  rw [hB2]
  rw [hB3]
  rw [hB4]
  have hge : w.heap.size ≤ B1 := by omega
  clear hB1 hB2 hB3 hB4
  obtain ⟨f1, hf1⟩ : ∃ v, v = Value.func (.func 16) #[] #[.pointer (some ⟨w.heap.size, 0, none⟩), .pointer (some ⟨B3, 0, none⟩), .pointer (some ⟨B4, 0, none⟩), .pointer (some ⟨B2, 0, none⟩)] := ⟨_, rfl⟩
  have o6 := one6 (x0 := .func (.func 16) #[] #[.pointer (some ⟨w.heap.size, 0, none⟩), .pointer (some ⟨B3, 0, none⟩), .pointer (some ⟨B4, 0, none⟩), .pointer (some ⟨B2, 0, none⟩)]) (x1 := .func (.func 19) #[] #[.pointer (some ⟨B3, 0, none⟩), .pointer (some ⟨B4, 0, none⟩)]) (x2 := .func (.func 20) #[] #[.pointer (some ⟨B3, 0, none⟩), .pointer (some ⟨B2, 0, none⟩)]) (x3 := .func (.func 21) #[] #[.pointer (some ⟨B3, 0, none⟩), .pointer (some ⟨B2, 0, none⟩)]) (x4 := .int .i8 3) (x5 := .map none) rfl rfl rfl rfl rfl rfl
  clear hf1
  go_wp2_with ((with_reducible refine wpList_at (o := ⟨none, .store 64 (.tmp 4) (.tmp 13), _, _, _, _⟩) ?_); refine wpList_store_room (op := ⟨none, .store 64 (.tmp 4) (.tmp 13), _, _, _, _⟩) rfl 64 (.tmp 4) (.tmp 13) rfl B1 0 6 _ r0.out (by show 0 + 6 ≤ 6; omega) rfl rfl (i64 _ _ _ _ _ _) o6 ?_; intro V hV; replace hV := Lib.hid hV)
  obtain ⟨c0, c1, c2, c3, c4, c5⟩ := seg6 r0.out hV.out
  refine bodyPost_ret (v := .agg #[_, _, _, _, _, _]) (by simp only [results, Tryd.results13, go_sem, Act.put]; simp [go_sem, c0, c1, c2, c3, c4, c5]) rfl ⟨_, _, _, _, _, _, rfl, o6, ?_⟩
  exact b0.out.trans (by rw [hV.out]; exact (Only.setCells (S := fun z => z = B1) B1 rfl _ _ (Only.refl _)).below w.heap.size b0.out.size (fun z e => by omega))
abbrev trkA (C p0 p1 : ByteArray) : Array Value := #[.string C, .string p0, .string p1, .int .i32 0, .int .i32 0, .int .i32 0, .int .i32 0, .bool true, .bool false, .bool true]
set_option maxRecDepth 100000 in
set_option maxHeartbeats 4000000 in
theorem trk_c (b : Nat) (p0 p1 C : ByteArray) (w : World) (h0 : w.cell? ⟨b, 0, none⟩ = some (.string p0)) (h1 : w.cell? ⟨b, 1, none⟩ = some (.string p1)) (h3 : w.cell? ⟨b, 3, none⟩ = some (.string C)) : Calls Tryd.prog 14 #[.pointer (some ⟨b, 0, none⟩)] w (Gv (.agg (trkA C p0 p1)) w) := by
  have k0 := fun o => al h0 o
  have k1 := fun o => al h1 o
  have k3 := fun o => al h3 o
  have hb : b < w.heap.size := block_lt_of_cell h0
  clear h0 h1 h3
  go_enter Tryd.func14, Tryd.ntmps14
  go_wp2
  go_region
  go_wp2
  exact bodyPost_ret (v := .agg (trkA C p0 p1)) (by simp [results, Tryd.results14, go_sem]) rfl ⟨rfl, (ba _ _).drew⟩
abbrev srcA (C : ByteArray) : Array Value := #[.string ⟨#[]⟩, .string ⟨#[]⟩, .string ⟨#[]⟩, .string C, .string ⟨#[]⟩, .string ⟨#[]⟩, .string ⟨#[]⟩, .string ⟨#[]⟩, .int .u8 0, .int .u32 0]
def R7 (B : Nat) (C : ByteArray) (A : Option Addr) (n c i : Nat) (k : Nat) (v : Value) (W : World) : Prop :=
  if k = 0 then ∃ x0 x1 x2 x3 x4 x5 : Value, v = .agg #[x0, x1, x2, x3, x4, x5] ∧ (∀ v ∈ ([x0, x1, x2, x3, x4, x5] : List Value), v.oneCell' = true)
  else if k = 1 then v = .agg (srcA C)
  else if k = 2 then v = .agg (trkA C ⟨#[]⟩ ⟨#[]⟩)
  else if k = 3 then v = .slice A n c
  else if k = 4 then ∃ m, v = .map (some m)
  else if k = 5 then ∃ m, v = .map (some m)
  else if k = 6 then v = .int .i64 i
  else if k = 7 then ∃ cs : Array Value, v = .agg cs ∧ cs.size = 56 ∧ cs[9]? = some (.string C) ∧ cs[16]? = some (.slice A n c) ∧ cs[42]? = some (.int .i64 i)
  else ∃ P, v = .pointer (some ⟨P, 0, none⟩) ∧ B ≤ P ∧ W.cell? ⟨P, 9, none⟩ = some (.string C) ∧ W.cell? ⟨P, 16, none⟩ = some (.slice A n c) ∧ W.cell? ⟨P, 42, none⟩ = some (.int .i64 i)
theorem R7.after {B : Nat} {C : ByteArray} {A : Option Addr} {n c i : Nat} (k : Nat) (v : Value) (W W' : World) (hb : Below W.heap.size W W') (h : R7 B C A n c i k v W) : R7 B C A n c i k v W' := by
  unfold R7 at *
  repeat' split
  all_goals try simp_all only [if_true, if_false]
  obtain ⟨P, a, b, c1, c2, c3⟩ := h
  exact ⟨P, a, b, ac hb c1, ac hb c2, ac hb c3⟩
set_option maxRecDepth 100000 in
set_option maxHeartbeats 4000000 in
theorem new7_c (C : ByteArray) (A : Option Addr) (n c i : Nat) (w : World) : Calls Tryd.prog 7 #[.string C, .slice A n c, .int .i64 i] w (fun e w' => ∃ P, e = .returned (.pointer (some ⟨P, 0, none⟩)) ∧ w.heap.size ≤ P ∧ w'.cell? ⟨P, 9, none⟩ = some (.string C) ∧ w'.cell? ⟨P, 16, none⟩ = some (.slice A n c) ∧ w'.cell? ⟨P, 42, none⟩ = some (.int .i64 i) ∧ Below w.heap.size w w') := by
  have hmm := @run_makeMap Tryd.prog
  go_enter Tryd.func7, Tryd.ntmps7
  go_upto_region 2 with fail
  refine wp_gen (fun W0 hW => ?_)
  have b0 : Hid (Below w.heap.size w W0) := Lib.hid (by rw [hW]; exact ba _ _)
  have s0 : Hid (Seg W0 w.heap.size 0 (srcA C).toList) := Lib.hid (by rw [hW]; exact Seg.new _ _ _)
  clear hW
  obtain ⟨S, hS⟩ : ∃ x, w.heap.size = x := ⟨_, rfl⟩
  rw [hS]
  rw [hS] at s0 b0
  refine QTail.drawn_rel 9 (R7 S C A n c i) (by kernel_rfl) (by kernel_rfl) (fun i v W W' h1 h2 => R7.after i v W W' h1 h2) ?_ ?_
  · simp only [List.take_succ_cons, List.take_zero]
    refine ⟨?_, ?_, ?_, ?_, ?_, ?_, ?_, ?_, ?_, trivial⟩
    all_goals intro vs W hC hd
    · have C13 := Lib.hid (fun w => log_c w)
      clear hd hC
      simp only [QTail.putA, Nat.reduceAdd, Act.put, List.setIfInBounds_toArray, List.set_cons_succ, List.set_cons_zero]
      go_wp2_with (go_at_call 13; (with_reducible refine (C13.out _).mono ?_); rintro e w5 ⟨x0, x1, x2, x3, x4, x5, rfl, ho, hb5⟩; replace hb5 := Lib.hid hb5; replace ho := Lib.hid ho)
      exact ⟨⟨_, _, _, _, _, _, rfl, ho.out⟩, hb5.out⟩
    · have s1 : Seg W S 0 (srcA C).toList := fun j v hj => ac hC (s0.out j v hj)
      have k0 := s1 0 _ rfl
      have k1 := s1 1 _ rfl
      have k2 := s1 2 _ rfl
      have k3 := s1 3 _ rfl
      have k4 := s1 4 _ rfl
      have k5 := s1 5 _ rfl
      have k6 := s1 6 _ rfl
      have k7 := s1 7 _ rfl
      have k8 := s1 8 _ rfl
      have k9 := s1 9 _ rfl
      clear s1 hd hC
      simp only [Nat.zero_add] at k0 k1 k2 k3 k4 k5 k6 k7 k8 k9
      simp only [QTail.putA, Nat.reduceAdd, Act.put, List.setIfInBounds_toArray, List.set_cons_succ, List.set_cons_zero]
      go_wp2
      exact ⟨rfl, Below.refl _ _⟩
    · have s1 : Seg W S 0 (srcA C).toList := fun j v hj => ac hC (s0.out j v hj)
      have T := Lib.hid (trk_c S ⟨#[]⟩ ⟨#[]⟩ C W (s1 0 _ rfl) (s1 1 _ rfl) (s1 3 _ rfl))
      clear s1 hd hC
      simp only [QTail.putA, Nat.reduceAdd, Act.put, List.setIfInBounds_toArray, List.set_cons_succ, List.set_cons_zero]
      go_wp2_with (go_at_call 14; (with_reducible refine T.out.mono ?_); rintro e w5 ⟨rfl, hb5⟩; replace hb5 := Lib.hid hb5)
      exact ⟨rfl, hb5.out⟩
    · clear hd hC
      simp only [QTail.putA, Nat.reduceAdd, Act.put, List.setIfInBounds_toArray, List.set_cons_succ, List.set_cons_zero]
      go_wp2
      exact ⟨rfl, Below.refl _ _⟩
    · clear hd hC
      simp only [QTail.putA, Nat.reduceAdd, Act.put, List.setIfInBounds_toArray, List.set_cons_succ, List.set_cons_zero]
      go_wp2
      exact ⟨⟨_, rfl⟩, ba _ _⟩
    · clear hd hC
      simp only [QTail.putA, Nat.reduceAdd, Act.put, List.setIfInBounds_toArray, List.set_cons_succ, List.set_cons_zero]
      go_wp2
      exact ⟨⟨_, rfl⟩, ba _ _⟩
    · clear hd hC
      simp only [QTail.putA, Nat.reduceAdd, Act.put, List.setIfInBounds_toArray, List.set_cons_succ, List.set_cons_zero]
      go_wp2
      exact ⟨rfl, Below.refl _ _⟩
    · obtain ⟨x0, x1, x2, x3, x4, x5, h0, ho⟩ := hd { on := 0, ground := Ground.data } (by simp) rfl
      have h1 : vs 1 = .agg (srcA C) := hd { on := 1, ground := Ground.data } (by simp) rfl
      have h2 : vs 2 = .agg (trkA C ⟨#[]⟩ ⟨#[]⟩) := hd { on := 2, ground := Ground.data } (by simp) rfl
      have h3 : vs 3 = .slice A n c := hd { on := 3, ground := Ground.data } (by simp) rfl
      obtain ⟨m4, h4⟩ := hd { on := 4, ground := Ground.data } (by simp) rfl
      obtain ⟨m5, h5⟩ := hd { on := 5, ground := Ground.data } (by simp) rfl
      have h6 : vs 6 = .int .i64 i := hd { on := 6, ground := Ground.data } (by simp) rfl
      replace ho := Lib.hid ho
      clear hd hC
      simp only [QTail.putA, Nat.reduceAdd, Act.put, List.setIfInBounds_toArray, List.set_cons_succ, List.set_cons_zero]
      go_wp2
      exact ⟨⟨_, rfl, rfl, rfl, rfl, rfl⟩, Below.refl _ _⟩
    · obtain ⟨cs, h7, z7, c1, c2, c3⟩ := hd { on := 7, ground := Ground.data } (by simp) rfl
      have hC' := Lib.hid hC
      clear hd hC
      simp only [QTail.putA, Nat.reduceAdd, Act.put, List.setIfInBounds_toArray, List.set_cons_succ, List.set_cons_zero]
      replace h7 : vs 7 = .agg cs := h7
      have e1 : (W.alloc (.cells cs 91)).cell? ⟨W.heap.size, 9, none⟩ = some (.string C) := by simpa using Seg.new W cs.toList 91 9 (.string C) (by simpa using c1)
      have e2 : (W.alloc (.cells cs 91)).cell? ⟨W.heap.size, 16, none⟩ = some (.slice A n c) := by simpa using Seg.new W cs.toList 91 16 (.slice A n c) (by simpa using c2)
      have e3 : (W.alloc (.cells cs 91)).cell? ⟨W.heap.size, 42, none⟩ = some (.int .i64 i) := by simpa using Seg.new W cs.toList 91 42 (.int .i64 i) (by simpa using c3)
      replace e1 := Lib.hid e1
      replace e2 := Lib.hid e2
      replace e3 := Lib.hid e3
      have hW0 : S ≤ W.heap.size := Nat.le_trans (by rw [← hS]; exact b0.out.size) hC'.out.size
      clear c1 c2 c3 hC' b0 s0
      go_wp2
      exact ⟨⟨_, rfl, hW0, e1.out, e2.out, e3.out⟩, ba _ _⟩
  · intro vs W3 b3 hR
    obtain ⟨P, h8, hP, d1, d2, d3⟩ := hR 8 (by omega)
    replace b3 := Lib.hid b3
    clear hR
    simp only [List.take_succ_cons, List.take_zero, List.drop_succ_cons, List.drop_zero, QTail.putA, Nat.reduceAdd, Act.put, List.setIfInBounds_toArray, List.set_cons_succ, List.set_cons_zero]
    rw [h8]
    clear h8
    go_wp2
    go_ret
    exact ⟨_, rfl, hP, d1, d2, d3, b0.out.trans (b3.out.mono (by have := b0.out.size; omega))⟩
end Go.Proofs.YtbakdeoeceajeaaDoor
