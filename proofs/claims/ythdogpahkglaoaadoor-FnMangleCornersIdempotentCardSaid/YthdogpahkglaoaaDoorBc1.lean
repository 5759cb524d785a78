/- The laws on border-radius: the small functions. -/
import Derived.Test.YthdogpahkglaoaaDoorMk
import Derived.Test.YthdogpahkglaoaaDoorArg
import Derived.Test.YthdogpahkglaoaaDoorIU
import Derived.OwnWalk
set_option linter.unusedVariables false
set_option linter.unusedSimpArgs false
namespace Go.Proofs.YthdogpahkglaoaaDoor
open Go.RowKit
def Gv (v : Value) (w : World) (e : Ending) (w' : World) : Prop := e = .returned v ∧ Below w.heap.size w w'
def kdC (c : Int) : Int := if c % 8 = 0 then 34 else if c % 8 = 1 then 34 else if c % 8 = 2 then 34 else if c % 8 = 3 then 30 else if c % 8 = 4 then 34 else if c % 8 = 5 then 30 else if c % 8 = 6 then 29 else 24
def txC (c : Int) : ByteArray := if c % 8 = 0 then ⟨#[49, 37]⟩ else if c % 8 = 1 then ⟨#[50, 37]⟩ else if c % 8 = 2 then ⟨#[51, 37]⟩ else if c % 8 = 3 then ⟨#[48]⟩ else if c % 8 = 4 then ⟨#[53, 48, 37]⟩ else if c % 8 = 5 then ⟨#[49]⟩ else if c % 8 = 6 then ⟨#[97, 117, 116, 111]⟩ else ⟨#[47]⟩
/-- the token of a code -/
def zk (c : Int) : Tk := ⟨.pointer none, txC c, 0, 0, 0, kdC c, 0⟩
set_option maxRecDepth 100000 in
set_option maxHeartbeats 4000000 in
theorem tok_0 (c : Int) (w : World) (h0 : 0 ≤ c) (h1 : c ≤ 255) (h : c % 8 = 0) : Calls Tryd.prog 5 #[.int .u8 c] w (Gv (.agg #[.pointer none, .string ⟨#[49, 37]⟩, .int .i32 0, .int .u32 0, .int .u16 0, .int .u8 34, .int .u8 0]) w) := by
  go_enter Tryd.func5, Tryd.ntmps5
  go_wp2
  exact bodyPost_ret (v := .agg #[.pointer none, .string ⟨#[49, 37]⟩, .int .i32 0, .int .u32 0, .int .u16 0, .int .u8 34, .int .u8 0]) (by simp [results, Tryd.results5, go_sem]) rfl ⟨rfl, by repeat (first | exact ba _ _ | refine Below.setCell ?_ (Nat.le_refl _) _)⟩
set_option maxRecDepth 100000 in
set_option maxHeartbeats 4000000 in
theorem tok_1 (c : Int) (w : World) (h0 : 0 ≤ c) (h1 : c ≤ 255) (n0 : (c % 8 == 0) = false) (h : c % 8 = 1) : Calls Tryd.prog 5 #[.int .u8 c] w (Gv (.agg #[.pointer none, .string ⟨#[50, 37]⟩, .int .i32 0, .int .u32 0, .int .u16 0, .int .u8 34, .int .u8 0]) w) := by
  go_enter Tryd.func5, Tryd.ntmps5
  go_wp2
  exact bodyPost_ret (v := .agg #[.pointer none, .string ⟨#[50, 37]⟩, .int .i32 0, .int .u32 0, .int .u16 0, .int .u8 34, .int .u8 0]) (by simp [results, Tryd.results5, go_sem]) rfl ⟨rfl, by repeat (first | exact ba _ _ | refine Below.setCell ?_ (Nat.le_refl _) _)⟩
set_option maxRecDepth 100000 in
set_option maxHeartbeats 4000000 in
theorem tok_2 (c : Int) (w : World) (h0 : 0 ≤ c) (h1 : c ≤ 255) (n0 : (c % 8 == 0) = false) (n1 : (c % 8 == 1) = false) (h : c % 8 = 2) : Calls Tryd.prog 5 #[.int .u8 c] w (Gv (.agg #[.pointer none, .string ⟨#[51, 37]⟩, .int .i32 0, .int .u32 0, .int .u16 0, .int .u8 34, .int .u8 0]) w) := by
  go_enter Tryd.func5, Tryd.ntmps5
  go_wp2
  exact bodyPost_ret (v := .agg #[.pointer none, .string ⟨#[51, 37]⟩, .int .i32 0, .int .u32 0, .int .u16 0, .int .u8 34, .int .u8 0]) (by simp [results, Tryd.results5, go_sem]) rfl ⟨rfl, by repeat (first | exact ba _ _ | refine Below.setCell ?_ (Nat.le_refl _) _)⟩
set_option maxRecDepth 100000 in
set_option maxHeartbeats 4000000 in
theorem tok_3 (c : Int) (w : World) (h0 : 0 ≤ c) (h1 : c ≤ 255) (n0 : (c % 8 == 0) = false) (n1 : (c % 8 == 1) = false) (n2 : (c % 8 == 2) = false) (h : c % 8 = 3) : Calls Tryd.prog 5 #[.int .u8 c] w (Gv (.agg #[.pointer none, .string ⟨#[48]⟩, .int .i32 0, .int .u32 0, .int .u16 0, .int .u8 30, .int .u8 0]) w) := by
  go_enter Tryd.func5, Tryd.ntmps5
  go_wp2
  exact bodyPost_ret (v := .agg #[.pointer none, .string ⟨#[48]⟩, .int .i32 0, .int .u32 0, .int .u16 0, .int .u8 30, .int .u8 0]) (by simp [results, Tryd.results5, go_sem]) rfl ⟨rfl, by repeat (first | exact ba _ _ | refine Below.setCell ?_ (Nat.le_refl _) _)⟩
set_option maxRecDepth 100000 in
set_option maxHeartbeats 4000000 in
theorem tok_4 (c : Int) (w : World) (h0 : 0 ≤ c) (h1 : c ≤ 255) (n0 : (c % 8 == 0) = false) (n1 : (c % 8 == 1) = false) (n2 : (c % 8 == 2) = false) (n3 : (c % 8 == 3) = false) (h : c % 8 = 4) : Calls Tryd.prog 5 #[.int .u8 c] w (Gv (.agg #[.pointer none, .string ⟨#[53, 48, 37]⟩, .int .i32 0, .int .u32 0, .int .u16 0, .int .u8 34, .int .u8 0]) w) := by
  go_enter Tryd.func5, Tryd.ntmps5
  go_wp2
  exact bodyPost_ret (v := .agg #[.pointer none, .string ⟨#[53, 48, 37]⟩, .int .i32 0, .int .u32 0, .int .u16 0, .int .u8 34, .int .u8 0]) (by simp [results, Tryd.results5, go_sem]) rfl ⟨rfl, by repeat (first | exact ba _ _ | refine Below.setCell ?_ (Nat.le_refl _) _)⟩
set_option maxRecDepth 100000 in
set_option maxHeartbeats 4000000 in
theorem tok_5 (c : Int) (w : World) (h0 : 0 ≤ c) (h1 : c ≤ 255) (n0 : (c % 8 == 0) = false) (n1 : (c % 8 == 1) = false) (n2 : (c % 8 == 2) = false) (n3 : (c % 8 == 3) = false) (n4 : (c % 8 == 4) = false) (h : c % 8 = 5) : Calls Tryd.prog 5 #[.int .u8 c] w (Gv (.agg #[.pointer none, .string ⟨#[49]⟩, .int .i32 0, .int .u32 0, .int .u16 0, .int .u8 30, .int .u8 0]) w) := by
  go_enter Tryd.func5, Tryd.ntmps5
  go_wp2
  exact bodyPost_ret (v := .agg #[.pointer none, .string ⟨#[49]⟩, .int .i32 0, .int .u32 0, .int .u16 0, .int .u8 30, .int .u8 0]) (by simp [results, Tryd.results5, go_sem]) rfl ⟨rfl, by repeat (first | exact ba _ _ | refine Below.setCell ?_ (Nat.le_refl _) _)⟩
set_option maxRecDepth 100000 in
set_option maxHeartbeats 4000000 in
theorem tok_6 (c : Int) (w : World) (h0 : 0 ≤ c) (h1 : c ≤ 255) (n0 : (c % 8 == 0) = false) (n1 : (c % 8 == 1) = false) (n2 : (c % 8 == 2) = false) (n3 : (c % 8 == 3) = false) (n4 : (c % 8 == 4) = false) (n5 : (c % 8 == 5) = false) (h : c % 8 = 6) : Calls Tryd.prog 5 #[.int .u8 c] w (Gv (.agg #[.pointer none, .string ⟨#[97, 117, 116, 111]⟩, .int .i32 0, .int .u32 0, .int .u16 0, .int .u8 29, .int .u8 0]) w) := by
  go_enter Tryd.func5, Tryd.ntmps5
  go_wp2
  exact bodyPost_ret (v := .agg #[.pointer none, .string ⟨#[97, 117, 116, 111]⟩, .int .i32 0, .int .u32 0, .int .u16 0, .int .u8 29, .int .u8 0]) (by simp [results, Tryd.results5, go_sem]) rfl ⟨rfl, by repeat (first | exact ba _ _ | refine Below.setCell ?_ (Nat.le_refl _) _)⟩
set_option maxRecDepth 100000 in
set_option maxHeartbeats 4000000 in
theorem tok_7 (c : Int) (w : World) (h0 : 0 ≤ c) (h1 : c ≤ 255) (n0 : (c % 8 == 0) = false) (n1 : (c % 8 == 1) = false) (n2 : (c % 8 == 2) = false) (n3 : (c % 8 == 3) = false) (n4 : (c % 8 == 4) = false) (n5 : (c % 8 == 5) = false) (n6 : (c % 8 == 6) = false) : Calls Tryd.prog 5 #[.int .u8 c] w (Gv (.agg #[.pointer none, .string ⟨#[47]⟩, .int .i32 0, .int .u32 0, .int .u16 0, .int .u8 24, .int .u8 0]) w) := by
  go_enter Tryd.func5, Tryd.ntmps5
  go_wp2
  exact bodyPost_ret (v := .agg #[.pointer none, .string ⟨#[47]⟩, .int .i32 0, .int .u32 0, .int .u16 0, .int .u8 24, .int .u8 0]) (by simp [results, Tryd.results5, go_sem]) rfl ⟨rfl, by repeat (first | exact ba _ _ | refine Below.setCell ?_ (Nat.le_refl _) _)⟩
theorem tok_c (c : Int) (w : World) (h0 : 0 ≤ c) (h1 : c ≤ 255) : Calls Tryd.prog 5 #[.int .u8 c] w (Gv (zk c).val w) := by
  show Calls Tryd.prog 5 #[.int .u8 c] w (Gv (.agg #[.pointer none, .string (txC c), .int .i32 0, .int .u32 0, .int .u16 0, .int .u8 (kdC c), .int .u8 0]) w)
  unfold txC kdC
  by_cases a0 : c % 8 = 0
  · rw [if_pos a0, if_pos a0]; exact tok_0 c w h0 h1 a0
  by_cases a1 : c % 8 = 1
  · rw [if_neg a0, if_pos a1, if_neg a0, if_pos a1]; exact tok_1 c w h0 h1 (by simpa using a0) a1
  by_cases a2 : c % 8 = 2
  · rw [if_neg a0, if_neg a1, if_pos a2, if_neg a0, if_neg a1, if_pos a2]; exact tok_2 c w h0 h1 (by simpa using a0) (by simpa using a1) a2
  by_cases a3 : c % 8 = 3
  · rw [if_neg a0, if_neg a1, if_neg a2, if_pos a3, if_neg a0, if_neg a1, if_neg a2, if_pos a3]; exact tok_3 c w h0 h1 (by simpa using a0) (by simpa using a1) (by simpa using a2) a3
  by_cases a4 : c % 8 = 4
  · rw [if_neg a0, if_neg a1, if_neg a2, if_neg a3, if_pos a4, if_neg a0, if_neg a1, if_neg a2, if_neg a3, if_pos a4]; exact tok_4 c w h0 h1 (by simpa using a0) (by simpa using a1) (by simpa using a2) (by simpa using a3) a4
  by_cases a5 : c % 8 = 5
  · rw [if_neg a0, if_neg a1, if_neg a2, if_neg a3, if_neg a4, if_pos a5, if_neg a0, if_neg a1, if_neg a2, if_neg a3, if_neg a4, if_pos a5]; exact tok_5 c w h0 h1 (by simpa using a0) (by simpa using a1) (by simpa using a2) (by simpa using a3) (by simpa using a4) a5
  by_cases a6 : c % 8 = 6
  · rw [if_neg a0, if_neg a1, if_neg a2, if_neg a3, if_neg a4, if_neg a5, if_pos a6, if_neg a0, if_neg a1, if_neg a2, if_neg a3, if_neg a4, if_neg a5, if_pos a6]; exact tok_6 c w h0 h1 (by simpa using a0) (by simpa using a1) (by simpa using a2) (by simpa using a3) (by simpa using a4) (by simpa using a5) a6
  rw [if_neg a0, if_neg a1, if_neg a2, if_neg a3, if_neg a4, if_neg a5, if_neg a6, if_neg a0, if_neg a1, if_neg a2, if_neg a3, if_neg a4, if_neg a5, if_neg a6]; exact tok_7 c w h0 h1 (by simpa using a0) (by simpa using a1) (by simpa using a2) (by simpa using a3) (by simpa using a4) (by simpa using a5) (by simpa using a6)
set_option maxRecDepth 100000 in
set_option maxHeartbeats 4000000 in
theorem num_c (k : Int) (w : World) : Calls Tryd.prog 21 #[.int .u8 k] w (fun e w' => e = .returned (.bool (k == 30 || k == 34 || k == 26)) ∧ w = w') := by
  cases a : k == 30 <;> cases b : k == 34 <;> cases d : k == 26
  all_goals
    go_enter Tryd.func21, Tryd.ntmps21
    go_wp2
    go_ret
    exact ⟨rfl, rfl⟩
/-- equal but for whitespace -/
def tkEq (s t : Tk) : Bool := s.kd == t.kd && (s.tx.toList == t.tx.toList) && s.pl == t.pl
set_option maxRecDepth 100000 in
set_option maxHeartbeats 4000000 in
theorem eq_c (s t : Tk) (hs : s.ch = .pointer none) (ht : t.ch = .pointer none) (w : World) : Calls Tryd.prog 24 #[s.val, t.val] w (Gv (.bool (tkEq s t)) w) := by
  obtain ⟨c, x, lo, pl, uo, kd, ws⟩ := s
  obtain ⟨c', x', lo', pl', uo', kd', ws'⟩ := t
  dsimp only at hs ht
  subst hs ht
  unfold tkEq
  dsimp only
  have go : ∀ (b1 b2 b3 : Bool), (kd == kd') = b1 → (x.toList == x'.toList) = b2 → (pl == pl') = b3 → Calls Tryd.prog 24 #[(⟨.pointer none, x, lo, pl, uo, kd, ws⟩ : Tk).val, (⟨.pointer none, x', lo', pl', uo', kd', ws'⟩ : Tk).val] w (Gv (.bool (b1 && b2 && b3)) w) := by
    intro b1 b2 b3 h1 h2 h3
    cases b1 <;> cases b2 <;> cases b3
    all_goals
      go_enter Tryd.func24, Tryd.ntmps24
      go_wp2
      go_ret
      exact ⟨rfl, ((ba _ _).alloc (by simp) _)⟩
  exact go _ _ _ rfl rfl rfl
set_option maxRecDepth 100000 in
set_option maxHeartbeats 4000000 in
theorem same_c (t : Tk) (c : Int) (h0 : 0 ≤ c) (h1 : c ≤ 255) (w : World) : Calls Tryd.prog 29 #[t.val, .int .u8 c] w (Gv (.bool (t.kd == kdC c && (t.tx.toList == (txC c).toList))) w) := by
  obtain ⟨ch, x, lo, pl, uo, kd, ws⟩ := t
  have C5 := Lib.hid (fun w => tok_c c w h0 h1)
  have e5 : (zk c).val = .agg #[.pointer none, .string (txC c), .int .i32 0, .int .u32 0, .int .u16 0, .int .u8 (kdC c), .int .u8 0] := rfl
  simp only [e5] at C5
  clear e5
  dsimp only
  generalize kdC c = K at *
  generalize txC c = X at *
  have go : ∀ (b1 b2 : Bool), (kd == K) = b1 → (x.toList == X.toList) = b2 → Calls Tryd.prog 29 #[(⟨ch, x, lo, pl, uo, kd, ws⟩ : Tk).val, .int .u8 c] w (Gv (.bool (b1 && b2)) w) := by
    intro b1 b2 a1 a2
    cases b1 <;> cases b2
    all_goals
      go_enter Tryd.func29, Tryd.ntmps29
      go_upto_region 1 with fail
      refine wp_gen (fun W1 hW => ?_)
      have hb : Below w.heap.size w W1 := by rw [hW]; exact ba _ _
      have d1 : W1.cell? ⟨w.heap.size, 1, none⟩ = some (.string x) := by rw [hW]; simp [go_sem]
      have d5 : W1.cell? ⟨w.heap.size, 5, none⟩ = some (.int .u8 kd) := by rw [hW]; simp [go_sem]
      clear hW
      go_upto_region 2 with (go_at_call 5; (with_reducible refine (C5.out _).mono ?_); rintro e w5 ⟨rfl, hb5⟩; have D1 := ac hb5 d1; have D5 := ac hb5 d5; have hb2 := hb.trans (hb5.mono hb.size); clear d1 d5 hb5 hb)
      refine wp_gen (fun W2 hW => ?_)
      have hb3 : Below w.heap.size w W2 := by rw [hW]; exact hb2.trans ((ba _ _).mono hb2.size)
      have e1 : W2.cell? ⟨w.heap.size, 1, none⟩ = some (.string x) := by rw [hW]; exact al D1 _
      have e5 : W2.cell? ⟨w.heap.size, 5, none⟩ = some (.int .u8 kd) := by rw [hW]; exact al D5 _
      have f1 : W2.cell? ⟨w5.heap.size, 1, none⟩ = some (.string X) := by rw [hW]; simp [go_sem]
      have f5 : W2.cell? ⟨w5.heap.size, 5, none⟩ = some (.int .u8 K) := by rw [hW]; simp [go_sem]
      clear hW D1 D5 hb2
      generalize w5.heap.size = P at *
      go_wp2
      go_ret
      exact ⟨rfl, hb3⟩
  exact go _ _ rfl rfl
set_option maxRecDepth 100000 in
set_option maxHeartbeats 4000000 in
theorem ta36 (p : Value) (W : World) : (Instr.typeAssert (.iface 36 p) 44 36 true).run Tryd.prog W = .ok (.tuple #[p, .bool true]) W := by kernel_rfl
theorem taN (W : World) : (Instr.typeAssert .nilIface 44 36 true).run Tryd.prog W = .ok (.tuple #[.pointer none, .bool false]) W := by kernel_rfl
theorem declOf_c (p : Addr) (lo : Int) (w : World) : Calls Tryd.prog 10 #[.agg #[.iface 36 (.pointer (some p)), .int .i32 lo]] w (Gv (.pointer (some p)) w) := by
  have ta := ta36
  go_enter Tryd.func10, Tryd.ntmps10
  go_wp2
  go_ret
  exact ⟨rfl, ba _ _⟩
theorem declOf_nil (lo : Int) (w : World) : Calls Tryd.prog 10 #[.agg #[.nilIface, .int .i32 lo]] w (Gv (.pointer none) w) := by
  have ta := taN
  go_enter Tryd.func10, Tryd.ntmps10
  go_wp2
  go_ret
  exact ⟨rfl, ba _ _⟩
set_option maxRecDepth 100000 in
set_option maxHeartbeats 4000000 in
theorem gone_c (R n c j : Nat) (w : World) (hj : j < n) (hn : n ≤ 4096) (c0 : w.cell? ⟨R, j * 2, none⟩ = some .nilIface) (c1 : w.cell? ⟨R, j * 2 + 1, none⟩ = some (.int .i32 0)) : Calls Tryd.prog 9 #[.slice (some ⟨R, 0, none⟩) n c, .int .i64 j] w (Gv (.bool true) w) := by
  have C10 := Lib.hid (fun w => declOf_nil 0 w)
  have i0 : (0 : Int) ≤ j := by omega
  have i1 : (j : Int) < n := by omega
  go_enter Tryd.func9, Tryd.ntmps9
  go_wp2_with (go_at_call 10; (with_reducible refine (C10.out _).mono ?_); rintro e w1 ⟨rfl, hb⟩; have d1 := ac hb c1; clear c1 c0 C10)
  go_ret
  exact ⟨rfl, hb⟩
set_option maxRecDepth 100000 in
set_option maxHeartbeats 4000000 in
/-- tokens of a safe unit, or none of a unit -/
def unitSt (st : Int) (t : Tk) : Int := if t.kd = 34 then st else if t.kd = 30 then (if t.tx.toList = [48] then st else 2) else 2
structure UnP (B : Nat) (u : ByteArray) (st : Int) (w : World) (e : Ending) (w' : World) : Prop where
  ret : e = .returned (.tuple #[])
  only : Only (fun b => b = B) w w'
  c0 : w'.cell? ⟨B, 0, none⟩ = some (.string u)
  c1 : w'.cell? ⟨B, 1, none⟩ = some (.int .u8 st)
  f1 : w'.frozen? ⟨B, 1, none⟩ = false
theorem UnP.same {B : Nat} {u : ByteArray} {st : Int} {w w' : World} (c0 : w.cell? ⟨B, 0, none⟩ = some (.string u)) (c1 : w.cell? ⟨B, 1, none⟩ = some (.int .u8 st)) (f1 : w.frozen? ⟨B, 1, none⟩ = false) (hb : Below w.heap.size w w') : UnP B u st w (.returned (.tuple #[])) w' :=
  ⟨rfl, Only.of hb, ac hb c0, ac hb c1, af hb c1 f1⟩
theorem UnP.two {B : Nat} {u : ByteArray} {st : Int} {w : World} {o : Obj} (c0 : w.cell? ⟨B, 0, none⟩ = some (.string u)) (c1 : w.cell? ⟨B, 1, none⟩ = some (.int .u8 st)) (f1 : w.frozen? ⟨B, 1, none⟩ = false) : UnP B u 2 w (.returned (.tuple #[])) ((w.setCell ⟨B, 1, none⟩ (.int .u8 2)).alloc o) :=
  ⟨rfl, ((Only.refl (S := fun b => b = B) w).set ⟨B, 1, none⟩ _ rfl).trans (Only.of (ba _ o)), al (by rw [co (by intro h; injection h; omega)]; exact c0) o, al (cs c1) o, af (ba _ o) (cs c1) (by rw [fz]; exact f1)⟩
set_option maxRecDepth 100000 in
set_option maxHeartbeats 4000000 in
theorem unit_34 (st : Int) (B : Nat) (u : ByteArray) (ch : Value) (x : ByteArray) (lo pl uo ws : Int) (w : World) (c0 : w.cell? ⟨B, 0, none⟩ = some (.string u)) (c1 : w.cell? ⟨B, 1, none⟩ = some (.int .u8 st)) (f1 : w.frozen? ⟨B, 1, none⟩ = false) :
    Calls Tryd.prog 22 #[.pointer (some ⟨B, 0, none⟩), (⟨ch, x, lo, pl, uo, 34, ws⟩ : Tk).val] w (UnP B u st w) := by
  have hz := block_lt_of_cell c1
  have q1 := fun o => al c1 o
  have p1 := fun o => af (ba w o) c1 f1
  have F := Lib.hid (And.intro c0 (And.intro c1 f1))
  clear c0 f1
  go_enter Tryd.func22, Tryd.ntmps22
  go_wp2
  exact bodyPost_ret (v := .tuple #[]) (by simp [results, Tryd.results22, go_sem]) rfl (UnP.same F.out.1 F.out.2.1 F.out.2.2 (ba _ _))
set_option maxRecDepth 100000 in
set_option maxHeartbeats 4000000 in
theorem unit_300 (st : Int) (B : Nat) (u : ByteArray) (ch : Value) (x : ByteArray) (lo pl uo ws : Int) (h : (x.toList == [48]) = true) (w : World) (c0 : w.cell? ⟨B, 0, none⟩ = some (.string u)) (c1 : w.cell? ⟨B, 1, none⟩ = some (.int .u8 st)) (f1 : w.frozen? ⟨B, 1, none⟩ = false) :
    Calls Tryd.prog 22 #[.pointer (some ⟨B, 0, none⟩), (⟨ch, x, lo, pl, uo, 30, ws⟩ : Tk).val] w (UnP B u st w) := by
  have hz := block_lt_of_cell c1
  have q1 := fun o => al c1 o
  have p1 := fun o => af (ba w o) c1 f1
  have F := Lib.hid (And.intro c0 (And.intro c1 f1))
  clear c0 f1
  go_enter Tryd.func22, Tryd.ntmps22
  go_wp2
  exact bodyPost_ret (v := .tuple #[]) (by simp [results, Tryd.results22, go_sem]) rfl (UnP.same F.out.1 F.out.2.1 F.out.2.2 (ba _ _))
set_option maxRecDepth 100000 in
set_option maxHeartbeats 4000000 in
theorem unit_301 (st : Int) (B : Nat) (u : ByteArray) (ch : Value) (x : ByteArray) (lo pl uo ws : Int) (h : (x.toList == [48]) = false) (w : World) (c0 : w.cell? ⟨B, 0, none⟩ = some (.string u)) (c1 : w.cell? ⟨B, 1, none⟩ = some (.int .u8 st)) (f1 : w.frozen? ⟨B, 1, none⟩ = false) :
    Calls Tryd.prog 22 #[.pointer (some ⟨B, 0, none⟩), (⟨ch, x, lo, pl, uo, 30, ws⟩ : Tk).val] w (UnP B u 2 w) := by
  have hz := block_lt_of_cell c1
  have q1 := fun o => al c1 o
  have p1 := fun o => af (ba w o) c1 f1
  have F := Lib.hid (And.intro c0 (And.intro c1 f1))
  clear c0 f1
  go_enter Tryd.func22, Tryd.ntmps22
  go_wp2
  exact bodyPost_end (v := .tuple #[]) (by simp [results, Tryd.results22, go_sem]) rfl (UnP.two F.out.1 F.out.2.1 F.out.2.2)
set_option maxRecDepth 100000 in
set_option maxHeartbeats 4000000 in
theorem unit_29 (st : Int) (B : Nat) (u : ByteArray) (ch : Value) (x : ByteArray) (lo pl uo ws : Int) (w : World) (c0 : w.cell? ⟨B, 0, none⟩ = some (.string u)) (c1 : w.cell? ⟨B, 1, none⟩ = some (.int .u8 st)) (f1 : w.frozen? ⟨B, 1, none⟩ = false) :
    Calls Tryd.prog 22 #[.pointer (some ⟨B, 0, none⟩), (⟨ch, x, lo, pl, uo, 29, ws⟩ : Tk).val] w (UnP B u 2 w) := by
  have hz := block_lt_of_cell c1
  have q1 := fun o => al c1 o
  have p1 := fun o => af (ba w o) c1 f1
  have F := Lib.hid (And.intro c0 (And.intro c1 f1))
  clear c0 f1
  go_enter Tryd.func22, Tryd.ntmps22
  go_wp2
  exact bodyPost_end (v := .tuple #[]) (by simp [results, Tryd.results22, go_sem]) rfl (UnP.two F.out.1 F.out.2.1 F.out.2.2)
set_option maxRecDepth 100000 in
set_option maxHeartbeats 4000000 in
theorem unit_24 (st : Int) (B : Nat) (u : ByteArray) (ch : Value) (x : ByteArray) (lo pl uo ws : Int) (w : World) (c0 : w.cell? ⟨B, 0, none⟩ = some (.string u)) (c1 : w.cell? ⟨B, 1, none⟩ = some (.int .u8 st)) (f1 : w.frozen? ⟨B, 1, none⟩ = false) :
    Calls Tryd.prog 22 #[.pointer (some ⟨B, 0, none⟩), (⟨ch, x, lo, pl, uo, 24, ws⟩ : Tk).val] w (UnP B u 2 w) := by
  have hz := block_lt_of_cell c1
  have q1 := fun o => al c1 o
  have p1 := fun o => af (ba w o) c1 f1
  have F := Lib.hid (And.intro c0 (And.intro c1 f1))
  clear c0 f1
  go_enter Tryd.func22, Tryd.ntmps22
  go_wp2
  exact bodyPost_end (v := .tuple #[]) (by simp [results, Tryd.results22, go_sem]) rfl (UnP.two F.out.1 F.out.2.1 F.out.2.2)
theorem unit_c (st : Int) (B : Nat) (u : ByteArray) (t : Tk) (hk : t.kd = 34 ∨ t.kd = 30 ∨ t.kd = 29 ∨ t.kd = 24) (w : World) (c0 : w.cell? ⟨B, 0, none⟩ = some (.string u)) (c1 : w.cell? ⟨B, 1, none⟩ = some (.int .u8 st)) (f1 : w.frozen? ⟨B, 1, none⟩ = false) :
    Calls Tryd.prog 22 #[.pointer (some ⟨B, 0, none⟩), t.val] w (UnP B u (unitSt st t) w) := by
  obtain ⟨ch, x, lo, pl, uo, kd, ws⟩ := t
  unfold unitSt
  dsimp only at hk ⊢
  rcases hk with rfl | rfl | rfl | rfl
  · rw [if_pos rfl]; exact unit_34 st B u ch x lo pl uo ws w c0 c1 f1
  · rw [if_neg (by decide), if_pos rfl]
    by_cases h : x.toList = [48]
    · rw [if_pos h]; exact unit_300 st B u ch x lo pl uo ws (by rw [h]; rfl) w c0 c1 f1
    · rw [if_neg h]; exact unit_301 st B u ch x lo pl uo ws (by simpa using h) w c0 c1 f1
  · rw [if_neg (by decide), if_neg (by decide)]; exact unit_29 st B u ch x lo pl uo ws w c0 c1 f1
  · rw [if_neg (by decide), if_neg (by decide)]; exact unit_24 st B u ch x lo pl uo ws w c0 c1 f1
set_option maxRecDepth 100000 in
set_option maxHeartbeats 4000000 in
theorem safe_c (st st' : Int) (u : ByteArray) (h : (st = 0 ∧ st' = 0) ∨ st = 2 ∨ st' = 2) (h0 : st = 0 ∨ st = 2) (h1 : st' = 0 ∨ st' = 2) (w : World) : Calls Tryd.prog 34 #[.agg #[.string u, .int .u8 st], .agg #[.string u, .int .u8 st']] w (Gv (.bool (st == 0 && st' == 0)) w) := by
  rcases h0 with rfl | rfl <;> rcases h1 with rfl | rfl
  all_goals
    clear h
    go_enter Tryd.func34, Tryd.ntmps34
    go_wp2
    go_ret
    exact ⟨rfl, ((ba _ _).alloc (by simp) _)⟩
set_option maxRecDepth 100000 in
set_option maxHeartbeats 4000000 in
theorem turn_c (B o : Nat) (t : Tk) (hk : (t.kd == 26) = false) (w : World) (h : TAt w B o t) : Calls Tryd.prog 23 #[.pointer (some ⟨B, o, none⟩)] w (fun e w' => e = .returned (.bool false) ∧ w = w') := by
  have d5 := h.c5
  clear h
  go_enter Tryd.func23, Tryd.ntmps23
  go_wp2
  go_ret
  exact ⟨rfl, rfl⟩
end Go.Proofs.YthdogpahkglaoaaDoor
