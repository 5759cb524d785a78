/- Contracts of the small functions around color stops. -/
import Derived.Test.YtpjkipemalebcaaAp
import Derived.Test.YtpjkipemalebcaaArg
import Derived.Test.YtpjkipemalebcaaMk
import Derived.Deep.DeepCutAuto
import Derived.WalkSpells
set_option linter.unusedVariables false
set_option linter.unusedSimpArgs false
namespace Go.Proofs.Ytpjkipemalebcaa
open Go.RowKit
/-- a token without children, place, payload and unit -/
structure Tq where
  tx : ByteArray
  kd : Int
  ws : Int
/-- a color stop -/
structure Stp where
  pa : Option Addr
  pn : Nat
  pc : Nat
  co : Tq
  mi : Tq
abbrev Tq.arr (t : Tq) : Array Value := #[.pointer none, .string t.tx, .int .i32 0, .int .u32 0, .int .u16 0, .int .u8 t.kd, .int .u8 t.ws]
abbrev Tq.val (t : Tq) : Value := .agg t.arr
abbrev Tq.tk (t : Tq) : Tk := ⟨.pointer none, t.tx, 0, 0, 0, t.kd, t.ws⟩
abbrev Stp.arr (s : Stp) : Array Value := #[.slice s.pa s.pn s.pc, .pointer none, .string s.co.tx, .int .i32 0, .int .u32 0, .int .u16 0, .int .u8 s.co.kd, .int .u8 s.co.ws, .pointer none, .string s.mi.tx, .int .i32 0, .int .u32 0, .int .u16 0, .int .u8 s.mi.kd, .int .u8 s.mi.ws]
abbrev Stp.val (s : Stp) : Value := .agg s.arr
def Stp.cells (s : Stp) : List Value := s.arr.toList
def Tq.cells (s : Tq) : List Value := s.arr.toList
theorem Stp.len (s : Stp) : s.cells.length = 15 := rfl
theorem Tq.len (s : Tq) : s.cells.length = 7 := rfl
abbrev colT (x : ByteArray) : Tq := ⟨x, 29, 2⟩
abbrev tq0 : Tq := ⟨⟨#[]⟩, 0, 0⟩
def midT (x : ByteArray) : Tq := if x.toList.isEmpty then tq0 else ⟨x, 34, 0⟩
def Gives (v : Value) (w : World) (e : Ending) (w' : World) : Prop := e = .returned v ∧ Below w.heap.size w w'
set_option maxRecDepth 100000
set_option maxHeartbeats 4000000
theorem b2 (w : World) (o o' : Obj) : Below w.heap.size w ((w.alloc o).alloc o') := (ba _ _).alloc (by simp) _
theorem b3 (w : World) (o o' o'' : Obj) : Below w.heap.size w (((w.alloc o).alloc o').alloc o'') := (b2 _ _ _).alloc (by simp; omega) _
theorem col11_c (x : ByteArray) (w : World) : Calls Try.prog 11 #[.string x] w (Gives (colT x).val w) := by
  go_enter Try.func11, Try.ntmps11
  go_wp2
  exact bodyPost_ret (v := (colT x).val) (by simp [results, Try.results11, go_sem]) rfl ⟨rfl, ba _ _⟩
theorem mid12_c (x : ByteArray) (w : World) : Calls Try.prog 12 #[.string x] w (Gives (midT x).val w) := by
  cases h : x.toList.isEmpty
  · have e : (midT x).val = Tq.val ⟨x, 34, 0⟩ := by unfold midT; rw [if_neg (by simp [h])]
    rw [e]
    clear e
    go_enter Try.func12, Try.ntmps12
    go_wp2
    exact bodyPost_ret (v := Tq.val ⟨x, 34, 0⟩) (by simp [results, Try.results12, go_sem]) rfl ⟨rfl, ba _ _⟩
  · have e : (midT x).val = Tq.val tq0 := by unfold midT; rw [if_pos h]
    rw [e]
    clear e
    go_enter Try.func12, Try.ntmps12
    go_wp2
    exact bodyPost_ret (v := Tq.val tq0) (by simp [results, Try.results12, go_sem]) rfl ⟨rfl, ba _ _⟩
theorem new18_c (a b : Tq) (pa : Option Addr) (pn pc : Nat) (w : World) : Calls Try.prog 18 #[a.val, .slice pa pn pc, b.val] w (Gives (Stp.val ⟨pa, pn, pc, a, b⟩) w) := by
  go_enter Try.func18, Try.ntmps18
  go_wp2
  exact bodyPost_ret (v := Stp.val ⟨pa, pn, pc, a, b⟩) (by simp [results, Try.results18, go_sem]) rfl ⟨rfl, b3 _ _ _ _⟩
theorem sco14_c (s : Stp) (w : World) : Calls Try.prog 14 #[s.val] w (Gives s.co.val w) := by
  go_enter Try.func14, Try.ntmps14
  go_wp2
  exact bodyPost_ret (v := s.co.val) (by simp [results, Try.results14, go_sem]) rfl ⟨rfl, b2 _ _ _⟩
theorem sps15_c (s : Stp) (w : World) : Calls Try.prog 15 #[s.val] w (Gives (.slice s.pa s.pn s.pc) w) := by
  go_enter Try.func15, Try.ntmps15
  go_wp2
  go_ret
  exact ⟨rfl, ba _ _⟩
theorem smi16_c (s : Stp) (w : World) : Calls Try.prog 16 #[s.val] w (Gives s.mi.val w) := by
  go_enter Try.func16, Try.ntmps16
  go_wp2
  exact bodyPost_ret (v := s.mi.val) (by simp [results, Try.results16, go_sem]) rfl ⟨rfl, b2 _ _ _⟩
theorem eq13_c (t : Tq) (w : World) : Calls Try.prog 13 #[t.val, t.val] w (Gives (.bool true) w) := by
  go_enter Try.func13, Try.ntmps13
  go_wp2
  go_ret
  exact ⟨rfl, b2 _ _ _⟩
/-- what zzItoa writes for a number that is not negative -/
def digs : Nat → Nat → List UInt8 → List UInt8
  | 0, _, l => l
  | f + 1, n, l => if n = 0 then l else digs f (n / 10) (UInt8.ofNat (48 + n % 10) :: l)
def itoaB (n : Nat) : ByteArray := if n = 0 then ⟨#[48]⟩ else ⟨(digs 20 n []).toArray⟩
theorem min8_c (a b : Nat) (ha : a ≤ maxLen) (hb : b ≤ maxLen) (w : World) : Calls Try.prog 8 #[.int .i64 a, .int .i64 b] w fun e w' => e = .returned (.int .i64 (min a b : Nat)) ∧ w = w' := by
  unfold maxLen at *
  by_cases h : a < b
  · rw [Nat.min_eq_left (by omega)]
    go_enter Try.func8, Try.ntmps8
    go_wp2
    go_ret
    exact ⟨rfl, rfl⟩
  · rw [Nat.min_eq_right (by omega)]
    go_enter Try.func8, Try.ntmps8
    go_wp2
    go_ret
    exact ⟨rfl, rfl⟩
end Go.Proofs.Ytpjkipemalebcaa
