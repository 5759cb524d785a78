/- A configuration, and the options that are read off it. -/
import Derived.Test.YtjhhecpnonaniaaOp1
set_option linter.unusedVariables false
set_option linter.unusedSimpArgs false
namespace Go.Proofs.Ytjhhecpnonaniaa
open Go.RowKit
/-- the configuration's fields that are read -/
structure Cfg (w : World) (b : Nat) (m : Option Nat) (b1 b2 b3 : Bool) (ft : Int) (s : ByteArray) : Prop where
  c7 : w.cell? ⟨b, 10, none⟩ = some (.string s)
  c41 : w.cell? ⟨b, 58, none⟩ = some (.map m)
  c43 : w.cell? ⟨b, 60, none⟩ = some (.int .u16 ft)
  c51 : w.cell? ⟨b, 75, none⟩ = some (.bool b2)
  c52 : w.cell? ⟨b, 76, none⟩ = some (.bool b3)
  c53 : w.cell? ⟨b, 77, none⟩ = some (.bool b1)
theorem Cfg.after {w w' : World} {b : Nat} {m : Option Nat} {b1 b2 b3 : Bool} {ft : Int} {s : ByteArray} (h : Cfg w b m b1 b2 b3 ft s) (hb : Below w.heap.size w w') : Cfg w' b m b1 b2 b3 ft s :=
  ⟨ac hb h.c7, ac hb h.c41, ac hb h.c43, ac hb h.c51, ac hb h.c52, ac hb h.c53⟩
theorem Mp.after {w w' : World} {b : Nat} (h : Mp w b) (hb : Below w.heap.size w w') : Mp w' b := by
  obtain ⟨n, D, hn, h⟩ := h
  exact ⟨n, D, hn, own_below h hb⟩
abbrev parts94 (m : Option Nat) (b1 b2 b3 : Bool) (ft : Int) (s : ByteArray) : Array (Nat × Value) := #[(41, .map m), (53, .bool b1), (51, .bool b2), (52, .bool b3), (43, .int .u16 ft), (7, .string s)]
noncomputable def cs94 (m : Option Nat) (b1 b2 b3 : Bool) (ft : Int) (s : ByteArray) : Array Value := (Try.prog.built 94 (parts94 m b1 b2 b3 ft s).toList).getD #[]
theorem built94 (m : Option Nat) (b1 b2 b3 : Bool) (ft : Int) (s : ByteArray) : Try.prog.built 94 (parts94 m b1 b2 b3 ft s).toList = some (cs94 m b1 b2 b3 ft s) := by
  have h : (Try.prog.built 94 (parts94 m b1 b2 b3 ft s).toList).isSome = true := by kernel_rfl
  unfold cs94
  cases e : Try.prog.built 94 (parts94 m b1 b2 b3 ft s).toList with
  | none => rw [e] at h; cases h
  | some cs => rfl
theorem at94 (m : Option Nat) (b1 b2 b3 : Bool) (ft : Int) (s : ByteArray) : (cs94 m b1 b2 b3 ft s)[10]? = some (.string s) ∧ (cs94 m b1 b2 b3 ft s)[58]? = some (.map m) ∧ (cs94 m b1 b2 b3 ft s)[60]? = some (.int .u16 ft) ∧ (cs94 m b1 b2 b3 ft s)[75]? = some (.bool b2) ∧ (cs94 m b1 b2 b3 ft s)[76]? = some (.bool b3) ∧ (cs94 m b1 b2 b3 ft s)[77]? = some (.bool b1) :=
  ⟨by kernel_rfl, by kernel_rfl, by kernel_rfl, by kernel_rfl, by kernel_rfl, by kernel_rfl⟩
theorem bld94 (m : Option Nat) (b1 b2 b3 : Bool) (ft : Int) (s : ByteArray) (W : World) : (Instr.build 94 (parts94 m b1 b2 b3 ft s)).run Try.prog W = .ok (.agg (cs94 m b1 b2 b3 ft s)) W := run_build W 94 _ _ (built94 m b1 b2 b3 ft s)
theorem wpList_build94 {ops : Array Oper} {rest : List Oper} {o : Oper} {a : Act} {Q : Exit → Act → World → Prop} {w : World} (hg : o.guard = none) {ps : Array (Nat × Operand)} (hop : o.op = Op.build 94 ps)
    (m : Option Nat) (b1 b2 b3 : Bool) (ft : Int) (s : ByteArray) (hps : (ps.map fun (i, x) => (i, a.eval x)) = parts94 m b1 b2 b3 ft s)
    (hK : wpList Try.prog ops Q rest (a.put o.dst (.agg (cs94 m b1 b2 b3 ft s))) w) : wpList Try.prog ops Q (o :: rest) a w := by
  refine wpList_plain hg fun K' hK' => ?_
  unfold Oper.wp
  have h := bld94 m b1 b2 b3 ft s w
  rw [← hps] at h
  simp [execOp, hop, h, Result.andThen]
  exact hK' _ _ hK
theorem oper_build94 {o : Oper} {a : Act} {K : Act → World → Prop} {Q : Exit → Act → World → Prop} {w : World} {ps : Array (Nat × Operand)} (hop : o.op = Op.build 94 ps)
    (m : Option Nat) (b1 b2 b3 : Bool) (ft : Int) (s : ByteArray) (hps : (ps.map fun (i, x) => (i, a.eval x)) = parts94 m b1 b2 b3 ft s)
    (hK : K (a.put o.dst (.agg (cs94 m b1 b2 b3 ft s))) w) : Oper.wp Try.prog o a w K Q := by
  unfold Oper.wp
  have h := bld94 m b1 b2 b3 ft s w
  rw [← hps] at h
  simp [execOp, hop, h, Result.andThen]
  exact hK
theorem new94 {w : World} {cs : Array Value} {i : Nat} {v : Value} (h : cs[i]? = some v) : (w.alloc (.cells cs 94)).cell? ⟨w.heap.size, i, none⟩ = some v := by
  simpa [go_sem] using h
def ConfB (ft : Int) (s : ByteArray) (w : World) (e : Ending) (w' : World) : Prop :=
  ∃ b m b1 b2 b3, e = .returned (.pointer (some ⟨b, 0, none⟩)) ∧ Cfg w' b m b1 b2 b3 ft s ∧ Below w.heap.size w w' ∧ ∀ k, m = some k → Mp w' k
set_option maxRecDepth 100000 in
set_option maxHeartbeats 4000000 in
theorem conf5_c (fl ft : Int) (s : ByteArray) (A1 A2 : Option Addr) (n1 c1 n2 c2 : Nat) (w : World) (h : Calls Try.prog 9 #[.slice A1 n1 c1, .slice A2 n2 c2] w (MapB w)) :
    Calls Try.prog 5 #[.int .u8 fl, .int .u16 ft, .string s, .slice A1 n1 c1, .slice A2 n2 c2] w (ConfB ft s w) := by
  have C := Lib.hid h
  clear h
  go_enter Try.func5, Try.ntmps5
  go_wp2_with (first | (go_at_call 9; (with_reducible refine C.out.mono ?_); rintro e w1 ⟨m, rfl, hb1, hm⟩; replace hb1 := Lib.hid hb1; replace hm := Lib.hid hm))
  refine oper_build94 rfl m (bits BinOp.and IntKind.u8 fl 1 != 0) (bits BinOp.and IntKind.u8 fl 2 != 0) (bits BinOp.and IntKind.u8 fl 4 != 0) ft s (by first | (simp [go_sem]; done) | (simp [Act.eval, go_sem]; done)) ?_
  go_at_K
  go_wp2
  go_ret
  have A := fun b1 b2 b3 => at94 m b1 b2 b3 ft s
  exact ⟨w1.heap.size, m, _, _, _, rfl, ⟨new94 (A _ _ _).1, new94 (A _ _ _).2.1, new94 (A _ _ _).2.2.1, new94 (A _ _ _).2.2.2.1, new94 (A _ _ _).2.2.2.2.1, new94 (A _ _ _).2.2.2.2.2⟩, hb1.out.alloc hb1.out.size _, fun k hk => (hm.out k hk).2.after (ba _ _)⟩
end Go.Proofs.Ytjhhecpnonaniaa
