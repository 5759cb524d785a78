/- zzParseList: what holds at each round's head. -/
import Derived.Test.YtnkkfihcabfkdaaCt1
set_option linter.unusedVariables false
set_option linter.unusedSimpArgs false
namespace Go.Proofs.Ytnkkfihcabfkdaa
open Go.RowKit
set_option maxRecDepth 100000
set_option maxHeartbeats 4000000
/-- the bytes that the cursor at Pc runs over -/
structure RowK (w : World) (A : Option Addr) (n : Nat) (f : Nat → Int) (Pc : Nat) : Prop where
  row : Row .u8 w A n f
  wf : ∀ i, i < n → 0 ≤ f i ∧ f i ≤ 255
  ne : ∀ x, A = some x → x.block ≠ Pc
  lt : ∀ x, A = some x → x.block < w.heap.size
theorem RowK.kp {S : Nat → Prop} {w w' : World} {A : Option Addr} {n : Nat} {f : Nat → Int} {Pc : Nat} (h : RowK w A n f Pc) (hk : Kp S w w') (hs : ∀ b, S b → b = Pc ∨ w.heap.size ≤ b) : RowK w' A n f Pc := by
  refine ⟨fun i hi => ?_, h.wf, h.ne, fun x hx => Nat.lt_of_lt_of_le (h.lt x hx) hk.size⟩
  obtain ⟨x, e, hc⟩ := h.row i hi
  refine ⟨x, e, hk.cell hc (fun q => ?_)⟩
  have h1 := h.ne x e
  have h2 := h.lt x e
  have hb : (x.add i).block = x.block := by unfold Addr.add; split <;> rfl
  rw [hb] at q
  rcases hs _ q with q | q
  · exact h1 q
  · omega
/-- the blocks that may turn -/
def OO (w : World) (u5 u6 u7 : Value) (b : Nat) : Prop := b < w.heap.size ∨ u5.ownBlock = some b ∨ u6.ownBlock = some b ∨ u7.ownBlock = some b
structure PI (w wr : World) (Pc : Nat) (A : Option Addr) (n c : Nat) (f : Nat → Int) (u5 u6 u7 : Value) (i : Nat) (lL : List CxR) (lC : List CpR) (lS : List SubR) : Prop where
  cur : Cur wr Pc A n c i
  row : RowK wr A n f Pc
  pc : Pc < w.heap.size
  rb : ∀ x, A = some x → x.block < w.heap.size
  oL : wr.ownsRow w.heap.size 41 1 u5 lL.length (flat CxR.cells lL)
  oC : wr.ownsRow w.heap.size 33 6 u6 lC.length (flat CpR.cells lC)
  oS : wr.ownsRow w.heap.size 49 3 u7 lS.length (flat SubR.cells lS)
  gL : ∀ r ∈ lL, GX (OO w u5 u6 u7) wr r
  gC : ∀ r ∈ lC, GP (OO w u5 u6 u7) wr r
  gS : ∀ r ∈ lS, G (OO w u5 u6 u7) wr r
  kp : Kp (fun b => b = Pc) w wr
section
variable {w wr w2 : World} {Pc : Nat} {A : Option Addr} {n c i : Nat} {f : Nat → Int} {u5 u6 u7 v' : Value} {lL : List CxR} {lC : List CpR} {lS : List SubR}
theorem PI.base (h : PI w wr Pc A n c f u5 u6 u7 i lL lC lS) : w.heap.size ≤ wr.heap.size := h.kp.size
theorem PI.quiet (h : PI w wr Pc A n c f u5 u6 u7 i lL lC lS) (hb : Below wr.heap.size wr w2) : PI w w2 Pc A n c f u5 u6 u7 i lL lC lS := by
  have k : Kp (fun _ => False) wr w2 := Kp.of hb
  exact ⟨h.cur.kp k (fun q => q), h.row.kp k (fun _ q => q.elim), h.pc, h.rb, k.own h.oL (fun _ _ q => q), k.own h.oC (fun _ _ q => q), k.own h.oS (fun _ _ q => q), fun r hr => (h.gL r hr).kp k (fun _ q => q.elim) (fun _ _ q => q), fun r hr => (h.gC r hr).kp k (fun _ q => q.elim) (fun _ _ q => q), fun r hr => (h.gS r hr).kp k (fun _ q => q.elim) (fun _ _ q => q), h.kp.trans' k (fun _ q => q.elim)⟩
theorem PI.adv (h : PI w wr Pc A n c f u5 u6 u7 i lL lC lS) : PI w (wr.setCell ⟨Pc, 1, none⟩ (.int .i64 ((i : Int) + 1))) Pc A n c f u5 u6 u7 (i + 1) lL lC lS := by
  have k : Kp (fun b => b = Pc) wr (wr.setCell ⟨Pc, 1, none⟩ (.int .i64 ((i : Int) + 1))) := (Kp.refl wr).set _ _ (.inl rfl)
  have hne : ∀ {e z : Nat} {v : Value} {m : Nat} {xs : List Value}, wr.ownsRow w.heap.size e z v m xs → ∀ b, v.ownBlock = some b → ¬ b = Pc := fun o b e q => by have := (o.lt b e).1; have := h.pc; omega
  have hO : ∀ b, b = Pc → OO w u5 u6 u7 b := fun b e => .inl (by rw [e]; exact h.pc)
  exact ⟨h.cur.next, h.row.kp k (fun b q => .inl q), h.pc, h.rb, k.own h.oL (hne h.oL), k.own h.oC (hne h.oC), k.own h.oS (hne h.oS), fun r hr => (h.gL r hr).kp k hO (fun _ _ q => q), fun r hr => (h.gC r hr).kp k hO (fun _ _ q => q), fun r hr => (h.gS r hr).kp k hO (fun _ _ q => q), h.kp.trans k⟩
/-- a step that turns blocks of the cursor and of the call's own past slices alone: a call of the function itself -/
theorem PI.call (h : PI w wr Pc A n c f u5 u6 u7 i lL lC lS) (k : Kp (fun b => b = Pc) wr w2) {i' : Nat} (hc : Cur w2 Pc A n c i') : PI w w2 Pc A n c f u5 u6 u7 i' lL lC lS := by
  have hne : ∀ {e z : Nat} {v : Value} {m : Nat} {xs : List Value}, wr.ownsRow w.heap.size e z v m xs → ∀ b, v.ownBlock = some b → ¬ b = Pc := fun o b e q => by have := (o.lt b e).1; have := h.pc; omega
  have hO : ∀ b, b = Pc → OO w u5 u6 u7 b := fun b e => .inl (by rw [e]; exact h.pc)
  exact ⟨hc, h.row.kp k (fun b q => .inl q), h.pc, h.rb, k.own h.oL (hne h.oL), k.own h.oC (hne h.oC), k.own h.oS (hne h.oS), fun r hr => (h.gL r hr).kp k hO (fun _ _ q => q), fun r hr => (h.gC r hr).kp k hO (fun _ _ q => q), fun r hr => (h.gS r hr).kp k hO (fun _ _ q => q), h.kp.trans k⟩
theorem PI.sub (h : PI w wr Pc A n c f u5 u6 u7 i lL lC lS) (s : SubR) (hs : G (OO w u5 u6 u7) wr s) (ho : w2.ownsRow w.heap.size 49 3 v' (lS.length + 1) (flat SubR.cells lS ++ s.arr.toList)) (k : Kp (fun b => u7.ownBlock = some b) wr w2) (hn : ∀ b, v'.ownBlock = some b → u7.ownBlock = some b ∨ wr.heap.size ≤ b) : PI w w2 Pc A n c f u5 u6 v' i lL lC (lS ++ [s]) := by
  have hO : ∀ b, u7.ownBlock = some b → OO w u5 u6 u7 b := fun b e => .inr (.inr (.inr e))
  have hO' : ∀ b, b < wr.heap.size → OO w u5 u6 v' b → OO w u5 u6 u7 b := fun b hb q => by
    rcases q with q | q | q | q
    · exact .inl q
    · exact .inr (.inl q)
    · exact .inr (.inr (.inl q))
    · rcases hn b q with q | q
      · exact .inr (.inr (.inr q))
      · omega
  have h7 : ∀ b, u7.ownBlock = some b → w.heap.size ≤ b := fun b e => (h.oS.lt b e).1
  refine ⟨h.cur.kp k (fun q => by have := h7 _ q; have := h.pc; omega), ?_, h.pc, h.rb, k.own h.oL (fun b e q => own_ne h.oS h.oL (by decide) b e q), k.own h.oC (fun b e q => own_ne h.oS h.oC (by decide) b e q), ?_, fun r hr => (h.gL r hr).kp k hO hO', fun r hr => (h.gC r hr).kp k hO hO', fun r hr => ?_, h.kp.trans' k (fun b e hb => by have := h7 b e; omega)⟩
  · refine ⟨fun j hj => ?_, h.row.wf, h.row.ne, fun x hx => Nat.lt_of_lt_of_le (h.row.lt x hx) k.size⟩
    obtain ⟨x, e, hc⟩ := h.row.row j hj
    refine ⟨x, e, k.cell hc (fun q => ?_)⟩
    have hb : (x.add j).block = x.block := by unfold Addr.add; split <;> rfl
    rw [hb] at q
    have := h7 _ q
    have := h.rb x e
    omega
  · rw [← flat_add, List.length_append]; exact ho
  · rcases List.mem_append.1 hr with hr | hr
    · exact (h.gS r hr).kp k hO hO'
    · rw [List.mem_singleton] at hr; subst hr; exact hs.kp k hO hO'
theorem PI.comp {a : Option Addr} {m c' : Nat} (h : PI w wr Pc A n c f u5 u6 (.slice a m c') i lL lC lS) (hm : m = lS.length) (ho : w2.ownsRow w.heap.size 33 6 v' (lC.length + 1) (flat CpR.cells lC ++ (CpR.arr ⟨a, m, c', lS⟩).toList)) (k : Kp (fun b => u6.ownBlock = some b) wr w2) (hn : ∀ b, v'.ownBlock = some b → u6.ownBlock = some b ∨ wr.heap.size ≤ b) : PI w w2 Pc A n c f u5 v' (.slice none 0 0) i lL (lC ++ [⟨a, m, c', lS⟩]) [] := by
  have hO : ∀ b, u6.ownBlock = some b → OO w u5 u6 (.slice a m c') b := fun b e => .inr (.inr (.inl e))
  have hO' : ∀ b, b < wr.heap.size → OO w u5 v' (.slice none 0 0) b → OO w u5 u6 (.slice a m c') b := fun b hb q => by
    rcases q with q | q | q | q
    · exact .inl q
    · exact .inr (.inl q)
    · rcases hn b q with q | q
      · exact .inr (.inr (.inl q))
      · omega
    · simp [Value.ownBlock] at q
  have h6 : ∀ b, u6.ownBlock = some b → w.heap.size ≤ b := fun b e => (h.oC.lt b e).1
  have hoS := k.own h.oS (fun b e q => own_ne h.oC h.oS (by decide) b e q)
  have hoL := k.own h.oL (fun b e q => own_ne h.oC h.oL (by decide) b e q)
  refine ⟨h.cur.kp k (fun q => by have := h6 _ q; have := h.pc; omega), ?_, h.pc, h.rb, hoL, ?_, World.ownsRow_nil _ _ _ _, fun r hr => (h.gL r hr).kp k hO hO', fun r hr => ?_, fun r hr => by simp at hr, h.kp.trans' k (fun b e hb => by have := h6 b e; omega)⟩
  · refine ⟨fun j hj => ?_, h.row.wf, h.row.ne, fun x hx => Nat.lt_of_lt_of_le (h.row.lt x hx) k.size⟩
    obtain ⟨x, e, hc⟩ := h.row.row j hj
    refine ⟨x, e, k.cell hc (fun q => ?_)⟩
    have hb : (x.add j).block = x.block := by unfold Addr.add; split <;> rfl
    rw [hb] at q
    have := h6 _ q
    have := h.rb x e
    omega
  · rw [← flat_add, List.length_append]; exact ho
  · rcases List.mem_append.1 hr with hr | hr
    · exact (h.gC r hr).kp k hO hO'
    · rw [List.mem_singleton] at hr; subst hr
      refine ⟨⟨?_, fun b e q => ?_⟩, fun s hs => (h.gS s hs).kp k hO hO'⟩
      · rw [hm]; exact own_base (by rw [← hm]; rw [← hm] at hoS; exact hoS) (Nat.zero_le _)
      · have hb := (h.oS.lt b e).1
        rcases q with q | q | q | q
        · omega
        · exact own_ne hoL hoS (by decide) b e q
        · exact own_ne ho hoS (by decide) b e q
        · simp [Value.ownBlock] at q
theorem PI.list {a : Option Addr} {m c' : Nat} (h : PI w wr Pc A n c f u5 (.slice a m c') u7 i lL lC lS) (hm : m = lC.length) (ho : w2.ownsRow w.heap.size 41 1 v' (lL.length + 1) (flat CxR.cells lL ++ (CxR.arr ⟨a, m, c', lC⟩).toList)) (k : Kp (fun b => u5.ownBlock = some b) wr w2) (hn : ∀ b, v'.ownBlock = some b → u5.ownBlock = some b ∨ wr.heap.size ≤ b) : PI w w2 Pc A n c f v' (.slice none 0 0) u7 i (lL ++ [⟨a, m, c', lC⟩]) [] lS := by
  have hO : ∀ b, u5.ownBlock = some b → OO w u5 (.slice a m c') u7 b := fun b e => .inr (.inl e)
  have hO' : ∀ b, b < wr.heap.size → OO w v' (.slice none 0 0) u7 b → OO w u5 (.slice a m c') u7 b := fun b hb q => by
    rcases q with q | q | q | q
    · exact .inl q
    · rcases hn b q with q | q
      · exact .inr (.inl q)
      · omega
    · simp [Value.ownBlock] at q
    · exact .inr (.inr (.inr q))
  have h5 : ∀ b, u5.ownBlock = some b → w.heap.size ≤ b := fun b e => (h.oL.lt b e).1
  have hoS := k.own h.oS (fun b e q => own_ne h.oL h.oS (by decide) b e q)
  have hoC := k.own h.oC (fun b e q => own_ne h.oL h.oC (by decide) b e q)
  refine ⟨h.cur.kp k (fun q => by have := h5 _ q; have := h.pc; omega), ?_, h.pc, h.rb, ?_, World.ownsRow_nil _ _ _ _, hoS, fun r hr => ?_, fun r hr => by simp at hr, fun r hr => (h.gS r hr).kp k hO hO', h.kp.trans' k (fun b e hb => by have := h5 b e; omega)⟩
  · refine ⟨fun j hj => ?_, h.row.wf, h.row.ne, fun x hx => Nat.lt_of_lt_of_le (h.row.lt x hx) k.size⟩
    obtain ⟨x, e, hc⟩ := h.row.row j hj
    refine ⟨x, e, k.cell hc (fun q => ?_)⟩
    have hb : (x.add j).block = x.block := by unfold Addr.add; split <;> rfl
    rw [hb] at q
    have := h5 _ q
    have := h.rb x e
    omega
  · rw [← flat_add, List.length_append]; exact ho
  · rcases List.mem_append.1 hr with hr | hr
    · exact (h.gL r hr).kp k hO hO'
    · rw [List.mem_singleton] at hr; subst hr
      refine ⟨⟨?_, fun b e q => ?_⟩, fun s hs => (h.gC s hs).kp k hO hO'⟩
      · rw [hm]; exact own_base (by rw [← hm]; rw [← hm] at hoC; exact hoC) (Nat.zero_le _)
      · have hb := (h.oC.lt b e).1
        rcases q with q | q | q | q
        · omega
        · exact own_ne ho hoC (by decide) b e q
        · simp [Value.ownBlock] at q
        · exact own_ne hoS hoC (by decide) b e q
end
end Go.Proofs.Ytnkkfihcabfkdaa
