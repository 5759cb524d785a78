/- FnFlattenMatchesStreamModel: a :local/:global list while flattening: its inner compounds, merging, going on behind it. -/
import Derived.Test.YtjigljpodkfchadFln
set_option linter.unusedVariables false
set_option linter.unusedSimpArgs false
namespace Go.Proofs.Ytjigljpodkfchad
open Go.RowKit
set_option maxRecDepth 100000
set_option maxHeartbeats 40000000
/-- append of a slice that begins at any element -/
theorem appQ {P : Program} {w : World} {ops : Array Oper} {rest : List Oper} {o : Oper} {a : Act} {Q : Exit → Act → World → Prop} (s x : Operand) (t e base size bytes : Nat) (zc : Array Value) (v : Value) (n : Nat) (xs : List Value) (g q m c : Nat) (news : List Value)
    (ho : o.op = .call { callee := .builtin .append, args := #[s, x], argTypes := #[t, t] }) (hgd : o.guard = none) (hs : a.eval s = v) (hx : a.eval x = .slice (some ⟨g, q, none⟩) m c)
    (ht : P.underlying t = some (.slice e)) (hinfo : (P.info? e).map (fun i => (i.zero.map (·.cells), i.size, i.bytes)) = some (some zc, size, bytes)) (hzc : zc.size = size) (hsz : 0 < size) (hown : w.ownsRow base e size v n xs)
    (hl : news.length = m * size) (hc : ∀ j u, news[j]? = some u → w.cell? ⟨g, q + j, none⟩ = some u) (h1 : ∀ u ∈ news, u.oneCell' = true) (hn : n + m ≤ 40000000) (hby : bytes ≤ 1000000) (hbase : base ≤ w.heap.size)
    (h : ∀ v' w', w'.ownsRow base e size v' (n + m) (xs ++ news) → Kp (Ob v) w w' → (∀ k, Ob v' k → Ob v k ∨ w.heap.size ≤ k) → wpList P ops Q rest (a.put o.dst v') w') : wpList P ops Q (o :: rest) a w := by
  cases hi : P.info? e with
  | none => rw [hi] at hinfo; cases hinfo
  | some i =>
    by_cases hm : m = 0
    · subst hm
      have hn0 : news = [] := List.eq_nil_of_length_eq_zero (by simpa using hl)
      subst hn0
      exact app0 s x t e base size v n xs _ c ho hgd hs hx ht (by rw [hi]; rfl) hown (h v w (by simpa using hown) (Kp.refl _) (fun k q => .inl q))
    · rw [hi] at hinfo
      simp only [Option.map_some, Option.some.injEq, Prod.mk.injEq] at hinfo
      obtain ⟨g1, g2, g3⟩ := hinfo
      cases hz : i.zero with
      | none => rw [hz] at g1; cases g1
      | some z =>
        rw [hz] at g1
        simp only [Option.map_some, Option.some.injEq] at g1
        have hmm : (n + m) * bytes ≤ 40000000 * 1000000 := Nat.mul_le_mul hn hby
        refine wpList_append_own_n (P := P) w hgd s x t ho base e i z size bytes ht hi hz g2 g3 (by rw [g1]; exact hzc) hsz v n xs hs hown ⟨g, q, none⟩ m c news hx hl (fun j u hj => ?_) h1 (by unfold maxLen; omega) (by omega) hbase (fun v' w' h2 h3 h4 => h v' w' h2 (Kp.grown h3) h4)
        have hadd : (⟨g, q, none⟩ : Addr).add j = ⟨g, q + j, none⟩ := by unfold Addr.add; split <;> simp_all
        rw [hadd]
        exact hc j u hj
/-- an inner compound's mark, cut to its list's interval -/
def mk3 (a b x : Nat) : Nat := max a (min x b)
theorem mk3_ge (a b x : Nat) : a ≤ mk3 a b x := Nat.le_max_left _ _
theorem mk3_le {a b x : Nat} (h : a ≤ b) : mk3 a b x ≤ b := by unfold mk3; omega
theorem mk3_mono {a b x y : Nat} (h : x ≤ y) : mk3 a b x ≤ mk3 a b y := by unfold mk3; omega
/-- the inner compounds of a list whose blocks lie from a to b -/
def InnS (rv : Value) (a b : Nat) (w : World) (g : Nat) (ms : Nat → Nat) (rs : List MR) (l : List (Ck ByteArray)) : Prop := rs.length = l.length ∧ (∀ k, ms k ≤ ms (k + 1)) ∧ (∀ (k : Nat) r x, rs[k]? = some r → l[k]? = some x → Seg w g (k * 6) r.cells ∧ RCk Gn (fun c => Ob rv c ∨ c < mk3 a b (ms k) ∨ mk3 a b (ms (k + 1)) ≤ c) w r x) ∧ ¬ Ob rv g ∧ a ≤ g ∧ g < b
theorem InnS.keep {S : Nat → Prop} {rv : Value} {a b : Nat} {w w' : World} {g : Nat} {ms : Nat → Nat} {rs : List MR} {l : List (Ck ByteArray)} (h : InnS rv a b w g ms rs l) (hab : a ≤ b) (hk : Kp S w w') (hs : ∀ c, c < w.heap.size → S c → c < a ∨ b ≤ c) : InnS rv a b w' g ms rs l := by
  obtain ⟨h1, h2, h3, h4, h5, h6⟩ := h
  refine ⟨h1, h2, fun k r x hr hx => ?_, h4, h5, h6⟩
  obtain ⟨e1, e2⟩ := h3 k r x hr hx
  have hlt := Seg.lt (show Seg w g (k * 6) (r.tv :: r.cells.tail) from e1)
  refine ⟨e1.keep (Kc.of_kp hk (fun _ _ q => q)) (fun q => by have := hs g hlt q; omega), e2.keep Gn.keep hk (fun c hc q => ?_) (fun _ _ q => q)⟩
  have m1 := mk3_ge a b (ms k)
  have m2 := mk3_le (x := ms (k + 1)) hab
  rcases hs c hc q with q | q
  · right; left; omega
  · right; right; omega
theorem G1.list {rv : Value} {a b : Nat} (hab : a ≤ b) {w : World} {s : SubR SK} {kd : Int} {l : List (Ck ByteArray)} (h : G1 (fun c => Ob rv c ∨ c < a ∨ b ≤ c) w s) (hk : s.k = .inr (kd, l)) : s.t = 128 ∧ ∃ (Z Y c1 g c : Nat) (ms : Nat → Nat) (rs : List MR), s.p = .pointer (some ⟨Z, 0, none⟩) ∧ Seg w Z 0 [.slice (some ⟨Y, 0, none⟩) 1 c1, .string ⟨#[]⟩, .string ⟨#[]⟩, .int .u8 kd] ∧ w.cell? ⟨Y, 0, none⟩ = some (.slice (some ⟨g, 0, none⟩) l.length c) ∧ l.length ≤ c ∧ InnS rv a b w g ms rs l := by
  obtain ⟨t, p, k⟩ := s
  simp only at hk
  subst hk
  obtain ⟨h1, Z, Y, c1, g, c, ms, rs, h2, h3, h4, h5, h6, h7, h8, h9, h10, h11, h12⟩ := h
  refine ⟨h1, Z, Y, c1, g, c, ms, rs, h2, h6, h7, h9, h11, h10, fun k r x hr hx => ?_, fun q => h5 (.inl q), ?_, ?_⟩
  · obtain ⟨e1, e2⟩ := h12 k r x hr hx
    refine ⟨e1, RCk.wide Gn.keep e2 (fun c _ q => ?_)⟩
    have m1 := mk3_ge a b (ms k)
    have m2 := mk3_le (x := ms (k + 1)) hab
    rcases q with q | q | q
    · exact .inl (.inl q)
    · unfold mk3 at q
      by_cases hc : c < a
      · exact .inl (.inr (.inl hc))
      · right; left; omega
    · unfold mk3 at q
      by_cases hc : b ≤ c
      · exact .inl (.inr (.inr hc))
      · right; right; omega
  · by_cases hc : g < a
    · exact absurd (.inr (.inl hc)) h5
    · omega
  · by_cases hc : b ≤ g
    · exact absurd (.inr (.inr hc)) h5
    · omega
/-- the compound under way has grown by merging -/
theorem InS.merged {M lo hi : Nat} {F : Nat → Prop} {rv : Value} {μ P : Nat} {w w' : World} {v : Value} {n : Nat} {rs : List MR} {sv sv' : Value} {st : St} {k' : Ck SK} (h : InS M lo hi F rv μ P w v n rs sv st) (hM : M ≤ w.heap.size) (hc : Cur (AvO hi F v P μ) w' P sv' k') (hk : Kp (fun b => b = P ∨ Ob sv b) w w') (hn : ∀ b, Ob sv' b → Ob sv b ∨ w.heap.size ≤ b) : InS M lo hi F rv μ P w' v n rs sv' (st.1, k') := by
  obtain ⟨h1, h2, h3, h4⟩ := h
  refine ⟨h1.keep hk (fun b _ q => by rcases q with q | q; exact .inr (.inl q); exact .inl q) (fun b hb q => ?_), hc, fun b q => ?_, h4⟩
  · rcases q with q | q
    · rcases hn b q with q | q
      · exact .inl q
      · omega
    · exact .inr q
  · rcases hn b q with q | q
    · exact h3 b q
    · left; omega
/-- what the first inner compound must avoid, when it is merged -/
theorem InS.mrgO {M lo hi : Nat} {F : Nat → Prop} {rv : Value} {m : Nat} {ms : Nat → Nat} (hV : Vis M lo hi F rv m ms) {j : Nat} (hj : j < m) {P : Nat} {w : World} {v : Value} {n : Nat} {rs : List MR} {sv : Value} {st : St} (h : InS M lo hi F rv (ms j) P w v n rs sv st) (x y : Nat) : ∀ b, (Ob sv b ∨ AvO hi F v P (mk3 (ms j) (ms (j + 1)) y) b) → (Ob rv b ∨ b < mk3 (ms j) (ms (j + 1)) x ∨ mk3 (ms j) (ms (j + 1)) y ≤ b) := fun b q => by
  obtain ⟨h1, h2, h3, h4⟩ := h
  obtain ⟨l1, l2, l3⟩ := hV.le hj
  have m1 := mk3_ge (ms j) (ms (j + 1)) x
  have m2 := mk3_le (x := y) l2
  have hM := hV.hi_le
  rcases q with q | q | q | q | q
  · rcases h3 b q with q | q
    · right; right; omega
    · right; left; omega
  · have := (h1.1.lt b q).1; right; right; omega
  · right; right; omega
  · right; right; exact q.1
  · rcases (hV.fut b q).2 with q | q
    · right; left; omega
    · right; right; omega
def AcP (hi : Nat) (F : Nat → Prop) (P μ : Nat) : Nat → Prop := fun b => b = P ∨ (μ ≤ b ∧ b < hi) ∨ F b
theorem Cur.rck {O : Nat → Prop} {w : World} {P : Nat} {sv : Value} {k : Ck SK} (h : Cur O w P sv k) : ∃ tv nv, Seg w P 0 [tv, sv, nv, .int .i32 0, .int .u8 k.cb, .bool false] ∧ Room w P 6 ∧ RCk G1 O w ⟨tv, sv, nv, k.cb⟩ k := by
  obtain ⟨tv, nv, n, h1, h2, h3, h4⟩ := h
  exact ⟨tv, nv, h1, h2, h4.shut G1.keep (fun _ _ q => q)⟩
theorem InS.drop {M lo hi : Nat} {F : Nat → Prop} {rv : Value} {μ μ' P : Nat} {w : World} {v : Value} {n : Nat} {rs : List MR} {sv : Value} {st : St} (h : InS M lo hi F rv μ P w v n rs sv st) (hμ : μ ≤ μ') : AccX M (AcP hi F P μ') w v n rs st.1 := h.1.keep (S := fun _ => False) (Kp.refl _) (fun _ _ q => q.elim) (fun b _ q => by
  rcases q with q | q | q
  · exact .inr (.inl q)
  · exact .inr (.inr (.inl ⟨by omega, q.2⟩))
  · exact .inr (.inr (.inr q)))
theorem RCk.toRCo {O : Nat → Prop} {w : World} {r : MR} {k : Ck SK} (h : RCk G1 O w r k) : RCo G1 0 O w r.tv r.sv r.nv k.ks.length k.ty k.nn k.ks := by
  obtain ⟨h1, h2, h3, ls, h4, h5, h6, h7⟩ := h
  have hl : ls.length = k.ks.length := by rw [← h7, List.length_map]
  exact ⟨h2, h3, ls, hl, by rw [← hl]; exact h4, h5, h6, h7⟩
/-- the last inner compound becomes the one under way -/
theorem InS.jump {M lo hi : Nat} {F : Nat → Prop} {rv : Value} {m : Nat} {ms : Nat → Nat} (hV : Vis M lo hi F rv m ms) {j : Nat} (hj : j < m) {P x y : Nat} {w W' : World} {v : Value} {n : Nat} {rs : List MR} {acc : List (Ck SK)} {r : MR} {z : Ck ByteArray} (hA : AccX M (AcP hi F P (mk3 (ms j) (ms (j + 1)) x)) w v n rs acc) (hr : RCk Gn (fun c => Ob rv c ∨ c < mk3 (ms j) (ms (j + 1)) x ∨ mk3 (ms j) (ms (j + 1)) y ≤ c) w r z) (hR : Room w P 6) (hMP : M ≤ P)
    (hw : W' = (((((w.setCell ⟨P, 0, none⟩ r.tv).setCell ⟨P, 1, none⟩ r.sv).setCell ⟨P, 2, none⟩ r.nv).setCell ⟨P, 3, none⟩ (.int .i32 0)).setCell ⟨P, 4, none⟩ (.int .u8 r.cb)).setCell ⟨P, 5, none⟩ (.bool false)) : InS M lo hi F rv (ms (j + 1)) P W' v n rs r.sv (acc, ofI z) ∧ Kp (fun b => b = P) w W' := by
  obtain ⟨l1, l2, l3⟩ := hV.le hj
  have hM := hV.hi_le
  have mx := mk3_ge (ms j) (ms (j + 1)) x
  have mx2 := mk3_le (x := x) l2
  have my := mk3_le (x := y) l2
  have hcb : r.cb = z.cb := hr.1
  have hvM : ∀ b, Ob v b → M ≤ b := fun b q => (hA.1.lt b q).1
  have hsv : ∀ b, Ob r.sv b → ¬ Ob rv b ∧ mk3 (ms j) (ms (j + 1)) x ≤ b ∧ b < mk3 (ms j) (ms (j + 1)) y := fun b q => by
    obtain ⟨-, -, -, ls, -, h5, -⟩ := hr
    have := h5 b q
    refine ⟨fun e => this (.inl e), ?_, ?_⟩
    · by_cases e : b < mk3 (ms j) (ms (j + 1)) x
      · exact absurd (.inr (.inl e)) this
      · omega
    · by_cases e : mk3 (ms j) (ms (j + 1)) y ≤ b
      · exact absurd (.inr (.inr e)) this
      · omega
  obtain ⟨t1, t2, t3⟩ := put6z (w := w) (W' := W') (T := P) r.tv r.sv r.nv (.int .i32 0) (.int .u8 r.cb) (.bool false) hR hw
  have hr2 : RCk G1 (AvO hi F v P (ms (j + 1))) w r (ofI z) := RCk.wide G1.keep hr.up (fun b _ q => by
    rcases q with q | q | q | q
    · have := hvM b q; right; right; omega
    · right; right; omega
    · right; right; omega
    · rcases (hV.fut b q).2 with q | q
      · right; left; omega
      · right; right; omega)
  have hco := hr2.toRCo.keep G1.keep (S := fun b => b = P) (O' := AvO hi F v P (ms (j + 1))) t3 (fun b _ e => .inr (.inl e)) (fun _ _ q => q)
  refine ⟨⟨hA.keep t3 (fun b _ e => .inl e) (fun b _ q => ?_), ⟨r.tv, r.nv, _, by show Seg W' P 0 [_, _, _, _, .int .u8 z.cb, _]; rw [← hcb]; exact t1, t2, .inr (.inl rfl), hco⟩, fun b q => ?_, hMP⟩, t3⟩
  · rcases q with q | q | q | q
    · obtain ⟨-, q1, q2⟩ := hsv b q
      right; left; omega
    · exact .inl q
    · right; left; omega
    · exact .inr (.inr q)
  · obtain ⟨q0, q1, q2⟩ := hsv b q
    exact .inr ⟨by omega, by omega, q0⟩
end Go.Proofs.Ytjigljpodkfchad
