/- FnIsSafeSelectorsConcat: what the arguments read as. -/
import Derived.Test.YtacalmdjkgbhlaaDoorIs8
import Derived.Deep.Slices
import Derived.Deep.Fields
set_option linter.unusedVariables false
set_option linter.unusedSimpArgs false
namespace Go.Proofs.YtacalmdjkgbhlaaDoor
open Go.RowKit Go.ChangeShapes Go.WideShapes Go.Deep
set_option maxRecDepth 100000
section
variable {H : Type} {enc : TypeId × Value → H} {w : World} {base : Nat} {held : Bool}
/-- a slice that came in: each element's cells -/
theorem arg_row {t e z fuel : Nat} {v : Value} {x : DataW H × List MemPlace} (ht : Tryd.prog.underlying t = some (.slice e)) (hz : Tryd.prog.cellsOf e = z) (hz0 : 0 < z) (h : DataW.trod enc Tryd.prog w base (fun _ => true) held fuel t [v] = some x) :
    ∃ a len cap n, v = .slice a len cap ∧ (a = none → len = 0 ∧ cap = 0) ∧ len ≤ maxLen ∧ ∀ i, i < len → ∃ b o cs y, a = some ⟨b, o, none⟩ ∧ cs.length = z ∧ Seg w b (o + i * z) cs ∧ DataW.trod enc Tryd.prog w base (fun _ => true) held n e cs = some y := by
  rcases open_slice ht h with ⟨hcs, _⟩ | ⟨x0, l, c, m, n, D, Pl, hcs, hb, hle, hm, hmm, hx, hi⟩
  · simp only [List.cons.injEq, and_true] at hcs
    subst hcs
    exact ⟨none, 0, 0, 0, rfl, fun _ => ⟨rfl, rfl⟩, by unfold maxLen; omega, fun i h => by omega⟩
  · simp only [List.cons.injEq, and_true] at hcs
    subst hcs
    simp only [if_true] at hmm
    refine ⟨some x0, l, c, n, rfl, (fun q => by cases q), by omega, fun i hil => ?_⟩
    obtain ⟨cs', hc, ht'⟩ := hi i (by omega)
    obtain ⟨cs0, hc0, _⟩ := hi 0 (by omega)
    rw [hz] at hc hc0
    obtain ⟨_, hcl, hat⟩ := World.cells?_some hc
    obtain ⟨_, hcl0, hat0⟩ := World.cells?_some hc0
    have hsp : x0.spot = none := by
      have h1 := hat0 0 hz0
      rw [List.getElem?_eq_getElem (by omega)] at h1
      have := World.cell?_spot h1
      simpa [Addr.add] using this
    obtain ⟨b, o, sp⟩ := x0
    simp only at hsp
    subst hsp
    refine ⟨b, o, cs', _, rfl, hcl, fun j v hj => ?_, ht'⟩
    have hj' := (List.getElem?_eq_some_iff.1 hj).1
    have h1 := hat j (by omega)
    have ea : ∀ (b o k : Nat), (⟨b, o, none⟩ : Addr).add k = ⟨b, o + k, none⟩ := fun b o k => by unfold Addr.add; split <;> simp_all
    rw [ea, ea] at h1
    rw [h1]
    exact hj
theorem fk_at {n : Nat} {fs : Array Field} {xs : List (DataW H × List MemPlace)} {cs : List Value} (hl : xs.length = fs.size) (hf : ∀ (i : Nat) (f : Field), fs[i]? = some f → DataW.trod enc Tryd.prog w base (fun _ => true) held n f.type ((cs.drop f.offset).take (Tryd.prog.cellsOf f.type)) = xs[i]?)
    (j : Nat) (f : Field) (hj : fs[j]? = some f) (h1 : Tryd.prog.cellsOf f.type = 1) {v : Value} (hv : cs[f.offset]? = some v) : ∃ y, DataW.trod enc Tryd.prog w base (fun _ => true) held n f.type [v] = some y := by
  have h := hf j f hj
  have hjl : j < xs.length := by rw [hl]; exact (Array.getElem?_eq_some_iff.1 hj).1
  rw [List.getElem?_eq_getElem hjl, h1] at h
  obtain ⟨hv1, hv2⟩ := List.getElem?_eq_some_iff.1 hv
  rw [List.drop_eq_getElem_cons hv1, hv2] at h
  exact ⟨_, h⟩
theorem c5 : Tryd.prog.cellsOf 5 = 1 := by kernel_rfl
theorem c4' : Tryd.prog.cellsOf 4 = 1 := by kernel_rfl
theorem c9' : Tryd.prog.cellsOf 9 = 1 := by kernel_rfl
theorem c30 : Tryd.prog.cellsOf 30 = 1 := by kernel_rfl
theorem c34 : Tryd.prog.cellsOf 34 = 5 := by kernel_rfl
theorem c32 : Tryd.prog.cellsOf 32 = 6 := by kernel_rfl
theorem c26 : Tryd.prog.cellsOf 26 = 1 := by kernel_rfl
theorem sb_of {n : Nat} {cs : List Value} {y : DataW H × List MemPlace} (hl : cs.length = 5) (h : DataW.trod enc Tryd.prog w base (fun _ => true) held n 34 cs = some y) : ∃ s, cs = SbL s := by
  obtain ⟨xs, n', -, -, -, hxl, hf⟩ := DataW.trod_struct Tryd.underlying34 h
  match cs, hl with
  | [v0, v1, v2, v3, v4], _ =>
    obtain ⟨_, g0⟩ := fk_at hxl hf 0 _ rfl c5 (v := v0) rfl
    obtain ⟨_, g1⟩ := fk_at hxl hf 1 _ rfl c5 (v := v1) rfl
    obtain ⟨_, g2⟩ := fk_at hxl hf 2 _ rfl c9' (v := v2) rfl
    obtain ⟨_, g3⟩ := fk_at hxl hf 3 _ rfl c4' (v := v3) rfl
    obtain ⟨_, g4⟩ := fk_at hxl hf 4 _ rfl c4' (v := v4) rfl
    obtain ⟨n0, rfl, -⟩ := FK.of_trod (.int .u8) Tryd.underlying5 g0
    obtain ⟨n1, rfl, -⟩ := FK.of_trod (.int .u8) Tryd.underlying5 g1
    obtain ⟨n2, rfl, -⟩ := FK.of_trod .str Tryd.underlying9 g2
    obtain ⟨n3, rfl⟩ := FK.of_trod .bool Tryd.underlying4 g3
    obtain ⟨n4, rfl⟩ := FK.of_trod .bool Tryd.underlying4 g4
    exact ⟨⟨n0, n1, n2, n3, n4⟩, rfl⟩
instance : Inhabited Sb := ⟨⟨0, 0, ⟨#[]⟩, false, false⟩⟩
instance : Inhabited Cq := ⟨⟨0, 0, 0, false, ⟨#[]⟩, []⟩⟩
theorem range_at {T : Type} (F : Nat → T) (n i : Nat) (x : T) (h : ((List.range n).map F)[i]? = some x) : i < n ∧ x = F i := by
  rw [List.getElem?_map] at h
  by_cases hi : i < n
  · rw [List.getElem?_range hi] at h
    exact ⟨hi, (Option.some.inj h).symm⟩
  · rw [List.getElem?_eq_none (by simpa using hi)] at h
    cases h
theorem arg_subs {fuel : Nat} {v : Value} {x : DataW H × List MemPlace} (h : DataW.trod enc Tryd.prog w base (fun _ => true) held fuel 30 [v] = some x) : ∃ a ss cap, v = .slice a ss.length cap ∧ (a = none → ss = [] ∧ cap = 0) ∧ RS (fun _ => False) w a ss ∧ ss.length ≤ maxLen := by
  obtain ⟨a, len, cap, n, rfl, hn, hm, hi⟩ := arg_row Tryd.underlying30 c34 (by omega) h
  obtain ⟨F, hF⟩ := choose_lt (α := Sb) (p := fun i s => ∃ b o, a = some ⟨b, o, none⟩ ∧ Seg w b (o + i * 5) (SbL s)) (n := len) (fun i hil => by
    obtain ⟨b, o, cs, y, h1, h2, h3, h4⟩ := hi i hil
    obtain ⟨s, rfl⟩ := sb_of h2 h4
    exact ⟨s, b, o, h1, h3⟩)
  refine ⟨a, (List.range len).map F, cap, by simp, fun q => ?_, fun i s hs => ?_, by simpa using hm⟩
  · obtain ⟨rfl, rfl⟩ := hn q
    exact ⟨rfl, rfl⟩
  · obtain ⟨hil, rfl⟩ := range_at F len i s hs
    obtain ⟨b, o, h1, h2⟩ := hF i hil
    exact ⟨b, o, h1, id, h2⟩
theorem cq_of {n : Nat} {cs : List Value} {y : DataW H × List MemPlace} (hl : cs.length = 6) (h : DataW.trod enc Tryd.prog w base (fun _ => true) held n 32 cs = some y) : ∃ c a' c', cs = CqL c a' c' ∧ (a' = none → c.ss = [] ∧ c' = 0) ∧ RS (fun _ => False) w a' c.ss ∧ c.tn.size ≤ maxLen ∧ c.ss.length ≤ maxLen := by
  obtain ⟨xs, n', -, -, -, hxl, hf⟩ := DataW.trod_struct Tryd.underlying32 h
  match cs, hl with
  | [v0, v1, v2, v3, v4, v5], _ =>
    obtain ⟨_, g0⟩ := fk_at hxl hf 0 _ rfl c5 (v := v0) rfl
    obtain ⟨_, g1⟩ := fk_at hxl hf 1 _ rfl c5 (v := v1) rfl
    obtain ⟨_, g2⟩ := fk_at hxl hf 2 _ rfl c5 (v := v2) rfl
    obtain ⟨_, g3⟩ := fk_at hxl hf 3 _ rfl c4' (v := v3) rfl
    obtain ⟨_, g4⟩ := fk_at hxl hf 4 _ rfl c9' (v := v4) rfl
    obtain ⟨_, g5⟩ := fk_at hxl hf 5 _ rfl c30 (v := v5) rfl
    obtain ⟨n0, rfl, -⟩ := FK.of_trod (.int .u8) Tryd.underlying5 g0
    obtain ⟨n1, rfl, -⟩ := FK.of_trod (.int .u8) Tryd.underlying5 g1
    obtain ⟨n2, rfl, -⟩ := FK.of_trod (.int .u8) Tryd.underlying5 g2
    obtain ⟨n3, rfl⟩ := FK.of_trod .bool Tryd.underlying4 g3
    obtain ⟨n4, rfl, hs⟩ := FK.of_trod .str Tryd.underlying9 g4
    obtain ⟨a, ss, cap, rfl, hn, hr, hm⟩ := arg_subs g5
    exact ⟨⟨n0, n1, n2, n3, n4, ss⟩, a, cap, rfl, hn, hr, hs, hm⟩
theorem arg_comps {fuel : Nat} {v : Value} {x : DataW H × List MemPlace} (h : DataW.trod enc Tryd.prog w base (fun _ => true) held fuel 26 [v] = some x) : ∃ a cs cap, v = .slice a cs.length cap ∧ (a = none → cs = [] ∧ cap = 0) ∧ RC (fun _ => False) w a cs ∧ cs.length ≤ maxLen := by
  obtain ⟨a, len, cap, n, rfl, hn, hm, hi⟩ := arg_row Tryd.underlying26 c32 (by omega) h
  obtain ⟨F, hF⟩ := choose_lt (α := Cq) (p := fun i c => ∃ b o a' c', a = some ⟨b, o, none⟩ ∧ Seg w b (o + i * 6) (CqL c a' c') ∧ (a' = none → c.ss = [] ∧ c' = 0) ∧ RS (fun _ => False) w a' c.ss ∧ c.tn.size ≤ maxLen ∧ c.ss.length ≤ maxLen) (n := len) (fun i hil => by
    obtain ⟨b, o, cs, y, h1, h2, h3, h4⟩ := hi i hil
    obtain ⟨c, a', c', rfl, r⟩ := cq_of h2 h4
    exact ⟨c, b, o, a', c', h1, h3, r⟩)
  refine ⟨a, (List.range len).map F, cap, by simp, fun q => ?_, fun i s hs => ?_, by simpa using hm⟩
  · obtain ⟨rfl, rfl⟩ := hn q
    exact ⟨rfl, rfl⟩
  · obtain ⟨hil, rfl⟩ := range_at F len i s hs
    obtain ⟨b, o, a', c', h1, h2⟩ := hF i hil
    exact ⟨b, o, a', c', h1, id, h2⟩
theorem arg_groups {fuel : Nat} {v : Value} {x : DataW H × List MemPlace} (h : DataW.trod enc Tryd.prog w base (fun _ => true) held fuel 22 [v] = some x) : ∃ a gs cap, v = .slice a gs.length cap ∧ (a = none → gs = [] ∧ cap = 0) ∧ RG (fun _ => False) w a gs ∧ gs.length ≤ maxLen := by
  obtain ⟨a, len, cap, n, rfl, hn, hm, hi⟩ := arg_row Tryd.underlying22 c26 (by omega) h
  obtain ⟨F, hF⟩ := choose_lt (α := List Cq) (p := fun i g => ∃ b o a' c', a = some ⟨b, o, none⟩ ∧ w.cell? ⟨b, o + i, none⟩ = some (.slice a' g.length c') ∧ (a' = none → g = [] ∧ c' = 0) ∧ RC (fun _ => False) w a' g ∧ g.length ≤ maxLen) (n := len) (fun i hil => by
    obtain ⟨b, o, cs, y, h1, h2, h3, h4⟩ := hi i hil
    match cs, h2 with
    | [u], _ =>
      obtain ⟨a', g, c', rfl, r1, r2, r3⟩ := arg_comps h4
      exact ⟨g, b, o, a', c', h1, by have := h3 0 _ rfl; simpa using this, r1, r2, r3⟩)
  refine ⟨a, (List.range len).map F, cap, by simp, fun q => ?_, fun i s hs => ?_, by simpa using hm⟩
  · obtain ⟨rfl, rfl⟩ := hn q
    exact ⟨rfl, rfl⟩
  · obtain ⟨hil, rfl⟩ := range_at F len i s hs
    obtain ⟨b, o, a', c', h1, h2⟩ := hF i hil
    exact ⟨b, o, a', c', h1, id, h2⟩
end
end Go.Proofs.YtacalmdjkgbhlaaDoor
