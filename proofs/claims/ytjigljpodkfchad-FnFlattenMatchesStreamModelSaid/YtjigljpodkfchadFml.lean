/- FnFlattenMatchesStreamModel: what the arguments read as. -/
import Derived.Test.YtjigljpodkfchadFmk
import Derived.Deep.Slices
import Derived.Deep.Fields
set_option linter.unusedVariables false
set_option linter.unusedSimpArgs false
namespace Go.Proofs.Ytjigljpodkfchad
open Go.RowKit Go.ChangeShapes Go.WideShapes Go.Deep
set_option maxRecDepth 100000
section
variable {H : Type} {enc : TypeId × Value → H} {w : World} {base : Nat} {held : Bool}
/-- a slice that came in: each element's cells -/
theorem arg_row {t e z fuel : Nat} {v : Value} {x : DataW H × List MemPlace} (ht : Try.prog.underlying t = some (.slice e)) (hz : Try.prog.cellsOf e = z) (hz0 : 0 < z) (h : DataW.trod enc Try.prog w base (fun _ => true) held fuel t [v] = some x) :
    ∃ a len cap n, v = .slice a len cap ∧ (a = none → len = 0 ∧ cap = 0) ∧ len ≤ maxLen ∧ ∀ i, i < len → ∃ b o cs y, a = some ⟨b, o, none⟩ ∧ cs.length = z ∧ Seg w b (o + i * z) cs ∧ DataW.trod enc Try.prog w base (fun _ => true) held n e cs = some y := by
  rcases open_slice ht h with ⟨hcs, _⟩ | ⟨x0, l, c, m, n, D, Pl, hcs, hb, hle, hm, hmm, hx, hi⟩
  · simp only [List.cons.injEq, and_true] at hcs
    subst hcs
    exact ⟨none, 0, 0, 0, rfl, fun _ => ⟨rfl, rfl⟩, by unfold maxLen; omega, fun i h => by omega⟩
  · simp only [List.cons.injEq, and_true] at hcs
    subst hcs
    simp only [if_true] at hmm
    refine ⟨some x0, l, c, n, rfl, (fun q => by cases q), by omega, fun i hil => ?_⟩
    obtain ⟨cs', hc, ht'⟩ := hi i (by omega)
    obtain ⟨cs0, hc0, _⟩ := hi 0 (by omega)
    rw [hz] at hc hc0
    obtain ⟨_, hcl, hat⟩ := World.cells?_some hc
    obtain ⟨_, hcl0, hat0⟩ := World.cells?_some hc0
    have hsp : x0.spot = none := by
      have h1 := hat0 0 hz0
      rw [List.getElem?_eq_getElem (by omega)] at h1
      have := World.cell?_spot h1
      simpa [Addr.add] using this
    obtain ⟨b, o, sp⟩ := x0
    simp only at hsp
    subst hsp
    refine ⟨b, o, cs', _, rfl, hcl, fun j v hj => ?_, ht'⟩
    have hj' := (List.getElem?_eq_some_iff.1 hj).1
    have h1 := hat j (by omega)
    have ea : ∀ (b o k : Nat), (⟨b, o, none⟩ : Addr).add k = ⟨b, o + k, none⟩ := fun b o k => by unfold Addr.add; split <;> simp_all
    rw [ea, ea] at h1
    rw [h1]
    exact hj
theorem fk_at {n : Nat} {fs : Array Field} {xs : List (DataW H × List MemPlace)} {cs : List Value} (hl : xs.length = fs.size) (hf : ∀ (i : Nat) (f : Field), fs[i]? = some f → DataW.trod enc Try.prog w base (fun _ => true) held n f.type ((cs.drop f.offset).take (Try.prog.cellsOf f.type)) = xs[i]?)
    (j : Nat) (f : Field) (hj : fs[j]? = some f) (h1 : Try.prog.cellsOf f.type = 1) {v : Value} (hv : cs[f.offset]? = some v) : ∃ y, DataW.trod enc Try.prog w base (fun _ => true) held n f.type [v] = some y := by
  have h := hf j f hj
  have hjl : j < xs.length := by rw [hl]; exact (Array.getElem?_eq_some_iff.1 hj).1
  rw [List.getElem?_eq_getElem hjl, h1] at h
  obtain ⟨hv1, hv2⟩ := List.getElem?_eq_some_iff.1 hv
  rw [List.drop_eq_getElem_cons hv1, hv2] at h
  exact ⟨_, h⟩
theorem c4' : Try.prog.cellsOf 4 = 1 := by kernel_rfl
theorem c5 : Try.prog.cellsOf 5 = 1 := by kernel_rfl
theorem c9' : Try.prog.cellsOf 9 = 1 := by kernel_rfl
theorem c40 : Try.prog.cellsOf 40 = 1 := by kernel_rfl
theorem c43 : Try.prog.cellsOf 43 = 1 := by kernel_rfl
theorem c46 : Try.prog.cellsOf 46 = 1 := by kernel_rfl
theorem c42 : Try.prog.cellsOf 42 = 4 := by kernel_rfl
theorem c45 : Try.prog.cellsOf 45 = 4 := by kernel_rfl
theorem c48 : Try.prog.cellsOf 48 = 4 := by kernel_rfl
instance : Inhabited Zi := ⟨⟨0, 0, 0, []⟩⟩
instance : Inhabited Zs := ⟨⟨false, 0, ⟨#[]⟩, []⟩⟩
instance : Inhabited Zc := ⟨⟨0, 0, 0, []⟩⟩
instance : Inhabited ByteArray := ⟨⟨#[]⟩⟩
theorem range_at {T : Type} (F : Nat → T) (n i : Nat) (x : T) (h : ((List.range n).map F)[i]? = some x) : i < n ∧ x = F i := by
  rw [List.getElem?_map] at h
  by_cases hi : i < n
  · rw [List.getElem?_range hi] at h
    exact ⟨hi, (Option.some.inj h).symm⟩
  · rw [List.getElem?_eq_none (by simpa using hi)] at h
    cases h
theorem wf_u8 {n : Int} (h : (Lit.int .u8 n).wf = true) : 0 ≤ n ∧ n ≤ 255 := by
  have e1 : IntKind.u8.min = 0 := by decide
  have e2 : IntKind.u8.max = 255 := by decide
  simp [Lit.wf] at h; omega
theorem arg_names {fuel : Nat} {v : Value} {x : DataW H × List MemPlace} (h : DataW.trod enc Try.prog w base (fun _ => true) held fuel 46 [v] = some x) : ∃ a ss cap, v = .slice a ss.length cap ∧ RN w a ss ∧ ss.length ≤ maxLen := by
  obtain ⟨a, len, cap, n, rfl, hn, hm, hi⟩ := arg_row Try.underlying46 c9' (by omega) h
  obtain ⟨F, hF⟩ := choose_lt (α := ByteArray) (p := fun i s => ∃ b o, a = some ⟨b, o, none⟩ ∧ w.cell? ⟨b, o + i, none⟩ = some (.string s) ∧ s.size ≤ maxLen) (n := len) (fun i hil => by
    obtain ⟨b, o, cs, y, h1, h2, h3, h4⟩ := hi i hil
    match cs, h2 with
    | [u], _ =>
      obtain ⟨s, rfl, hs⟩ := FK.of_trod .str Try.underlying9 h4
      exact ⟨s, b, o, h1, by have := h3 0 _ rfl; simpa using this, hs⟩)
  refine ⟨a, (List.range len).map F, cap, by simp, fun i s hs => ?_, by simpa using hm⟩
  obtain ⟨hil, rfl⟩ := range_at F len i s hs
  exact hF i hil
theorem zi_of {n : Nat} {cs : List Value} {y : DataW H × List MemPlace} (hl : cs.length = 4) (h : DataW.trod enc Try.prog w base (fun _ => true) held n 48 cs = some y) : ∃ c a' c', cs = ZiL c a' c' ∧ RN w a' c.nm ∧ c.nm.length ≤ maxLen ∧ U8 c.cb ∧ U8 c.ty ∧ c.am ≤ 255 := by
  obtain ⟨xs, n', -, -, -, hxl, hf⟩ := DataW.trod_struct Try.underlying48 h
  match cs, hl with
  | [v0, v1, v2, v3], _ =>
    obtain ⟨_, g0⟩ := fk_at hxl hf 0 _ rfl c5 (v := v0) rfl
    obtain ⟨_, g1⟩ := fk_at hxl hf 1 _ rfl c5 (v := v1) rfl
    obtain ⟨_, g2⟩ := fk_at hxl hf 2 _ rfl c5 (v := v2) rfl
    obtain ⟨_, g3⟩ := fk_at hxl hf 3 _ rfl c46 (v := v3) rfl
    obtain ⟨n0, rfl, hw0⟩ := FK.of_trod (.int .u8) Try.underlying5 g0
    obtain ⟨n1, rfl, hw1⟩ := FK.of_trod (.int .u8) Try.underlying5 g1
    obtain ⟨n2, rfl, hw2⟩ := FK.of_trod (.int .u8) Try.underlying5 g2
    obtain ⟨a, ss, cap, rfl, hr, hm⟩ := arg_names g3
    obtain ⟨w1, w2⟩ := wf_u8 hw2
    exact ⟨⟨n0, n1, n2.toNat, ss⟩, a, cap, by show [_, _, _, _] = [_, _, Value.int .u8 (n2.toNat : Int), _]; rw [Int.toNat_of_nonneg w1], hr, hm, wf_u8 hw0, wf_u8 hw1, by show n2.toNat ≤ 255; omega⟩
theorem arg_inn {fuel : Nat} {v : Value} {x : DataW H × List MemPlace} (h : DataW.trod enc Try.prog w base (fun _ => true) held fuel 43 [v] = some x) : ∃ a cs cap, v = .slice a cs.length cap ∧ RI w a cs ∧ cs.length ≤ maxLen := by
  obtain ⟨a, len, cap, n, rfl, hn, hm, hi⟩ := arg_row Try.underlying43 c48 (by omega) h
  obtain ⟨F, hF⟩ := choose_lt (α := Zi) (p := fun i c => ∃ b o a' c', a = some ⟨b, o, none⟩ ∧ Seg w b (o + i * 4) (ZiL c a' c') ∧ RN w a' c.nm ∧ c.nm.length ≤ maxLen ∧ U8 c.cb ∧ U8 c.ty ∧ c.am ≤ 255) (n := len) (fun i hil => by
    obtain ⟨b, o, cs, y, h1, h2, h3, h4⟩ := hi i hil
    obtain ⟨c, a', c', rfl, r⟩ := zi_of h2 h4
    exact ⟨c, b, o, a', c', h1, h3, r⟩)
  refine ⟨a, (List.range len).map F, cap, by simp, fun i s hs => ?_, by simpa using hm⟩
  obtain ⟨hil, rfl⟩ := range_at F len i s hs
  exact hF i hil
theorem zs_of {n : Nat} {cs : List Value} {y : DataW H × List MemPlace} (hl : cs.length = 4) (h : DataW.trod enc Try.prog w base (fun _ => true) held n 45 cs = some y) : ∃ c a' c', cs = ZsL c a' c' ∧ RI w a' c.inn ∧ c.inn.length ≤ maxLen ∧ U8 c.kd ∧ c.nm.size ≤ maxLen := by
  obtain ⟨xs, n', -, -, -, hxl, hf⟩ := DataW.trod_struct Try.underlying45 h
  match cs, hl with
  | [v0, v1, v2, v3], _ =>
    obtain ⟨_, g0⟩ := fk_at hxl hf 0 _ rfl c4' (v := v0) rfl
    obtain ⟨_, g1⟩ := fk_at hxl hf 1 _ rfl c5 (v := v1) rfl
    obtain ⟨_, g2⟩ := fk_at hxl hf 2 _ rfl c9' (v := v2) rfl
    obtain ⟨_, g3⟩ := fk_at hxl hf 3 _ rfl c43 (v := v3) rfl
    obtain ⟨n0, rfl⟩ := FK.of_trod .bool Try.underlying4 g0
    obtain ⟨n1, rfl, hw1⟩ := FK.of_trod (.int .u8) Try.underlying5 g1
    obtain ⟨n2, rfl, hs⟩ := FK.of_trod .str Try.underlying9 g2
    obtain ⟨a, ss, cap, rfl, hr, hm⟩ := arg_inn g3
    exact ⟨⟨n0, n1, n2, ss⟩, a, cap, rfl, hr, hm, wf_u8 hw1, hs⟩
theorem arg_subs {fuel : Nat} {v : Value} {x : DataW H × List MemPlace} (h : DataW.trod enc Try.prog w base (fun _ => true) held fuel 40 [v] = some x) : ∃ a cs cap, v = .slice a cs.length cap ∧ RS w a cs ∧ cs.length ≤ maxLen := by
  obtain ⟨a, len, cap, n, rfl, hn, hm, hi⟩ := arg_row Try.underlying40 c45 (by omega) h
  obtain ⟨F, hF⟩ := choose_lt (α := Zs) (p := fun i c => ∃ b o a' c', a = some ⟨b, o, none⟩ ∧ Seg w b (o + i * 4) (ZsL c a' c') ∧ RI w a' c.inn ∧ c.inn.length ≤ maxLen ∧ U8 c.kd ∧ c.nm.size ≤ maxLen) (n := len) (fun i hil => by
    obtain ⟨b, o, cs, y, h1, h2, h3, h4⟩ := hi i hil
    obtain ⟨c, a', c', rfl, r⟩ := zs_of h2 h4
    exact ⟨c, b, o, a', c', h1, h3, r⟩)
  refine ⟨a, (List.range len).map F, cap, by simp, fun i s hs => ?_, by simpa using hm⟩
  obtain ⟨hil, rfl⟩ := range_at F len i s hs
  exact hF i hil
theorem zc_of {n : Nat} {cs : List Value} {y : DataW H × List MemPlace} (hl : cs.length = 4) (h : DataW.trod enc Try.prog w base (fun _ => true) held n 42 cs = some y) : ∃ c a' c', cs = ZcL c a' c' ∧ RS w a' c.ss ∧ c.ss.length ≤ maxLen ∧ U8 c.cb ∧ U8 c.ty ∧ c.am ≤ 255 := by
  obtain ⟨xs, n', -, -, -, hxl, hf⟩ := DataW.trod_struct Try.underlying42 h
  match cs, hl with
  | [v0, v1, v2, v3], _ =>
    obtain ⟨_, g0⟩ := fk_at hxl hf 0 _ rfl c5 (v := v0) rfl
    obtain ⟨_, g1⟩ := fk_at hxl hf 1 _ rfl c5 (v := v1) rfl
    obtain ⟨_, g2⟩ := fk_at hxl hf 2 _ rfl c5 (v := v2) rfl
    obtain ⟨_, g3⟩ := fk_at hxl hf 3 _ rfl c40 (v := v3) rfl
    obtain ⟨n0, rfl, hw0⟩ := FK.of_trod (.int .u8) Try.underlying5 g0
    obtain ⟨n1, rfl, hw1⟩ := FK.of_trod (.int .u8) Try.underlying5 g1
    obtain ⟨n2, rfl, hw2⟩ := FK.of_trod (.int .u8) Try.underlying5 g2
    obtain ⟨a, ss, cap, rfl, hr, hm⟩ := arg_subs g3
    obtain ⟨w1, w2⟩ := wf_u8 hw2
    exact ⟨⟨n0, n1, n2.toNat, ss⟩, a, cap, by show [_, _, _, _] = [_, _, Value.int .u8 (n2.toNat : Int), _]; rw [Int.toNat_of_nonneg w1], hr, hm, wf_u8 hw0, wf_u8 hw1, by show n2.toNat ≤ 255; omega⟩
theorem arg_comps {fuel : Nat} {v : Value} {x : DataW H × List MemPlace} (h : DataW.trod enc Try.prog w base (fun _ => true) held fuel 22 [v] = some x) : ∃ a cs cap, v = .slice a cs.length cap ∧ RC w a cs ∧ cs.length ≤ maxLen := by
  obtain ⟨a, len, cap, n, rfl, hn, hm, hi⟩ := arg_row Try.underlying22 c42 (by omega) h
  obtain ⟨F, hF⟩ := choose_lt (α := Zc) (p := fun i c => ∃ b o a' c', a = some ⟨b, o, none⟩ ∧ Seg w b (o + i * 4) (ZcL c a' c') ∧ RS w a' c.ss ∧ c.ss.length ≤ maxLen ∧ U8 c.cb ∧ U8 c.ty ∧ c.am ≤ 255) (n := len) (fun i hil => by
    obtain ⟨b, o, cs, y, h1, h2, h3, h4⟩ := hi i hil
    obtain ⟨c, a', c', rfl, r⟩ := zc_of h2 h4
    exact ⟨c, b, o, a', c', h1, h3, r⟩)
  refine ⟨a, (List.range len).map F, cap, by simp, fun i s hs => ?_, by simpa using hm⟩
  obtain ⟨hil, rfl⟩ := range_at F len i s hs
  exact hF i hil
end
end Go.Proofs.Ytjigljpodkfchad
