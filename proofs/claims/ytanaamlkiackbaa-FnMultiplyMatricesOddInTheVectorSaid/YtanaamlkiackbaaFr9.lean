/- An array of nine floats that came in by value. -/
import Derived.Test.YtanaamlkiackbaaRows
import Derived.OpenShut
import Derived.ChangeOld
import Derived.WideShapes
import Derived.Laws.Cover2
set_option linter.unusedVariables false
set_option linter.unusedSimpArgs false
namespace Go.Proofs.Ytanaamlkiackbaa
open Go.RowKit Go.ChangeShapes Go.WideShapes
section
variable {H : Type} {enc : TypeId × Value → H} {P : Program} {w : World} {base : Nat} {spare : Nat → Bool} {held : Bool}
theorem trod_float {fuel : Nat} {t : TypeId} {k : FloatKind} {cs : List Value} {x : DataW H × List MemPlace} (ht : P.underlying t = some (.float k)) (h : DataW.trod enc P w base spare held fuel t cs = some x) : ∃ b, cs = [.float k b] ∧ (Lit.float k b).wf = true := by
  cases fuel with
  | zero => simp [DataW.trod] at h
  | succ m =>
    unfold DataW.trod at h
    rw [ht] at h
    split at h <;> simp_all
theorem okWide_array {r : Reach} {b0 n : Nat} {t e : TypeId} {v : Value} (ht : P.underlying t = some (.array n e)) (h : Value.okWide P w r b0 t v) : ∃ cs, v = .agg cs ∧ cs.size = P.cellsOf t := by
  simp only [Value.okWide, ht] at h
  obtain ⟨cs, h1, h2, _⟩ := h
  exact ⟨cs, h1, h2⟩
theorem arg_nine {r : Reach} {b0 : Nat} {t e : TypeId} {v : Value} {d : DataW H} {p : List MemPlace} (ht : P.underlying t = some (.array 9 e)) (he : P.underlying e = some (.float .f64)) (hc : P.cellsOf e = 1) (hC : P.cellsOf t = 9)
    (hv : Value.okWide P w r b0 t v) (h : DataW.Trod enc P w base spare held t v d p) :
    ∃ A : Nat → Nat, v = .agg #[.float .f64 (A 0), .float .f64 (A 1), .float .f64 (A 2), .float .f64 (A 3), .float .f64 (A 4), .float .f64 (A 5), .float .f64 (A 6), .float .f64 (A 7), .float .f64 (A 8)] ∧ ∀ i, i < 9 → (Lit.float .f64 (A i)).wf = true := by
  obtain ⟨cs, rfl, hz⟩ := okWide_array ht hv
  rw [hC] at hz
  obtain ⟨fuel, hf⟩ := h
  obtain ⟨xs, m, -, -, hl, hx, hi⟩ := DataW.trod_array ht hf
  have each : ∀ i (hi9 : i < 9), ∃ b, cs[i]'(by omega) = .float .f64 b ∧ (Lit.float .f64 b).wf = true := fun i hi9 => by
    have h1 := hi i hi9
    rw [hc, Nat.mul_one] at h1
    have hcs : (Value.agg cs).cells = cs := rfl
    have hys : xs[i]? = some (xs[i]'(by omega)) := List.getElem?_eq_getElem (by omega)
    rw [hys] at h1
    obtain ⟨b, hb, hw⟩ := trod_float he h1
    refine ⟨b, ?_, hw⟩
    have hlen : cs.toList.length = 9 := by simpa using hz
    have e1 : ((Value.agg cs).cells.toList.drop i).take 1 = [cs.toList[i]'(by omega)] := by
      rw [hcs, List.drop_eq_getElem_cons (by omega)]; rfl
    rw [e1] at hb
    simpa using hb
  refine ⟨fun i => match cs[i]? with | some (.float _ b) => b | _ => 0, ?_, fun i hi9 => ?_⟩
  · congr 1
    refine Array.ext (by simpa using hz) fun i h1 h2 => ?_
    obtain ⟨b, hb, -⟩ := each i (by omega)
    have hi9 : i < 9 := by omega
    match i, hi9 with
    | 0, _ => simp [hz, hb]
    | 1, _ => simp [hz, hb]
    | 2, _ => simp [hz, hb]
    | 3, _ => simp [hz, hb]
    | 4, _ => simp [hz, hb]
    | 5, _ => simp [hz, hb]
    | 6, _ => simp [hz, hb]
    | 7, _ => simp [hz, hb]
    | 8, _ => simp [hz, hb]
  · obtain ⟨b, hb, hw⟩ := each i hi9
    have : cs[i]? = some (.float .f64 b) := by rw [Array.getElem?_eq_getElem (by omega), hb]
    simp only [this]
    exact hw
end
end Go.Proofs.Ytanaamlkiackbaa
