/- FnFlattenMatchesStreamModel: words for a list of kind local/global. -/
import Derived.Test.YtjigljpodkfchadFlr
set_option linter.unusedVariables false
set_option linter.unusedSimpArgs false
namespace Go.Proofs.Ytjigljpodkfchad
open Go.RowKit
set_option maxRecDepth 100000
set_option maxHeartbeats 40000000
theorem und30 : Try.prog.underlying 30 = some (.slice (Try.prog.elem 30)) := by kernel_rfl
theorem sz30 (w : World) : (sizeOf (Try.prog.elem 30)).run Try.prog w = .ok 6 w := by
  have e : Try.prog.elem 30 = 102 := by kernel_rfl
  have h : (sizeOf 102).run Try.prog w = .ok 6 w := by kernel_rfl
  rw [e]; exact h
theorem addN (A q n : Nat) : (⟨A, q, none⟩ : Addr).add n = ⟨A, q + n, none⟩ := by unfold Addr.add; split <;> simp_all
theorem sl_h (A q len cap h : Nat) (hh : h ≤ cap) (W : World) : (Instr.sliceAt 30 (.slice (some ⟨A, q, none⟩) len cap) none (some (.int .i64 (h : Int))) none).run Try.prog W = .ok (.slice (some ⟨A, q, none⟩) h cap) W := by
  rw [run_sliceAt_slice W 30 _ _ _ _ und30, run_slice_h W 30 _ _ _ und30 .i64 _ (by omega) (by omega), sz30]
  simp [Result.andThen, sliced, Addr.add]
/-- 'x[1:]': where its first element lies does not matter when none is left -/
theorem sl_1 (A len cap : Nat) (hl : 0 < len) (hc : len ≤ cap) : ∃ q, (0 < len - 1 → q = 1 * 6) ∧ ∀ W : World, (Instr.sliceAt 30 (.slice (some ⟨A, 0, none⟩) len cap) (some (.int .i64 1)) none none).run Try.prog W = .ok (.slice (some ⟨A, q, none⟩) (len - 1) (cap - 1)) W := by
  by_cases h1 : cap = 1
  · refine ⟨0, fun h => by omega, fun W => ?_⟩
    rw [run_sliceAt_slice W 30 _ _ _ _ und30, run_slice_l W 30 _ _ _ und30 .i64 _ (by omega) (by omega), sz30]
    simp [Result.andThen, sliced, h1]
  · refine ⟨6, fun _ => rfl, fun W => ?_⟩
    rw [run_sliceAt_slice W 30 _ _ _ _ und30, run_slice_l W 30 _ _ _ und30 .i64 _ (by omega) (by omega), sz30]
    simp [Result.andThen, sliced, addN, h1]
theorem li_first {li : List (Ck ByteArray)} (h : li ≠ []) : ∃ t, li[0]? = some t ∧ 1 + t.ks.length ≤ wI li ∧ (t.cb = 0 → ∀ s, mrg s li = mergeK s t ∧ rst li = li.drop 1) ∧ (t.cb ≠ 0 → ∀ s, mrg s li = s ∧ rst li = li.drop 0) := by
  cases li with
  | nil => exact absurd rfl h
  | cons t r =>
    refine ⟨t, rfl, by rw [wI_cons]; omega, fun hc s => ?_, fun hc s => ?_⟩
    · simp [mrg, rst, hc]
    · simp [mrg, rst, hc]
theorem InnS.at {rv : Value} {a b : Nat} {w : World} {g : Nat} {ms : Nat → Nat} {rs : List MR} {l : List (Ck ByteArray)} (h : InnS rv a b w g ms rs l) {k : Nat} {x : Ck ByteArray} (hx : l[k]? = some x) : ∃ r, rs[k]? = some r ∧ Seg w g (k * 6) r.cells ∧ RCk Gn (fun c => Ob rv c ∨ c < mk3 a b (ms k) ∨ mk3 a b (ms (k + 1)) ≤ c) w r x := by
  obtain ⟨h1, h2, h3, -⟩ := h
  have hk := (List.getElem?_eq_some_iff.1 hx).1
  obtain ⟨r, hr⟩ : ∃ r, rs[k]? = some r := ⟨_, List.getElem?_eq_getElem (by omega)⟩
  obtain ⟨e1, e2⟩ := h3 k r x hr hx
  exact ⟨r, hr, e1, e2⟩
theorem RCk.shape {K : Type} {G : (Nat → Prop) → World → SubR K → Prop} {O : Nat → Prop} {w : World} {r : MR} {x : Ck K} (h : RCk G O w r x) : ∃ po sa sc na nc, r = ⟨.pointer po, .slice sa x.ks.length sc, .slice na x.nn nc, x.cb⟩ := by
  obtain ⟨h1, h2, h3, ls, h4, h5, h6, h7⟩ := h
  obtain ⟨tv, sv, nv, cb⟩ := r
  simp only at h1 h2 h3 h4
  subst h1
  obtain ⟨na, nc, rfl, -⟩ := h3
  have hl : ls.length = x.ks.length := by rw [← h7, List.length_map]
  obtain ⟨sa, sc, hs⟩ := own_head h4
  subst hs
  obtain ⟨po, rfl⟩ : ∃ o, tv = .pointer o := by
    cases ht : x.ty with
    | none => rw [ht] at h2; exact ⟨_, h2⟩
    | some s => rw [ht] at h2; obtain ⟨B, e, -⟩ := h2; exact ⟨_, e⟩
  exact ⟨po, sa, sc, na, nc, by rw [hl]⟩
theorem RCk.ones {K : Type} {G : (Nat → Prop) → World → SubR K → Prop} {O : Nat → Prop} {w : World} {r : MR} {x : Ck K} (h : RCk G O w r x) : r.tv.oneCell' = true ∧ r.sv.oneCell' = true ∧ r.nv.oneCell' = true := by
  obtain ⟨po, sa, sc, na, nc, rfl⟩ := h.shape
  exact ⟨rfl, rfl, rfl⟩
/-- the middle ones, as they are appended -/
theorem InnS.mid {rv : Value} {a b : Nat} {w : World} {g : Nat} {ms : Nat → Nat} {rs : List MR} {l : List (Ck ByteArray)} (h : InnS rv a b w g ms rs l) (d e : Nat) (hd : d + e ≤ l.length) : ((rs.drop d).take e).length = e ∧ (∀ j u, (flat MR.cells ((rs.drop d).take e))[j]? = some u → w.cell? ⟨g, d * 6 + j, none⟩ = some u) ∧ (∀ u ∈ flat MR.cells ((rs.drop d).take e), u.oneCell' = true) ∧ (flat MR.cells ((rs.drop d).take e)).length = e * 6 := by
  have hl : ((rs.drop d).take e).length = e := by have := h.1; rw [List.length_take, List.length_drop]; omega
  have hget : ∀ i r, ((rs.drop d).take e)[i]? = some r → rs[d + i]? = some r := fun i r hi => by
    rw [List.getElem?_take] at hi
    split at hi
    · rw [List.getElem?_drop] at hi; exact hi
    · cases hi
  refine ⟨hl, fun j u hj => ?_, flat_one6 (fun r hr => ?_), by rw [flat_len6, hl]⟩
  · have hjl := (List.getElem?_eq_some_iff.1 hj).1
    rw [flat_len6, hl] at hjl
    obtain ⟨r, hr⟩ : ∃ r, ((rs.drop d).take e)[j / 6]? = some r := ⟨_, List.getElem?_eq_getElem (by omega)⟩
    have h2 := flat_at MR.cells 6 (fun _ => rfl) _ (j / 6) (j % 6) r hr (by omega)
    rw [show j / 6 * 6 + j % 6 = j by omega, hj] at h2
    have hr2 := hget _ _ hr
    obtain ⟨x, hx⟩ : ∃ x, l[d + j / 6]? = some x := ⟨_, List.getElem?_eq_getElem (by omega)⟩
    obtain ⟨r', e1, e2, -⟩ := h.at hx
    rw [hr2] at e1
    injection e1 with e1
    subst e1
    have := e2 (j % 6) u h2.symm
    rw [show (d + j / 6) * 6 + j % 6 = d * 6 + j by omega] at this
    exact this
  · obtain ⟨i, hi⟩ := List.getElem?_of_mem hr
    have hr2 := hget _ _ hi
    have hil := (List.getElem?_eq_some_iff.1 hi).1
    obtain ⟨x, hx⟩ : ∃ x, l[d + i]? = some x := ⟨_, List.getElem?_eq_getElem (by omega)⟩
    obtain ⟨r', e1, -, e3⟩ := h.at hx
    rw [hr2] at e1
    injection e1 with e1
    subst e1
    exact e3.ones
/-- .. and what they say -/
theorem InnS.midK {M lo hi : Nat} {F : Nat → Prop} {rv : Value} {m : Nat} {mk : Nat → Nat} (hV : Vis M lo hi F rv m mk) {j : Nat} (hj : j < m) {w : World} {g : Nat} {ms : Nat → Nat} {rs : List MR} {l : List (Ck ByteArray)} (h : InnS rv (mk j) (mk (j + 1)) w g ms rs l) (d e : Nat) (hd : d + e ≤ l.length) {v : Value} {P : Nat} (hvM : ∀ b, Ob v b → M ≤ b) (hP : M ≤ P) : ∀ (i : Nat) r x, ((rs.drop d).take e)[i]? = some r → (((l.drop d).take e).map ofI)[i]? = some x → RCk G1 (fun b => Ob v b ∨ AcP hi F P (mk3 (mk j) (mk (j + 1)) (ms (d + e))) b) w r x := fun i r x hr hx => by
  obtain ⟨l1, l2, l3⟩ := hV.le hj
  have hM := hV.hi_le
  have hil := (List.getElem?_eq_some_iff.1 hr).1
  rw [List.length_take] at hil
  rw [List.getElem?_take, if_pos (by omega), List.getElem?_drop] at hr
  rw [List.getElem?_map, List.getElem?_take, if_pos (by omega), List.getElem?_drop] at hx
  cases hy : l[d + i]? with
  | none => rw [hy] at hx; cases hx
  | some y =>
    rw [hy] at hx
    injection hx with hx
    subst hx
    obtain ⟨r', e1, -, e3⟩ := h.at hy
    rw [hr] at e1
    injection e1 with e1
    subst e1
    have m1 := mk3_mono (a := mk j) (b := mk (j + 1)) (mono_le h.2.1 (show d + i + 1 ≤ d + e by omega))
    have m2 := mk3_le (x := ms (d + i + 1)) l2
    refine RCk.wide G1.keep e3.up (fun b _ q => ?_)
    rcases q with q | q | q | q
    · have := hvM b q; right; right; omega
    · right; right; omega
    · right; right; omega
    · rcases (hV.fut b q).2 with q | q
      · right; left
        have := mk3_ge (mk j) (mk (j + 1)) (ms (d + i))
        omega
      · right; right; omega
theorem wrap_nil {st : St} {li : List (Ck ByteArray)} (h : rst li = []) : wrapStep st li = (st.1, mrg st.2 li) := by
  unfold wrapStep; rw [h]; rfl
theorem wrap_some {st : St} {li : List (Ck ByteArray)} {d e : Nat} (h : rst li = li.drop d) (hd : d + (e + 1) = li.length) : ∃ z, li[d + e]? = some z ∧ wrapStep st li = (st.1 ++ out1 (mrg st.2 li) ++ ((li.drop d).take e).map ofI, ofI z) := by
  obtain ⟨z, hz⟩ : ∃ z, li[d + e]? = some z := ⟨_, List.getElem?_eq_getElem (by omega)⟩
  refine ⟨z, hz, ?_⟩
  have hl : (li.drop d).length = e + 1 := by rw [List.length_drop]; omega
  have hg : (li.drop d).getLast? = some z := by rw [List.getLast?_eq_getElem?, hl, List.getElem?_drop]; exact hz
  have hdl : (li.drop d).dropLast = (li.drop d).take e := by rw [List.dropLast_eq_take, hl]; rfl
  unfold wrapStep
  rw [h, hg, hdl]
theorem fld109 (l : Int) (W : World) : (Instr.field 109 (.agg #[.int .i32 0, .int .i32 l]) 0).run Try.prog W = .ok (.agg #[.int .i32 0]) W := by kernel_rfl
theorem newN (w : World) (o : Obj) (cs : Array Value) (ty : TypeId) : NewAt ((w.alloc o).alloc (.cells cs ty)) (w.heap.size + 1) cs ty := by
  have h2 : (w.alloc o).heap.size = w.heap.size + 1 := by simp
  show ((w.alloc o).heap.push (.cells cs ty))[w.heap.size + 1]? = _
  rw [← h2]
  exact Array.getElem?_push_size
end Go.Proofs.Ytjigljpodkfchad
