/- FnFlattenMatchesStreamModel: the stream model in plain Lean, and that flattening gives what it gives. -/
import Derived.Test.YtjigljpodkfchadFlr
set_option linter.unusedVariables false
set_option linter.unusedSimpArgs false
namespace Go.Proofs.Ytjigljpodkfchad
open Go.RowKit
set_option maxRecDepth 100000
def byt (s : ByteArray) : List Int := s.data.toList.map (fun x => (x.toNat : Int))
def decF : Nat → Nat → List Int
  | 0, _ => []
  | f + 1, n => if n < 10 then [48 + (n : Int)] else decF f (n / 10) ++ [48 + ((n % 10 : Nat) : Int)]
def dec (n : Nat) : List Int := decF 20 n
def encT (ty : Option ByteArray) : List Int := match ty with
  | none => [45]
  | some s => byt s
def encN (s : ByteArray) : List Int := 46 :: byt s
def encC (x : Ck ByteArray) : List Int := [40, cbZ x.cb] ++ encT x.ty ++ [35] ++ dec x.nn ++ x.ks.flatMap encN ++ [41]
def encL (l : List (Ck ByteArray)) : List Int := 124 :: l.flatMap encC
def dotN (s : ByteArray) : ByteArray := ⟨#[46]⟩ ++ s
def enc (x : SK) : ByteArray := match x with
  | .inl nm => dotN nm
  | .inr (kd, l) => bs (119 :: byt (digZ kd) ++ encL l)
def encIs (s : ByteArray) : ByteArray := bs ([119, 50, 124, 40, 95] ++ byt s ++ [35, 48, 41])
/-- a group as it is seen -/
structure Gp where
  cb : Int
  ty : ByteArray
  nn : Nat
  ks : List ByteArray
  we : Bool
def obsK (k : Ck SK) : Gp := ⟨k.cb, k.ty.getD ⟨#[]⟩, k.nn, k.ks.map enc, false⟩
structure It where
  tg : Int
  cb : Int
  s : ByteArray
  n : Nat
def iB (c : Int) : It := ⟨66, c, ⟨#[]⟩, 0⟩
def iT (s : ByteArray) : It := ⟨84, 0, s, 0⟩
def iA (n : Nat) : It := ⟨65, 0, ⟨#[]⟩, n⟩
def iM (n : Nat) : It := ⟨77, 0, ⟨#[]⟩, n⟩
def iS (s : ByteArray) : It := ⟨83, 0, s, 0⟩
def itT (ty : Option ByteArray) : List It := match ty with
  | none => []
  | some s => [iT s]
def itN (mg : Bool) (n : Nat) : List It := if n = 0 then [] else if mg then [iM n] else [iA n]
def itI (mg : Bool) (y : Ck ByteArray) : List It := (if mg then [] else [iB y.cb]) ++ itT y.ty ++ itN mg y.nn ++ y.ks.map (fun s => iS (dotN s))
def itL (l : List (Ck ByteArray)) : List It := match l with
  | [] => []
  | t :: r => itI (decide (t.cb = 0)) t ++ r.flatMap (itI false)
def itS (x : SK) : List It := if isLg x then (match x with
  | .inl _ => []
  | .inr (_, l) => itL l) else [iS (enc x)]
def itC (c : Ck SK) : List It := iB c.cb :: (itT c.ty ++ itN false c.nn ++ c.ks.flatMap itS)
def gst (g : Gp) (it : It) : Gp :=
  if it.tg = 84 then (if g.ty = ⟨#[]⟩ then ⟨g.cb, it.s, g.nn, g.ks, g.we⟩ else ⟨g.cb, g.ty, g.nn, g.ks ++ [encIs it.s], g.we⟩)
  else if it.tg = 65 then ⟨g.cb, g.ty, g.nn + it.n, g.ks, g.we⟩
  else if it.tg = 77 then (if g.nn = 0 then ⟨g.cb, g.ty, it.n, g.ks, g.we⟩ else g)
  else ⟨g.cb, g.ty, g.nn, g.ks ++ [it.s], g.we⟩
def newG (c : Int) : Gp := ⟨c, ⟨#[]⟩, 0, [], false⟩
def gsL (gs : List Gp) (it : It) : List Gp := if it.tg = 66 then gs ++ [newG it.cb] else match gs.getLast? with
  | none => gs
  | some g => gs.dropLast ++ [gst g it]
def full1 (g : Gp) : Bool := !decide (g.ty = ⟨#[]⟩) || decide (0 < g.nn) || !decide (g.ks.length = 0)
def keepG (gs : List Gp) : List Gp := gs.filter full1
def grp (l : List (Ck SK)) : List Gp := keepG ((l.flatMap itC).foldl gsL [])
theorem byt_app (a b : ByteArray) : byt (a ++ b) = byt a ++ byt b := by simp [byt]
theorem push_app (l : List Int) : ∀ r : ByteArray, (l.foldl (fun r n => r.push (UInt8.ofNat n.toNat)) r).data.toList = r.data.toList ++ l.map (fun n => UInt8.ofNat n.toNat) := by
  induction l with
  | nil => intro r; simp
  | cons x l ih => intro r; rw [List.foldl_cons, ih]; simp
theorem bs_data (l : List Int) : (bs l).data.toList = l.map (fun n => UInt8.ofNat n.toNat) := by
  unfold bs; rw [push_app]; rfl
theorem ba_ext {a b : ByteArray} (h : a.data.toList = b.data.toList) : a = b := by
  cases a; cases b; simp only at h; congr 1; exact Array.ext' h
theorem bs_app (a b : List Int) : bs (a ++ b) = bs a ++ bs b := ba_ext (by rw [bs_data]; simp [bs_data])
theorem bs_byt (s : ByteArray) : bs (byt s) = s := ba_ext (by
  rw [bs_data, byt, List.map_map]
  conv => rhs; rw [← List.map_id s.data.toList]
  exact List.map_congr_left (fun x _ => by simp))
theorem bs_one (c : Int) : bs [c] ≠ ⟨#[]⟩ := fun e => by
  have := congrArg (fun x : ByteArray => x.data.toList.length) e
  simp [bs_data] at this
theorem enc_is (s : ByteArray) : enc (isK s) = encIs s := by
  show bs _ = bs _
  congr 1
  have h : byt (digZ 2) = [50] := by decide
  rw [h]
  simp [encL, encC, encT, cbZ, dec, decF]
/-- types have names -/
def okT (ty : Option ByteArray) : Prop := ∀ s, ty = some s → s ≠ ⟨#[]⟩
def okI (y : Ck ByteArray) : Prop := okT y.ty
/-- what the premise says of an inner list -/
def okS (x : SK) : Prop := isLg x = true → match x with
  | .inl _ => True
  | .inr (_, l) => ∀ y ∈ l, okT y.ty ∧ emp (ofI y) = false
theorem ty_iff {ty : Option ByteArray} (h : okT ty) : ty.getD ⟨#[]⟩ = ⟨#[]⟩ ↔ ty = none := by
  cases ty with
  | none => simp
  | some s => simpa using h s rfl
theorem full1_emp (k : Ck SK) (h : okT k.ty) : full1 (obsK k) = !emp k := by
  have hd := ty_iff h
  have e1 : (k.ty.getD ⟨#[]⟩ = ⟨#[]⟩) = (k.ty = none) := propext hd
  unfold full1 obsK emp
  cases hty : k.ty <;> rw [hty] at e1 <;> by_cases h1 : k.nn = 0 <;> by_cases h2 : k.ks.length = 0 <;> simp_all <;> omega
theorem gsL_B (gs : List Gp) (c : Int) : gsL gs (iB c) = gs ++ [newG c] := by simp [gsL, iB]
theorem gsL_o (d : List Gp) (g : Gp) (it : It) (h : it.tg ≠ 66) : gsL (d ++ [g]) it = d ++ [gst g it] := by simp [gsL, h]
theorem obs_T (d : List Gp) (k : Ck SK) (h : k.ty = none) (ty : Option ByteArray) : (itT ty).foldl gsL (d ++ [obsK k]) = d ++ [obsK ⟨k.cb, ty, k.nn, k.ks⟩] := by
  cases ty with
  | none => simp [itT, obsK, h]
  | some s =>
    simp only [itT, List.foldl_cons, List.foldl_nil]
    rw [gsL_o _ _ _ (by simp [iT])]
    simp [gst, iT, obsK, h]
theorem obs_A (d : List Gp) (k : Ck SK) (h : k.nn = 0) (n : Nat) : (itN false n).foldl gsL (d ++ [obsK k]) = d ++ [obsK ⟨k.cb, k.ty, n, k.ks⟩] := by
  unfold itN
  by_cases h0 : n = 0
  · subst h0; simp [obsK, h]
  · rw [if_neg h0]
    simp only [Bool.false_eq_true, if_false, List.foldl_cons, List.foldl_nil]
    rw [gsL_o _ _ _ (by simp [iA])]
    simp [gst, iA, obsK, h]
theorem obs_S (xs : List SK) (d : List Gp) : ∀ (k : Ck SK), (xs.map (fun x => iS (enc x))).foldl gsL (d ++ [obsK k]) = d ++ [obsK ⟨k.cb, k.ty, k.nn, k.ks ++ xs⟩] := by
  induction xs with
  | nil => intro k; simp
  | cons x r ih =>
    intro k
    simp only [List.map_cons, List.foldl_cons]
    rw [gsL_o _ _ _ (by simp [iS])]
    have : gst (obsK k) (iS (enc x)) = obsK ⟨k.cb, k.ty, k.nn, k.ks ++ [x]⟩ := by simp [gst, iS, obsK]
    rw [this, ih]
    simp
theorem new_obs (c : Int) : newG c = obsK ⟨c, none, 0, []⟩ := rfl
/-- an inner compound of its own -/
theorem obs_I (d : List Gp) (y : Ck ByteArray) : (itI false y).foldl gsL d = d ++ [obsK (ofI y)] := by
  unfold itI
  simp only [Bool.false_eq_true, if_false, List.foldl_append, List.foldl_cons, List.foldl_nil]
  rw [gsL_B, new_obs, obs_T _ _ rfl, obs_A _ _ rfl]
  have := obs_S (y.ks.map .inl) d ⟨y.cb, y.ty, y.nn, []⟩
  simp only [List.map_map] at this
  rw [show (fun s => iS (dotN s)) = ((fun x => iS (enc x)) ∘ (Sum.inl : ByteArray → SK)) from rfl, this]
  simp [ofI]
theorem obs_Is (r : List (Ck ByteArray)) : ∀ d : List Gp, (r.flatMap (itI false)).foldl gsL d = d ++ r.map (fun y => obsK (ofI y)) := by
  induction r with
  | nil => intro d; simp
  | cons y r ih => intro d; rw [List.flatMap_cons, List.foldl_append, obs_I, ih]; simp
/-- a merged one -/
theorem obs_M (d : List Gp) (k : Ck SK) (hk : okT k.ty) (y : Ck ByteArray) : (itI true y).foldl gsL (d ++ [obsK k]) = d ++ [obsK (mergeK k y)] := by
  unfold itI
  simp only [if_true, List.nil_append, List.foldl_append]
  have h1 : (itT y.ty).foldl gsL (d ++ [obsK k]) = d ++ [obsK ⟨k.cb, mTy k.ty y.ty, k.nn, k.ks ++ mIs k.ty y.ty⟩] := by
    cases hy : y.ty with
    | none => cases hk2 : k.ty <;> simp [itT, mTy, mIs, obsK, hk2]
    | some s =>
      cases hk2 : k.ty with
      | none => rw [obs_T _ _ hk2]; simp [mTy, mIs]
      | some t =>
        have ht := hk t hk2
        simp only [itT, List.foldl_cons, List.foldl_nil]
        rw [gsL_o _ _ _ (by simp [iT])]
        simp [gst, iT, obsK, hk2, mTy, mIs, ht, enc_is]
  have h2 : ∀ k' : Ck SK, (itN true y.nn).foldl gsL (d ++ [obsK k']) = d ++ [obsK ⟨k'.cb, k'.ty, mNn k'.nn y.nn, k'.ks⟩] := fun k' => by
    unfold itN
    by_cases h0 : y.nn = 0
    · rw [if_pos h0]
      have : mNn k'.nn y.nn = k'.nn := by unfold mNn; split <;> omega
      simp [this]
    · rw [if_neg h0]
      simp only [if_true, List.foldl_cons, List.foldl_nil]
      rw [gsL_o _ _ _ (by simp [iM])]
      by_cases h3 : k'.nn = 0
      · simp [gst, iM, obsK, mNn, h3]
      · simp [gst, iM, obsK, mNn, h3]
  rw [h1, h2]
  have := obs_S (y.ks.map .inl) d ⟨k.cb, mTy k.ty y.ty, mNn k.nn y.nn, k.ks ++ mIs k.ty y.ty⟩
  simp only [List.map_map] at this
  rw [show (fun s => iS (dotN s)) = ((fun x => iS (enc x)) ∘ (Sum.inl : ByteArray → SK)) from rfl, this]
  simp [mergeK]
/-- the groups against the state -/
def RelG (gs : List Gp) (st : St) : Prop := ∃ d, gs = d ++ [obsK st.2] ∧ keepG d = st.1.map obsK ∧ okT st.2.ty
theorem keepG_app (a b : List Gp) : keepG (a ++ b) = keepG a ++ keepG b := by simp [keepG]
theorem keep_out (k : Ck SK) (h : okT k.ty) : keepG [obsK k] = (out1 k).map obsK := by
  unfold keepG out1
  rw [List.filter_cons, full1_emp k h]
  cases emp k <;> simp
theorem mTy_ok {a b : Option ByteArray} (ha : okT a) (hb : okT b) : okT (mTy a b) := by
  cases a with
  | none => exact hb
  | some s => exact ha
theorem keep_I (l : List (Ck ByteArray)) (h : ∀ y ∈ l, okT y.ty ∧ emp (ofI y) = false) : keepG (l.map (fun y => obsK (ofI y))) = (l.map ofI).map obsK := by
  unfold keepG
  rw [List.filter_eq_self.2 (fun g hg => by
    obtain ⟨y, hy, rfl⟩ := List.mem_map.1 hg
    rw [full1_emp (ofI y) (h y hy).1, (h y hy).2]; rfl)]
  simp
theorem rel_wrap {gs : List Gp} {st : St} (h : RelG gs st) (l : List (Ck ByteArray)) (hl : ∀ y ∈ l, okT y.ty ∧ emp (ofI y) = false) : RelG ((itL l).foldl gsL gs) (wrapStep st l) := by
  have key : ∃ d, (itL l).foldl gsL gs = (rst l).foldl (fun g y => (itI false y).foldl gsL g) (d ++ [obsK (mrg st.2 l)]) ∧ keepG d = st.1.map obsK ∧ okT (mrg st.2 l).ty := by
    obtain ⟨d, rfl, h2, h3⟩ := h
    cases l with
    | nil => exact ⟨d, rfl, h2, h3⟩
    | cons t r =>
      refine ⟨d, ?_, h2, ?_⟩
      · unfold itL mrg rst
        simp only
        by_cases hc : t.cb = 0
        · simp only [hc, decide_true, if_true, List.foldl_append]
          rw [obs_M _ _ h3, List.foldl_flatMap]
        · simp only [hc, decide_false, if_false, List.foldl_append]
          rw [List.foldl_cons, List.foldl_flatMap]
      · unfold mrg
        simp only
        split
        · exact mTy_ok h3 (hl t (by simp)).1
        · exact h3
  obtain ⟨d, h1, h2, h3⟩ := key
  have hr : ∀ y ∈ rst l, okT y.ty ∧ emp (ofI y) = false := fun y hy => hl y (by
    cases l with
    | nil => exact hy
    | cons t r => unfold rst at hy; simp only at hy; split at hy; exact List.mem_cons_of_mem _ hy; exact hy)
  rw [h1, ← List.foldl_flatMap, obs_Is]
  unfold wrapStep
  rcases last_cases (rst l) with ⟨e, e2⟩ | ⟨z, e, e2⟩
  · rw [e, e2]
    exact ⟨d, by simp, h2, h3⟩
  · rw [e]
    have hz := hr z (by rw [e2]; simp)
    refine ⟨d ++ [obsK (mrg st.2 l)] ++ (rst l).dropLast.map (fun y => obsK (ofI y)), ?_, ?_, hz.1⟩
    · conv => lhs; rw [e2]
      simp
    · rw [keepG_app, keepG_app, h2, keep_out _ h3, keep_I _ (fun y hy => hr y (List.dropLast_subset _ hy))]
      simp
theorem rel_sub {gs : List Gp} {st : St} (h : RelG gs st) (x : SK) (hx : okS x) : RelG ((itS x).foldl gsL gs) (subStep st x) := by
  unfold itS subStep
  by_cases hg : isLg x = true
  · rw [if_pos hg, if_pos hg]
    have hx := hx hg
    cases x with
    | inl nm => exact h
    | inr q => exact rel_wrap h q.2 hx
  · rw [if_neg hg, if_neg hg]
    obtain ⟨d, rfl, h2, h3⟩ := h
    refine ⟨d, ?_, h2, h3⟩
    have := obs_S [x] d st.2
    simpa [addS] using this
theorem rel_subs (ks : List SK) : ∀ {gs : List Gp} {st : St}, RelG gs st → (∀ x ∈ ks, okS x) → RelG ((ks.flatMap itS).foldl gsL gs) (ks.foldl subStep st) := by
  induction ks with
  | nil => exact fun h _ => h
  | cons x r ih =>
    intro gs st h hk
    rw [List.flatMap_cons, List.foldl_append, List.foldl_cons]
    exact ih (rel_sub h x (hk x (by simp))) (fun y hy => hk y (by simp [hy]))
def okC (c : Ck SK) : Prop := okT c.ty ∧ ∀ x ∈ c.ks, okS x
theorem rel_comp {gs : List Gp} {acc : List (Ck SK)} (h : keepG gs = acc.map obsK) (c : Ck SK) (hc : okC c) : keepG ((itC c).foldl gsL gs) = (compStep acc c).map obsK := by
  unfold itC compStep compEnd
  rw [List.foldl_cons, List.foldl_append, List.foldl_append, gsL_B, new_obs, obs_T _ _ rfl, obs_A _ _ rfl]
  obtain ⟨d, h1, h2, h3⟩ := rel_subs c.ks (gs := gs ++ [obsK (newC c)]) (st := (acc, newC c)) ⟨gs, rfl, h, hc.1⟩ hc.2
  show keepG (List.foldl gsL (gs ++ [obsK (newC c)]) _) = _
  rw [h1, keepG_app, h2, keep_out _ h3]
  simp
theorem rel_all (l : List (Ck SK)) : ∀ {gs : List Gp} {acc : List (Ck SK)}, keepG gs = acc.map obsK → (∀ c ∈ l, okC c) → keepG ((l.flatMap itC).foldl gsL gs) = (l.foldl compStep acc).map obsK := by
  induction l with
  | nil => exact fun h _ => h
  | cons c r ih =>
    intro gs acc h hl
    rw [List.flatMap_cons, List.foldl_append, List.foldl_cons]
    exact ih (rel_comp h c (hl c (by simp))) (fun y hy => hl y (by simp [hy]))
/-- THE PLAIN LAW -/
theorem flat_grp (l : List (Ck SK)) (hl : ∀ c ∈ l, okC c) : grp l = (flatK l).map obsK := rel_all l (acc := []) rfl hl
end Go.Proofs.Ytjigljpodkfchad
