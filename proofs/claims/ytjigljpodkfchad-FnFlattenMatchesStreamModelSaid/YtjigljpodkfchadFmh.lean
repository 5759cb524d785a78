/- FnFlattenMatchesStreamModel: the bounds, in plain Lean. -/
import Derived.Test.YtjigljpodkfchadFmg
set_option linter.unusedVariables false
set_option linter.unusedSimpArgs false
namespace Go.Proofs.Ytjigljpodkfchad
open Go.RowKit
set_option maxRecDepth 100000
set_option maxHeartbeats 4000000
def itsOf (l : List Zc) : List It := l.flatMap (fun c => itC c.key)
theorem itT_le (t : Option ByteArray) : (itT t).length ≤ 1 := by cases t <;> simp [itT]
theorem itN_le (b : Bool) (n : Nat) : (itN b n).length ≤ 1 := by unfold itN; split; simp; split <;> simp
def zI (i : Zi) : Nat := i.nm.length + (i.nm.map ByteArray.size).sum
def zS (s : Zs) : Nat := s.nm.size + s.inn.length + (s.inn.map zI).sum
def zC (c : Zc) : Nat := c.ss.length + (c.ss.map zS).sum
def zA (l : List Zc) : Nat := l.length + (l.map zC).sum
theorem mem_sum {α : Type} (f : α → Nat) {l : List α} {x : α} (h : x ∈ l) : f x ≤ (l.map f).sum := by
  induction l with
  | nil => cases h
  | cons a r ih =>
    rw [List.map_cons, List.sum_cons]
    rcases List.mem_cons.1 h with rfl | h
    · omega
    · have := ih h; omega
theorem sum_le {α : Type} (f g : α → Nat) {l : List α} (h : ∀ x ∈ l, f x ≤ g x) : (l.map f).sum ≤ (l.map g).sum := by
  induction l with
  | nil => exact Nat.le_refl _
  | cons a r ih =>
    rw [List.map_cons, List.sum_cons, List.map_cons, List.sum_cons]
    have h1 := h a (by simp)
    have h2 := ih (fun x hx => h x (by simp [hx]))
    omega
theorem sum_lin {α : Type} (f : α → Nat) (a b : Nat) (l : List α) : (l.map (fun x => a + b * f x)).sum = a * l.length + b * (l.map f).sum := by
  induction l with
  | nil => simp
  | cons x r ih =>
    rw [List.map_cons, List.sum_cons, List.map_cons, List.sum_cons, ih, List.length_cons, Nat.mul_add, Nat.mul_add]
    omega
/-- sizes of what is inside -/
theorem zC_le {l : List Zc} {c : Zc} (h : c ∈ l) : 1 + zC c ≤ zA l := by
  have h1 := mem_sum zC h
  have h2 := List.length_pos_of_mem h
  unfold zA
  omega
theorem zS_le {c : Zc} {s : Zs} (h : s ∈ c.ss) : 1 + zS s ≤ zC c := by
  have h1 := mem_sum zS h
  have h2 := List.length_pos_of_mem h
  unfold zC
  omega
theorem zI_le {s : Zs} {y : Zi} (h : y ∈ s.inn) : 1 + zI y ≤ zS s := by
  have h1 := mem_sum zI h
  have h2 := List.length_pos_of_mem h
  unfold zS
  omega
theorem zN_le {y : Zi} {nm : ByteArray} (h : nm ∈ y.nm) : 1 + nm.size ≤ zI y := by
  have h1 := mem_sum ByteArray.size h
  have h2 := List.length_pos_of_mem h
  unfold zI
  omega
theorem wI_zS (s : Zs) : wI (s.inn.map Zi.key) ≤ s.inn.length + (s.inn.map zI).sum := by
  unfold wI
  rw [List.map_map]
  have h1 : (s.inn.map ((fun y : Ck ByteArray => 1 + y.ks.length) ∘ Zi.key)).sum ≤ (s.inn.map (fun y => 1 + 1 * zI y)).sum := sum_le _ _ (fun y hy => by
    show 1 + y.nm.length ≤ _
    unfold zI
    omega)
  rw [sum_lin] at h1
  omega
theorem wt_zS (s : Zs) : wt s.key ≤ 1 + zS s := by
  have h1 := wI_zS s
  have e : wt s.key = if s.wr then 1 + wI (s.inn.map Zi.key) else 1 := by
    unfold Zs.key
    cases s.wr <;> rfl
  rw [e]
  unfold zS
  split <;> omega
theorem wS_zC (c : Zc) : wS (c.ss.map Zs.key) ≤ zC c := by
  unfold wS zC
  rw [List.map_map]
  have h1 : (c.ss.map (wt ∘ Zs.key)).sum ≤ (c.ss.map (fun s => 1 + 1 * zS s)).sum := sum_le _ _ (fun s _ => by have := wt_zS s; show wt s.key ≤ _; omega)
  rw [sum_lin] at h1
  omega
theorem tot_zA (l : List Zc) : tot (l.map Zc.key) ≤ zA l := by
  unfold tot zA
  rw [List.map_map]
  have h1 : (l.map ((fun c : Ck SK => 1 + wS c.ks) ∘ Zc.key)).sum ≤ (l.map (fun c => 1 + 1 * zC c)).sum := sum_le _ _ (fun c _ => by have := wS_zC c; show 1 + wS (c.ss.map Zs.key) ≤ _; omega)
  rw [sum_lin] at h1
  omega
theorem flat_sum {α β : Type} (f : α → List β) (l : List α) : (l.flatMap f).length = (l.map (fun x => (f x).length)).sum := by
  induction l with
  | nil => rfl
  | cons a r ih => rw [List.flatMap_cons, List.length_append, List.map_cons, List.sum_cons, ih]
/-- how many items there are -/
theorem itI_len (b : Bool) (y : Ck ByteArray) : (itI b y).length ≤ 3 + y.ks.length := by
  have h1 := itT_le y.ty
  have h2 := itN_le b y.nn
  unfold itI
  simp only [List.length_append, List.length_map]
  cases b <;> simp <;> omega
theorem itL_len (l : List (Ck ByteArray)) : (itL l).length ≤ 3 * wI l := by
  have key : ∀ l : List (Ck ByteArray), (l.flatMap (itI false)).length ≤ 3 * wI l := fun l => by
    rw [flat_sum]
    have h1 := sum_le (fun y => (itI false y).length) (fun y : Ck ByteArray => 0 + 3 * (1 + y.ks.length)) (l := l) (fun y _ => by have := itI_len false y; show (itI false y).length ≤ _; omega)
    rw [sum_lin (fun y : Ck ByteArray => 1 + y.ks.length) 0 3] at h1
    unfold wI
    omega
  cases l with
  | nil => exact Nat.zero_le _
  | cons t r =>
    have h1 := itI_len (decide (t.cb = 0)) t
    have h2 := key r
    unfold itL
    simp only [List.length_append, wI_cons]
    omega
theorem itS_len (x : SK) : (itS x).length ≤ 3 * wt x := by
  unfold itS
  split
  · cases x with
    | inl nm => exact Nat.zero_le _
    | inr q => have := itL_len q.2; simp only [wt]; omega
  · have : 1 ≤ wt x := by cases x <;> simp only [wt] <;> omega
    show 1 ≤ _
    omega
theorem itC_len (c : Ck SK) : (itC c).length ≤ 3 * (1 + wS c.ks) := by
  have h1 := itT_le c.ty
  have h2 := itN_le false c.nn
  have h3 : (c.ks.flatMap itS).length ≤ 3 * wS c.ks := by
    rw [flat_sum]
    have h1 := sum_le (fun x => (itS x).length) (fun x => 0 + 3 * wt x) (l := c.ks) (fun x _ => by have := itS_len x; show (itS x).length ≤ _; omega)
    rw [sum_lin wt 0 3] at h1
    unfold wS
    omega
  unfold itC
  simp only [List.length_cons, List.length_append]
  omega
theorem its_len (l : List Zc) : (itsOf l).length ≤ 3 * zA l := by
  have h := tot_zA l
  unfold itsOf
  rw [flat_sum]
  have h1 := sum_le (fun c => (itC (Zc.key c)).length) (fun c => 0 + 3 * (1 + wS c.key.ks)) (l := l) (fun c _ => by have := itC_len c.key; show (itC c.key).length ≤ _; omega)
  rw [sum_lin (fun c : Zc => 1 + wS c.key.ks) 0 3] at h1
  unfold tot at h
  rw [List.map_map] at h
  have e : (l.map ((fun c : Ck SK => 1 + wS c.ks) ∘ Zc.key)).sum = (l.map (fun c : Zc => 1 + wS c.key.ks)).sum := rfl
  omega
/-- how many groups there are -/
def nB (its : List It) : Nat := (its.map (fun it => if it.tg = 66 then 1 else 0)).sum
theorem nB_app (a b : List It) : nB (a ++ b) = nB a + nB b := by simp [nB]
theorem nB_flat {α : Type} (f : α → List It) (l : List α) : nB (l.flatMap f) = (l.map (fun x => nB (f x))).sum := by
  induction l with
  | nil => rfl
  | cons a r ih => rw [List.flatMap_cons, nB_app, List.map_cons, List.sum_cons, ih]
theorem nB_none {its : List It} (h : ∀ it ∈ its, it.tg ≠ 66) : nB its = 0 := by
  induction its with
  | nil => rfl
  | cons a r ih =>
    have h1 := h a (by simp)
    have h2 := ih (fun x hx => h x (by simp [hx]))
    unfold nB at *
    rw [List.map_cons, List.sum_cons, if_neg h1, h2]
theorem gsL_nB (its : List It) : ∀ gs : List Gp, (its.foldl gsL gs).length ≤ gs.length + nB its := by
  induction its with
  | nil => exact fun gs => Nat.le_refl _
  | cons it r ih =>
    intro gs
    have h1 := ih (gsL gs it)
    have h2 : (gsL gs it).length ≤ gs.length + (if it.tg = 66 then 1 else 0) := by
      unfold gsL
      split
      · simp
      · cases hz : gs.getLast? with
        | none => simp
        | some g =>
          have : gs ≠ [] := fun e => by rw [e] at hz; cases hz
          have h1 : 0 < gs.length := List.length_pos_iff.2 this
          simp
          omega
    rw [List.foldl_cons]
    unfold nB at *
    rw [List.map_cons, List.sum_cons]
    omega
theorem itT_nB (t : Option ByteArray) : nB (itT t) = 0 := by cases t <;> rfl
theorem itN_nB (b : Bool) (n : Nat) : nB (itN b n) = 0 := by
  unfold itN
  by_cases h : n = 0
  · rw [if_pos h]; rfl
  · rw [if_neg h]; cases b <;> rfl
theorem itI_nB (b : Bool) (y : Ck ByteArray) : nB (itI b y) ≤ 1 := by
  unfold itI
  rw [nB_app, nB_app, nB_app, itT_nB, itN_nB, nB_none (its := y.ks.map (fun s => iS (dotN s))) (fun it hit => by
    obtain ⟨s, -, rfl⟩ := List.mem_map.1 hit
    show (83 : Int) ≠ 66
    decide)]
  cases b <;> simp [nB, iB]
theorem itL_nB (l : List (Ck ByteArray)) : nB (itL l) ≤ l.length := by
  cases l with
  | nil => exact Nat.le_refl _
  | cons t r =>
    have h1 := itI_nB (decide (t.cb = 0)) t
    have h2 := sum_le (fun y => nB (itI false y)) (fun y => 1 + 0 * 0) (l := r) (fun y _ => itI_nB false y)
    rw [sum_lin (fun _ => 0) 1 0] at h2
    unfold itL
    simp only
    rw [nB_app, nB_flat, List.length_cons]
    omega
theorem itS_nB (s : Zs) : nB (itS s.key) ≤ s.inn.length := by
  have e : itS s.key = if isLg s.key then (if s.wr then itL (s.inn.map Zi.key) else []) else [iS (enc s.key)] := by
    unfold itS
    congr 1
    unfold Zs.key
    cases s.wr <;> rfl
  rw [e]
  split
  · split
    · have := itL_nB (s.inn.map Zi.key)
      rwa [List.length_map] at this
    · exact Nat.zero_le _
  · exact Nat.zero_le _
theorem its_nB (l : List Zc) : nB (itsOf l) ≤ zA l := by
  unfold itsOf
  rw [nB_flat]
  have h1 := sum_le (fun c => nB (itC (Zc.key c))) (fun c => 1 + 1 * zC c) (l := l) (fun c _ => by
    show nB (itC c.key) ≤ _
    unfold itC
    have e : nB (iB c.key.cb :: (itT c.key.ty ++ itN false c.key.nn ++ c.key.ks.flatMap itS)) = 1 + nB (itT c.key.ty ++ itN false c.key.nn ++ c.key.ks.flatMap itS) := by
      show nB ([iB c.key.cb] ++ _) = _
      rw [nB_app]
      rfl
    rw [e, nB_app, nB_app, itT_nB, itN_nB]
    have h2 : nB (c.key.ks.flatMap itS) ≤ zC c := by
      show nB ((c.ss.map Zs.key).flatMap itS) ≤ _
      rw [nB_flat, List.map_map]
      have h3 := sum_le ((fun x => nB (itS x)) ∘ Zs.key) zS (l := c.ss) (fun s _ => by
        have := itS_nB s
        show nB (itS s.key) ≤ _
        unfold zS
        omega)
      unfold zC
      omega
    omega)
  rw [sum_lin] at h1
  unfold zA
  omega
theorem gs_len (l : List Zc) : ((itsOf l).foldl gsL []).length ≤ zA l := by
  have h1 := gsL_nB (itsOf l) []
  have h2 := its_nB l
  simp at h1
  omega
/-- what the arguments' bytes allow -/
def UI (y : Zi) : Prop := U8 y.cb ∧ U8 y.ty ∧ y.am ≤ 255
def US (s : Zs) : Prop := U8 s.kd ∧ ∀ y ∈ s.inn, UI y
def UC (c : Zc) : Prop := U8 c.cb ∧ U8 c.ty ∧ c.am ≤ 255 ∧ ∀ s ∈ c.ss, US s
theorem RC.uc {w : World} {a : Option Addr} {l : List Zc} (h : RC w a l) : ∀ c ∈ l, UC c := fun c hc => by
  obtain ⟨i, hi⟩ := List.getElem?_of_mem hc
  obtain ⟨b, o, a', c', -, -, h1, -, h2, h3, h4⟩ := h i c hi
  refine ⟨h2, h3, h4, fun s hs => ?_⟩
  obtain ⟨j, hj⟩ := List.getElem?_of_mem hs
  obtain ⟨b, o, a', c', -, -, h5, -, h6, -⟩ := h1 j s hj
  refine ⟨h6, fun y hy => ?_⟩
  obtain ⟨k, hk⟩ := List.getElem?_of_mem hy
  obtain ⟨b, o, a', c', -, -, -, -, h7, h8, h9⟩ := h5 k y hk
  exact ⟨h7, h8, h9⟩
def okIt (it : It) : Prop := it.n ≤ 255 ∧ (it.tg = 84 → it.s.size ≤ 1048576)
theorem okIt_T (t : Int) : ∀ it ∈ itT (tyK t), okIt it := fun it h => by
  unfold tyK at h
  split at h
  · cases h
  · obtain rfl := List.mem_singleton.1 h
    exact ⟨Nat.zero_le _, fun _ => by show (bs [letZ t]).size ≤ _; rw [bs_size]; simp⟩
theorem okIt_N (b : Bool) (n : Nat) (hn : n ≤ 255) : ∀ it ∈ itN b n, okIt it := fun it h => by
  unfold itN at h
  split at h
  · cases h
  · cases b
    all_goals
      obtain rfl := List.mem_singleton.1 h
      exact ⟨hn, fun q => by simp [iA, iM] at q⟩
theorem okIt_S (s : ByteArray) : okIt (iS s) := ⟨Nat.zero_le _, fun q => by simp [iS] at q⟩
theorem okIt_B (c : Int) : okIt (iB c) := ⟨Nat.zero_le _, fun q => by simp [iB] at q⟩
theorem okIt_I (b : Bool) (y : Zi) (h : UI y) : ∀ it ∈ itI b y.key, okIt it := fun it hit => by
  unfold itI at hit
  rcases List.mem_append.1 hit with hit | hit
  · rcases List.mem_append.1 hit with hit | hit
    · rcases List.mem_append.1 hit with hit | hit
      · cases b with
        | true => cases hit
        | false => obtain rfl := List.mem_singleton.1 hit; exact okIt_B _
      · exact okIt_T _ it hit
    · exact okIt_N _ _ h.2.2 it hit
  · obtain ⟨s, -, rfl⟩ := List.mem_map.1 hit
    exact okIt_S _
theorem okIt_L (l : List Zi) (h : ∀ y ∈ l, UI y) : ∀ it ∈ itL (l.map Zi.key), okIt it := fun it hit => by
  cases l with
  | nil => cases hit
  | cons t r =>
    unfold itL at hit
    simp only [List.map_cons] at hit
    rcases List.mem_append.1 hit with hit | hit
    · exact okIt_I _ t (h t (by simp)) it hit
    · obtain ⟨y, hy, hit⟩ := List.mem_flatMap.1 hit
      obtain ⟨z, hz, rfl⟩ := List.mem_map.1 hy
      exact okIt_I _ z (h z (by simp [hz])) it hit
theorem okIt_all (l : List Zc) (h : ∀ c ∈ l, UC c) : ∀ it ∈ itsOf l, okIt it := fun it hit => by
  unfold itsOf at hit
  obtain ⟨c, hc, hit⟩ := List.mem_flatMap.1 hit
  obtain ⟨h1, h2, h3, h4⟩ := h c hc
  unfold itC at hit
  rcases List.mem_cons.1 hit with rfl | hit
  · exact okIt_B _
  rcases List.mem_append.1 hit with hit | hit
  · rcases List.mem_append.1 hit with hit | hit
    · exact okIt_T _ it hit
    · exact okIt_N _ _ h3 it hit
  · obtain ⟨x, hx, hit⟩ := List.mem_flatMap.1 hit
    obtain ⟨s, hs, rfl⟩ := List.mem_map.1 (show x ∈ c.ss.map Zs.key from hx)
    have hu := h4 s hs
    have e : itS s.key = if isLg s.key then (if s.wr then itL (s.inn.map Zi.key) else []) else [iS (enc s.key)] := by
      unfold itS
      congr 1
      unfold Zs.key
      cases s.wr <;> rfl
    rw [e] at hit
    split at hit
    · split at hit
      · exact okIt_L _ hu.2 it hit
      · cases hit
    · obtain rfl := List.mem_singleton.1 hit
      exact okIt_S _
/-- lengths of what is written -/
theorem byt_len' (s : ByteArray) : (byt s).length = s.size := by simp [byt]
theorem encT_tyK (t : Int) : (encT (tyK t)).length ≤ 1 := by
  unfold tyK
  split
  · exact Nat.le_refl _
  · show (byt (bs [letZ t])).length ≤ 1
    rw [byt_len', bs_size]
    exact Nat.le_refl _
theorem encC_len (y : Zi) : (encC y.key).length ≤ 25 + zI y := by
  have h1 := encT_tyK y.ty
  have h2 := decF_len 20 y.am
  have h3 : (y.nm.flatMap encN).length = (y.nm.map (fun s => 1 + 1 * s.size)).sum := by
    rw [flat_sum]
    congr 1
    refine List.map_congr_left (fun s _ => ?_)
    simp [encN, byt_len']
    omega
  rw [sum_lin ByteArray.size 1 1] at h3
  unfold encC
  simp only [List.length_append, List.length_cons, List.length_nil]
  show 2 + (encT (tyK y.ty)).length + 1 + (dec y.am).length + (y.nm.flatMap encN).length + 1 ≤ _
  unfold dec zI
  omega
theorem encL_len (s : Zs) (h : s.inn.length ≤ 4096) (hz : zS s ≤ 1048576) : (encL (s.inn.map Zi.key)).length ≤ 20000000 := by
  unfold encL
  rw [List.length_cons, flat_sum, List.map_map]
  have h1 := sum_le ((fun x => (encC x).length) ∘ Zi.key) (fun y => 25 + 1 * zI y) (l := s.inn) (fun y _ => by have := encC_len y; show (encC y.key).length ≤ _; omega)
  rw [sum_lin] at h1
  unfold zS at hz
  omega
theorem szS3 (s : Zs) (h : s.inn.length ≤ 4096) (hz : zS s ≤ 1048576) : SzI2 s ∧ (∀ y ∈ s.inn, y.nm.length ≤ 1048576 ∧ ∀ nm ∈ y.nm, nm.size ≤ 1048576) := by
  refine ⟨⟨by unfold zS at hz; omega, by omega, encL_len s h hz⟩, fun y hy => ?_⟩
  have h1 := zI_le hy
  refine ⟨by unfold zI at h1; omega, fun nm hnm => ?_⟩
  have := zN_le hnm
  omega
def OkN (l : List Zc) : Prop := ∀ c ∈ l, ∀ s ∈ c.ss, s.inn.length ≤ 4096
theorem szC {l : List Zc} (hz : zA l ≤ 1048576) (hN : OkN l) : ∀ c ∈ l, c.ss.length ≤ 1048576 ∧ ∀ s ∈ c.ss, SzI2 s ∧ (∀ y ∈ s.inn, y.nm.length ≤ 1048576 ∧ ∀ nm ∈ y.nm, nm.size ≤ 1048576) := fun c hc => by
  have h1 := zC_le hc
  refine ⟨by unfold zC at h1; omega, fun s hs => szS3 s (hN c hc s hs) (by have := zS_le hs; omega)⟩
/-- the premise -/
def PremS (s : Zs) : Prop := s.wr = true → lgK s.kd = true → s.inn ≠ [] ∧ ∀ y ∈ s.inn, ¬ (y.ty = 0 ∧ y.am = 0 ∧ y.nm = [])
def PremC (c : Zc) : Prop := ∀ s ∈ c.ss, PremS s
def PremZ (l : List Zc) : Prop := ∀ c ∈ l, PremC c
theorem okT_tyK (t : Int) : okT (tyK t) := fun s h => by
  unfold tyK at h
  split at h
  · cases h
  · injection h with h
    subst h
    exact bs_one _
theorem emp_key {y : Zi} (h : ¬ (y.ty = 0 ∧ y.am = 0 ∧ y.nm = [])) : emp (ofI y.key) = false := by
  cases e : emp (ofI y.key) with
  | false => rfl
  | true =>
    obtain ⟨e1, e2, e3⟩ := (emp_iff _).1 e
    refine absurd ⟨?_, e1, ?_⟩ h
    · have e2' : tyK y.ty = none := e2
      unfold tyK at e2'
      split at e2'
      · assumption
      · cases e2'
    · have e3' : y.nm.map (Sum.inl : ByteArray → SK) = [] := e3
      simpa using e3'
theorem okC_key {l : List Zc} (hu : ∀ c ∈ l, UC c) (hp : PremZ l) : ∀ c ∈ l.map Zc.key, okC c := fun k hk => by
  obtain ⟨c, hc, rfl⟩ := List.mem_map.1 hk
  refine ⟨okT_tyK _, fun x hx => ?_⟩
  obtain ⟨s, hs, rfl⟩ := List.mem_map.1 (show x ∈ c.ss.map Zs.key from hx)
  intro hg
  have hu := (hu c hc).2.2.2 s hs
  have hp := hp c hc s hs
  rw [isLg_key s hu.1.1] at hg
  unfold Zs.key
  cases hw : s.wr with
  | false => exact trivial
  | true =>
    rw [hw] at hg
    simp only [if_true] at hg ⊢
    intro y hy
    obtain ⟨z, hz, rfl⟩ := List.mem_map.1 hy
    exact ⟨okT_tyK _, emp_key ((hp hw hg).2 z hz)⟩
theorem inn_ne {l : List Zc} (hu : ∀ c ∈ l, UC c) (hp : PremZ l) : ∀ x ∈ l.map Zc.key, ∀ (kd : Int) li, (Sum.inr (kd, li) : SK) ∈ x.ks → isLg (.inr (kd, li)) = true → li ≠ [] := fun k hk kd li hx hg => by
  obtain ⟨c, hc, rfl⟩ := List.mem_map.1 hk
  obtain ⟨s, hs, e⟩ := List.mem_map.1 (show _ ∈ c.ss.map Zs.key from hx)
  have hu := (hu c hc).2.2.2 s hs
  have hp := hp c hc s hs
  rw [← e, isLg_key s hu.1.1] at hg
  unfold Zs.key at e
  cases hw : s.wr with
  | false => rw [hw] at e; cases e
  | true =>
    rw [hw] at e hg
    simp only [if_true] at e hg
    injection e with e
    injection e with e1 e2
    rw [← e2]
    intro q
    exact (hp hw hg).1 (by simpa using q)
/-- sizes of what the flattened selector holds -/
def okY (y : Ck ByteArray) : Prop := (∀ s, y.ty = some s → s.size ≤ 1) ∧ ∀ nm ∈ y.ks, nm.size ≤ 1048576
def okB (N : Nat) (k : Ck SK) : Prop := (∀ s, k.ty = some s → s.size ≤ 1) ∧ (∀ x ∈ k.ks, SkSz x) ∧ k.ks.length ≤ N
theorem okB.up {N M : Nat} {k : Ck SK} (h : okB N k) (hm : N ≤ M) : okB M k := ⟨h.1, h.2.1, Nat.le_trans h.2.2 hm⟩
theorem sk_is {t : ByteArray} (h : t.size ≤ 1) : SkSz (isK t) := by
  refine ⟨.inr (.inr (.inl rfl)), ?_, fun y hy => ?_⟩
  · have h2 := decF_len 20 0
    have h3 := byt_len' t
    simp only [encL, List.flatMap_cons, List.flatMap_nil, List.append_nil, encC, encT, List.length_cons, List.length_append, List.length_nil, dec]
    omega
  · obtain rfl := List.mem_singleton.1 hy
    exact Nat.zero_le _
theorem okB_of {y : Ck ByteArray} (h : okY y) : okB y.ks.length (ofI y) := ⟨h.1, fun x hx => by
  obtain ⟨nm, hn, rfl⟩ := List.mem_map.1 (show x ∈ y.ks.map (Sum.inl : ByteArray → SK) from hx)
  exact h.2 nm hn, by show (y.ks.map _).length ≤ _; rw [List.length_map]; exact Nat.le_refl _⟩
theorem okB_merge {N : Nat} {k : Ck SK} {y : Ck ByteArray} (h : okB N k) (hy : okY y) : okB (N + (1 + y.ks.length)) (mergeK k y) := by
  refine ⟨fun s hs => ?_, fun x hx => ?_, ?_⟩
  · simp only [mergeK, mTy] at hs
    split at hs
    · exact hy.1 s hs
    · rename_i t e
      injection hs with hs
      subst hs
      exact h.1 _ e
  · simp only [mergeK] at hx
    rcases List.mem_append.1 hx with hx | hx
    · rcases List.mem_append.1 hx with hx | hx
      · exact h.2.1 x hx
      · unfold mIs at hx
        split at hx
        · rename_i t t' e1 e2
          obtain rfl := List.mem_singleton.1 hx
          exact sk_is (hy.1 _ e1)
        · cases hx
    · obtain ⟨nm, hn, rfl⟩ := List.mem_map.1 hx
      exact hy.2 nm hn
  · have := mergeK_len k y
    have := h.2.2
    omega
theorem okB_mrg {N : Nat} {k : Ck SK} {l : List (Ck ByteArray)} (h : okB N k) (hl : ∀ y ∈ l, okY y) : okB (N + wI l) (mrg k l) := by
  unfold mrg
  cases l with
  | nil => exact h.up (by omega)
  | cons t r =>
    simp only
    split
    · exact (okB_merge h (hl t (by simp))).up (by rw [wI_cons]; omega)
    · exact h.up (by omega)
theorem rst_sub {l : List (Ck ByteArray)} {y : Ck ByteArray} (h : y ∈ rst l) : y ∈ l := by
  cases l with
  | nil => exact h
  | cons t r =>
    unfold rst at h
    simp only at h
    split at h
    · exact List.mem_cons_of_mem _ h
    · exact h
theorem wI_mem {l : List (Ck ByteArray)} {y : Ck ByteArray} (h : y ∈ l) : y.ks.length ≤ wI l := by
  have := mem_sum (fun y : Ck ByteArray => 1 + y.ks.length) h
  unfold wI
  omega
def okSt (N : Nat) (st : St) : Prop := (∀ k ∈ st.1, okB N k) ∧ okB N st.2
theorem out1_sub {k x : Ck SK} (h : x ∈ out1 k) : x = k := by
  unfold out1 at h
  split at h
  · cases h
  · exact List.mem_singleton.1 h
theorem okSt_wrap {N : Nat} {st : St} {l : List (Ck ByteArray)} (h : okSt N st) (hl : ∀ y ∈ l, okY y) : okSt (N + wI l) (wrapStep st l) := by
  have hm := okB_mrg h.2 hl
  have hr : ∀ y ∈ rst l, okB (N + wI l) (ofI y) := fun y hy => (okB_of (hl y (rst_sub hy))).up (by have := wI_mem (rst_sub hy); omega)
  unfold wrapStep
  rcases last_cases (rst l) with ⟨e, -⟩ | ⟨z, e, e2⟩
  · rw [e]
    exact ⟨fun k hk => (h.1 k hk).up (by omega), hm⟩
  · rw [e]
    refine ⟨fun k hk => ?_, hr z (by rw [e2]; simp)⟩
    simp only at hk
    rcases List.mem_append.1 hk with hk | hk
    · rcases List.mem_append.1 hk with hk | hk
      · exact (h.1 k hk).up (by omega)
      · rw [out1_sub hk]; exact hm
    · obtain ⟨y, hy, rfl⟩ := List.mem_map.1 hk
      exact hr y (List.dropLast_subset _ hy)
def okX (x : SK) : Prop := SkSz x ∧ ∀ kd l, x = .inr (kd, l) → ∀ y ∈ l, okY y
theorem okSt_sub {N : Nat} {st : St} {x : SK} (h : okSt N st) (hx : okX x) : okSt (N + wt x) (subStep st x) := by
  unfold subStep
  split
  · cases x with
    | inl nm => exact ⟨fun k hk => (h.1 k hk).up (by omega), h.2.up (by omega)⟩
    | inr q =>
      have h1 := okSt_wrap h (hx.2 q.1 q.2 rfl)
      have e : N + wI q.2 ≤ N + wt (.inr q) := by simp only [wt]; omega
      exact ⟨fun k hk => (h1.1 k hk).up e, h1.2.up e⟩
  · have h1 : 1 ≤ wt x := by cases x <;> simp only [wt] <;> omega
    refine ⟨fun k hk => (h.1 k hk).up (by omega), h.2.1, fun y hy => ?_, ?_⟩
    · simp only [addS] at hy
      rcases List.mem_append.1 hy with hy | hy
      · exact h.2.2.1 y hy
      · obtain rfl := List.mem_singleton.1 hy
        exact hx.1
    · have := h.2.2.2
      simp only [addS, List.length_append, List.length_cons, List.length_nil]
      omega
theorem okSt_fold (ks : List SK) : ∀ {N : Nat} {st : St}, okSt N st → (∀ x ∈ ks, okX x) → okSt (N + wS ks) (ks.foldl subStep st) := by
  induction ks with
  | nil => exact fun h _ => h
  | cons x r ih =>
    intro N st h hk
    have := ih (okSt_sub h (hk x (by simp))) (fun y hy => hk y (by simp [hy]))
    rw [List.foldl_cons]
    rw [show N + wS (x :: r) = N + wt x + wS r by simp only [wS, List.map_cons, List.sum_cons]; omega]
    exact this
theorem okSt_flat (l : List (Ck SK)) : ∀ {N : Nat} {acc : List (Ck SK)}, (∀ k ∈ acc, okB N k) → (∀ c ∈ l, (∀ s, c.ty = some s → s.size ≤ 1) ∧ ∀ x ∈ c.ks, okX x) → ∀ k ∈ l.foldl compStep acc, okB (N + tot l) k := by
  induction l with
  | nil => exact fun h _ => h
  | cons c r ih =>
    intro N acc h hl
    have hc := hl c (by simp)
    have h0 : okSt N (acc, newC c) := ⟨h, hc.1, (fun x hx => by cases hx), Nat.zero_le _⟩
    have h1 := okSt_fold c.ks h0 hc.2
    have h2 : ∀ k ∈ compStep acc c, okB (N + (1 + wS c.ks)) k := fun k hk => by
      unfold compStep compEnd at hk
      rcases List.mem_append.1 hk with hk | hk
      · exact (h1.1 k hk).up (by omega)
      · rw [out1_sub hk]; exact h1.2.up (by omega)
    rw [List.foldl_cons, show N + tot (c :: r) = N + (1 + wS c.ks) + tot r by simp only [tot, List.map_cons, List.sum_cons]; omega]
    exact ih h2 (fun y hy => hl y (by simp [hy]))
theorem kd_ok (c : Int) (h : 0 ≤ c) : KdOk (kindZ c) := by
  have h6 : c % 6 = 0 ∨ c % 6 = 1 ∨ c % 6 = 2 ∨ c % 6 = 3 ∨ c % 6 = 4 ∨ c % 6 = 5 := by omega
  unfold kindZ KdOk
  rcases h6 with h | h | h | h | h | h <;> rw [h] <;> decide
theorem ty_one (t : Int) (s : ByteArray) (h : tyK t = some s) : s.size ≤ 1 := by
  unfold tyK at h
  split at h
  · cases h
  · injection h with h
    subst h
    rw [bs_size]
    exact Nat.le_refl _
theorem okX_key {l : List Zc} (hu : ∀ c ∈ l, UC c) (hz : zA l ≤ 1048576) (hN : OkN l) {c : Zc} (hc : c ∈ l) {s : Zs} (hs : s ∈ c.ss) : okX s.key := by
  have hu := (hu c hc).2.2.2 s hs
  have h1 := zC_le hc
  have h2 := zS_le hs
  obtain ⟨⟨h3, h4, h5⟩, h6⟩ := szS3 s (hN c hc s hs) (by omega)
  unfold Zs.key
  cases hw : s.wr with
  | false => exact ⟨h3, fun kd l e => by cases e⟩
  | true =>
    simp only [if_true]
    refine ⟨⟨kd_ok _ hu.1.1, h5, fun y hy => ?_⟩, fun kd li e y hy => ?_⟩
    · obtain ⟨z, hz, rfl⟩ := List.mem_map.1 hy
      have : z.am ≤ 255 := (hu.2 z hz).2.2
      show z.am ≤ _
      omega
    · injection e with e
      injection e with e1 e2
      rw [← e2] at hy
      obtain ⟨z, hz, rfl⟩ := List.mem_map.1 hy
      exact ⟨fun q hq => ty_one _ q hq, (h6 z hz).2⟩
theorem flat_ok {l : List Zc} (hu : ∀ c ∈ l, UC c) (hz : zA l ≤ 1048576) (hN : OkN l) : ∀ k ∈ flatK (l.map Zc.key), k.ks.length ≤ 1048576 ∧ ∀ x ∈ k.ks, SkSz x := fun k hk => by
  have := okSt_flat (l.map Zc.key) (N := 0) (acc := []) (fun k hk => by cases hk) (fun y hy => by
    obtain ⟨c, hc, rfl⟩ := List.mem_map.1 hy
    refine ⟨fun s hs => ty_one _ s hs, fun x hx => ?_⟩
    obtain ⟨s, hs, rfl⟩ := List.mem_map.1 (show x ∈ c.ss.map Zs.key from hx)
    exact okX_key hu hz hN hc hs) k hk
  have h2 := tot_zA l
  exact ⟨by have := this.2.2; omega, this.2.1⟩
theorem keys_ok {l : List Zc} (hu : ∀ c ∈ l, UC c) (hz : zA l ≤ 1048576) (hN : OkN l) : ∀ k ∈ l.map Zc.key, k.ks.length ≤ 1048576 ∧ ∀ x ∈ k.ks, SkSz x := fun k hk => by
  obtain ⟨c, hc, rfl⟩ := List.mem_map.1 hk
  refine ⟨by show (c.ss.map Zs.key).length ≤ _; rw [List.length_map]; exact (szC hz hN c hc).1, fun x hx => ?_⟩
  obtain ⟨s, hs, rfl⟩ := List.mem_map.1 (show x ∈ c.ss.map Zs.key from hx)
  exact (okX_key hu hz hN hc hs).1
theorem flatK_len {l : List Zc} (hz : zA l ≤ 1048576) : (flatK (l.map Zc.key)).length ≤ 1048576 := by
  have h1 := flat_fold_len (l.map Zc.key) []
  have h2 := tot_zA l
  have h3 : (flatK (l.map Zc.key)).length ≤ ([] : List (Ck SK)).length + tot (l.map Zc.key) := h1
  simp at h3
  omega
theorem gp_obs (k : Ck SK) : gpK k false = obsK k := rfl
end Go.Proofs.Ytjigljpodkfchad
