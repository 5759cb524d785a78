/- Scanning to the end of a value: by recursion, and by a stack: the same end. -/
namespace Go.Proofs.YtfklgdecaknbaaaFmt
inductive Cls where
  | close (c : Int)
  | semi
  | opn (c : Int)
  | eof
  | other
section
variable (cls : Nat → Cls)
def run : Nat → Nat → List Int → Nat
  | 0, i, _ => i
  | f + 1, i, st => match cls i with
    | .close c => match st with
      | d :: t => if d = c then run f (i + 1) t else i
      | [] => i
    | .semi => if st.isEmpty then i else run f (i + 1) st
    | .opn c => run f (i + 1) (c :: st)
    | .eof => i
    | .other => run f (i + 1) st
def skp : Nat → Nat → Int → Bool → Nat × Bool
  | 0, i, _, _ => (i, true)
  | f + 1, i, w, b => match cls i with
    | .eof => (i, true)
    | .close c => if b && decide (c = w) then (i, false) else (i, true)
    | .semi => if b then skp f (i + 1) w b else (i, true)
    | .opn c => if (skp f (i + 1) c true).2 then ((skp f (i + 1) c true).1, true) else skp f ((skp f (i + 1) c true).1 + 1) w b
    | .other => skp f (i + 1) w b
variable {cls} {n : Nat}
theorem skp_ge : ∀ (f i : Nat) (w : Int) (b : Bool), i ≤ (skp cls f i w b).1 := by
  intro f
  induction f with
  | zero => intro i w b; exact Nat.le_refl _
  | succ f ih =>
    intro i w b
    unfold skp
    split
    · exact Nat.le_refl _
    · split <;> exact Nat.le_refl _
    · split
      · exact Nat.le_trans (by omega) (ih (i + 1) w b)
      · exact Nat.le_refl _
    · rename_i c _
      have h1 := ih (i + 1) c true
      split
      · simp only; omega
      · have h2 := ih ((skp cls f (i + 1) c true).1 + 1) w b
        omega
    · exact Nat.le_trans (by omega) (ih (i + 1) w b)
/-- enough fuel is enough -/
theorem skp_fuel (he : ∀ i, n ≤ i → cls i = .eof) : ∀ (m f g i : Nat) (w : Int) (b : Bool), n - i ≤ m → n + 1 ≤ f + i → n + 1 ≤ g + i → 0 < f → 0 < g → skp cls f i w b = skp cls g i w b := by
  intro m
  induction m with
  | zero =>
    intro f g i w b hm hf hg hf0 hg0
    have hi := he i (by omega)
    obtain ⟨f, rfl⟩ : ∃ f', f = f' + 1 := ⟨f - 1, by omega⟩
    obtain ⟨g, rfl⟩ : ∃ g', g = g' + 1 := ⟨g - 1, by omega⟩
    unfold skp
    rw [hi]
  | succ m ih =>
    intro f g i w b hm hf hg hf0 hg0
    obtain ⟨f, rfl⟩ : ∃ f', f = f' + 1 := ⟨f - 1, by omega⟩
    obtain ⟨g, rfl⟩ : ∃ g', g = g' + 1 := ⟨g - 1, by omega⟩
    by_cases hin : n ≤ i
    · unfold skp
      rw [he i hin]
    · have e1 : ∀ w b, skp cls f (i + 1) w b = skp cls g (i + 1) w b := fun w b => ih f g (i + 1) w b (by omega) (by omega) (by omega) (by omega) (by omega)
      unfold skp
      split
      · rfl
      · rfl
      · rw [e1]
      · rename_i c _
        rw [e1 c true]
        have hge := skp_ge (cls := cls) g (i + 1) c true
        split
        · rfl
        · by_cases hj : n ≤ (skp cls g (i + 1) c true).1 + 1
          · by_cases hf1 : f = 0
            · omega
            · exact ih f g _ w b (by omega) (by omega) (by omega) (by omega) (by omega)
          · exact ih f g _ w b (by omega) (by omega) (by omega) (by omega) (by omega)
      · rw [e1]
variable (cls) (n)
def Rn (i : Nat) (st : List Int) : Nat := run cls (n + 1 - i) i st
def Sn (i : Nat) (w : Int) (b : Bool) : Nat × Bool := skp cls (n + 1 - i) i w b
variable {cls} {n}
theorem Rn_step {i : Nat} (hi : i ≤ n) (st : List Int) : Rn cls n i st = match cls i with
    | .close c => match st with
      | d :: t => if d = c then Rn cls n (i + 1) t else i
      | [] => i
    | .semi => if st.isEmpty then i else Rn cls n (i + 1) st
    | .opn c => Rn cls n (i + 1) (c :: st)
    | .eof => i
    | .other => Rn cls n (i + 1) st := by
  unfold Rn
  rw [show n + 1 - i = (n - i) + 1 by omega, show n + 1 - (i + 1) = n - i by omega]
  rfl
theorem Sn_step (he : ∀ i, n ≤ i → cls i = .eof) {i : Nat} (hi : i ≤ n) (w : Int) (b : Bool) : Sn cls n i w b = match cls i with
    | .eof => (i, true)
    | .close c => if b && decide (c = w) then (i, false) else (i, true)
    | .semi => if b then Sn cls n (i + 1) w b else (i, true)
    | .opn c => if (Sn cls n (i + 1) c true).2 then ((Sn cls n (i + 1) c true).1, true) else Sn cls n ((Sn cls n (i + 1) c true).1 + 1) w b
    | .other => Sn cls n (i + 1) w b := by
  unfold Sn
  rw [show n + 1 - i = (n - i) + 1 by omega, show n + 1 - (i + 1) = n - i by omega]
  by_cases hin : i = n
  · subst hin
    rw [Nat.sub_self]
    unfold skp
    rw [he i (Nat.le_refl _)]
  · rw [skp]
    have hge : ∀ c, i + 1 ≤ (skp cls (n - i) (i + 1) c true).1 := fun c => skp_ge _ _ _ _
    split
    · rfl
    · rfl
    · rfl
    · rename_i c _
      have h1 := hge c
      by_cases hs : (skp cls (n - i) (i + 1) c true).2 = true
      · rw [if_pos hs, if_pos hs]
      · rw [if_neg hs, if_neg hs]
        by_cases hj : n ≤ (skp cls (n - i) (i + 1) c true).1
        · obtain ⟨f, hf⟩ : ∃ f, n - i = f + 1 := ⟨n - i - 1, by omega⟩
          rw [show n + 1 - ((skp cls (n - i) (i + 1) c true).1 + 1) = 0 by omega]
          have hjj : n ≤ (skp cls (n - i) (i + 1) c true).1 + 1 := by omega
          generalize (skp cls (n - i) (i + 1) c true).1 + 1 = j at *
          rw [hf]
          unfold skp
          rw [he j (by omega)]
        · exact skp_fuel he n _ _ _ w b (by omega) (by omega) (by omega) (by omega) (by omega)
    · rfl
theorem Sn_ge (i : Nat) (w : Int) (b : Bool) : i ≤ (Sn cls n i w b).1 := skp_ge _ _ _ _
/-- the recursion ends where the stack ends -/
theorem same_end (he : ∀ i, n ≤ i → cls i = .eof) : ∀ (m i : Nat), n - i ≤ m → i ≤ n →
    (∀ (c : Int) (st : List Int), ((Sn cls n i c true).2 = true → Rn cls n i (c :: st) = (Sn cls n i c true).1) ∧ ((Sn cls n i c true).2 = false → (Sn cls n i c true).1 < n ∧ Rn cls n i (c :: st) = Rn cls n ((Sn cls n i c true).1 + 1) st)) ∧
    (∀ w : Int, Rn cls n i [] = (Sn cls n i w false).1) := by
  intro m
  induction m using Nat.strongRecOn with
  | ind m ih =>
    intro i hm hi
    by_cases hin : i = n
    · subst hin
      have e := he i (Nat.le_refl _)
      refine ⟨fun c st => ?_, fun w => ?_⟩
      · rw [Sn_step he (Nat.le_refl _), Rn_step (Nat.le_refl _), e]
        exact ⟨fun _ => rfl, (fun h => by cases h)⟩
      · rw [Sn_step he (Nat.le_refl _), Rn_step (Nat.le_refl _), e]
    · have IH := ih (n - (i + 1)) (by omega) (i + 1) (Nat.le_refl _) (by omega)
      have IH2 := fun j (h1 : i < j) (h2 : j ≤ n) => ih (n - j) (by omega) j (Nat.le_refl _) h2
      refine ⟨fun c st => ?_, fun w => ?_⟩
      · rw [Sn_step he hi, Rn_step hi]
        cases hc : cls i with
        | eof => exact ⟨fun _ => rfl, (fun h => by cases h)⟩
        | close d =>
          simp only
          by_cases hd : c = d
          · subst hd
            simp only [Bool.true_and, decide_true, if_true]
            exact ⟨(fun h => by cases h), fun _ => ⟨by omega, by first | rfl | trivial⟩⟩
          · rw [if_neg hd]
            have : decide (d = c) = false := by simpa using fun h => hd h.symm
            simp only [this, Bool.and_false]
            exact ⟨fun _ => rfl, (fun h => by cases h)⟩
        | semi => simpa using IH.1 c st
        | other => exact IH.1 c st
        | opn d =>
          simp only
          have h1 := IH.1 d (c :: st)
          by_cases hs : (Sn cls n (i + 1) d true).2 = true
          · rw [if_pos hs]
            exact ⟨fun _ => h1.1 hs, (fun h => by cases h)⟩
          · rw [if_neg hs]
            have hs' : (Sn cls n (i + 1) d true).2 = false := by simpa using hs
            obtain ⟨hl, h2⟩ := h1.2 hs'
            rw [h2]
            have hge := Sn_ge (cls := cls) (n := n) (i + 1) d true
            exact (IH2 _ (by omega) (by omega)).1 c st
      · rw [Sn_step he hi, Rn_step hi]
        cases hc : cls i with
        | eof => rfl
        | close d => simp
        | semi => simp
        | other => exact IH.2 w
        | opn d =>
          simp only
          have h1 := IH.1 d []
          by_cases hs : (Sn cls n (i + 1) d true).2 = true
          · rw [if_pos hs]; exact h1.1 hs
          · rw [if_neg hs]
            have hs' : (Sn cls n (i + 1) d true).2 = false := by simpa using hs
            obtain ⟨hl, h2⟩ := h1.2 hs'
            rw [h2]
            have hge := Sn_ge (cls := cls) (n := n) (i + 1) d true
            exact (IH2 _ (by omega) (by omega)).2 w
end
end Go.Proofs.YtfklgdecaknbaaaFmt
