/- FnListStyleShorthandExact: one round's call. -/
import Derived.Test.YtpjbhbbhkhfiaaaDoorLs6
set_option linter.unusedVariables false
set_option linter.unusedSimpArgs false
namespace Go.Proofs.YtpjbhbbhkhfiaaaDoor
open Go.RowKit
theorem PS.base {w : World} {S : Nat → Prop} {G G' B : Nat} {mk : Bool} {l : List SyR} (h : PS w S G B mk l) (hG : G' ≤ G) : PS w S G' B mk l := by
  obtain ⟨m1, m2, v1, v2, D, h⟩ := h
  exact ⟨m1, m2, v1, v2, D, { h with gS := fun k q => Nat.le_trans hG (h.gS k q), o1 := own_base h.o1 hG, o2 := own_base h.o2 hG }⟩
theorem PS.lt {w : World} {S : Nat → Prop} {G B : Nat} {mk : Bool} {l : List SyR} (h : PS w S G B mk l) : ∀ k, S k → k < w.heap.size ∧ G ≤ k := by
  obtain ⟨m1, m2, v1, v2, D, h⟩ := h
  exact fun k q => ⟨h.lS k q, h.gS k q⟩
theorem Kp.below' {S : Nat → Prop} {w w' : World} {G : Nat} (h : Kp S w w') (hG : G ≤ w.heap.size) (hS : ∀ k, S k → G ≤ k) : Below G w w' :=
  ⟨h.os, h.tape, h.output, h.size, fun k hk => h.block k (by omega) (fun q => by have := hS k q; omega)⟩
def F0 (kd : Nat → Int) (tx : Nat → ByteArray) (pl : Int) (i : Nat) : Tk := zT (kd i) (tx i) pl
def FW (W : Int) (kd : Nat → Int) (tx : Nat → ByteArray) (pl : Int) (i : Nat) : Tk := if W = (i : Int) then zT 39 (tx i) 0 else F0 kd tx pl i
def lW (W : Int) (tx : Nat → ByteArray) : List SyR := if W = -1 then [] else [⟨tx W.toNat, 1⟩]
/-- how the law's world stands after the call's round k -/
structure St (w : World) (B : Nat) (mk : Bool) (T n : Nat) (F : Nat → Tk) (l : List SyR) (wr : World) : Prop where
  ps : ∃ S, PS wr S w.heap.size B mk l ∧ ¬ S T
  tok : ∀ i, i < n → TAt wr T (i * 7) (F i)
  froz : ∀ j, j < n * 7 → wr.frozen? ⟨T, j, none⟩ = false
  base : w.heap.size ≤ T
  lt : T < wr.heap.size
  below : Below w.heap.size w wr
theorem St.after {w wr w' : World} {B : Nat} {mk : Bool} {T n : Nat} {F : Nat → Tk} {l : List SyR} (h : St w B mk T n F l wr) (hb : Below wr.heap.size wr w') : St w B mk T n F l w' := by
  obtain ⟨S, h1, h2⟩ := h.ps
  exact ⟨⟨S, h1.below hb, h2⟩, fun i hi => (h.tok i hi).after hb, fun j hj => by rw [hb.frozen (show (⟨T, j, none⟩ : Addr).block < wr.heap.size from h.lt)]; exact h.froz j hj, h.base, Nat.lt_of_lt_of_le h.lt hb.size, h.below.trans (hb.mono h.below.size)⟩
/-- what the walk knows of the world it starts in -/
structure Env (low : ByteArray → ByteArray) (w : World) : Prop where
  hL : LowP low w
  hA : Agr low
  hls : ∀ s, s.size ≤ 1048576 → (low s).size ≤ maxLen
  hR0 : ResP 0 widW w
  hR1 : ResP 1 preW w
  hI : Inv w
  hG : 3 ≤ w.heap.size
/-- the first round's call -/
theorem round0 (low : ByteArray → ByteArray) (w wr : World) (E : Env low w) (B : Nat) (mk : Bool) (T n cT : Nat) (kd : Nat → Int) (tx : Nat → ByteArray) (pl : Int) (cl : Nat → Nat) (hcl : ∀ i, cl i = clF (kd i) (fS (tx i))) (hkd : ∀ i, kd i = 36 ∨ kd i = 37 ∨ kd i = 27 ∨ kd i = 39 ∨ kd i = 29) (hs : ∀ i, (tx i).size ≤ 1048576) (hn : n ≤ maxLen)
    (h : St w B mk T n (F0 kd tx pl) [] wr) :
    Calls Tryd.prog 10 #[.pointer (some ⟨B, 0, none⟩), .slice (some ⟨T, 0, none⟩) n cT] wr (fun e w' => e = .returned (.tuple #[]) ∧ St w B mk T n (FW (wantF cl n) kd tx pl) (lW (wantF cl n) tx) w') := by
  have hc : ∀ i, cl i < 8 := fun i => by rw [hcl]; exact clF_lt _ _
  have hno : wantF cl n = -1 → ∀ w', St w B mk T n (F0 kd tx pl) [] w' → St w B mk T n (FW (wantF cl n) kd tx pl) (lW (wantF cl n) tx) w' := fun e w' h => by
    have e1 : FW (wantF cl n) kd tx pl = F0 kd tx pl := by
      funext i; unfold FW; rw [if_neg (by omega)]
    rw [e1]
    unfold lW
    rw [if_pos e]
    exact h
  apply zz10_c
  by_cases hr : 1 ≤ n ∧ n ≤ 3
  · have hw : wantF cl n = pR cl n := by unfold wantF; rw [if_pos hr]; exact agree cl hc n hr.1 hr.2
    obtain ⟨S, hp, hST⟩ := h.ps
    refine (proc_c low w wr E.hL E.hA E.hls E.hR0 E.hR1 E.hI h.below S B mk [] 0 (FitS.nil 0) (by omega) hp E.hG T n cT kd tx (fun _ => pl) cl hcl hkd hs (fun i hi => h.tok i hi) hST h.base h.froz hr.1 hr.2).mono ?_
    rintro e w' ⟨rfl, p1, p2⟩
    refine ⟨rfl, ?_⟩
    rcases wantF_rng hc (n := n) with q | ⟨q1, q2⟩
    · exact hno q w' (h.after (p1 (by rw [← hw]; exact q)))
    · obtain ⟨i, hi⟩ : ∃ i : Nat, wantF cl n = i := ⟨(wantF cl n).toNat, by omega⟩
      have hr := p2 i (by rw [← hw]; exact hi)
      obtain ⟨S', hp', hS'⟩ := hr.ps
      have hlt := hp.lt
      have hTb := h.base
      have hTl := h.lt
      rw [hi] at q2 ⊢
      have hin : i < n := by omega
      have hne : ∀ j, j < n → j ≠ i → ∀ m, m < 7 → j * 7 + m < i * 7 ∨ i * 7 + 7 ≤ j * 7 + m := fun j _ hj m hm => by omega
      refine ⟨⟨S', ?_, fun q => ?_⟩, fun j hj => ?_, fun j hj => ?_, hTb, Nat.lt_of_lt_of_le hTl hr.kp.size, h.below.trans (hr.kp.below' h.below.size (fun k q => ?_))⟩
      · unfold lW
        rw [if_neg (by omega)]
        exact hp'
      · rcases hS' T q with a | a
        · exact hST a
        · omega
      · unfold FW
        by_cases e : i = j
        · subst e
          rw [if_pos rfl]
          exact hr.tok
        · rw [if_neg (by omega)]
          exact (h.tok j hj).keep (fun m hm => hr.far _ (hne j hj (fun q => e q.symm) m hm))
      · rw [hr.froz j]; exact h.froz j hj
      · rcases q with q | q
        · exact (hlt k q).2
        · subst q; exact hTb
  · have hw : wantF cl n = -1 := by unfold wantF; rw [if_neg hr]
    refine (proc_out _ _ n cT wr hn (by omega)).mono ?_
    rintro e w' ⟨rfl, rfl⟩
    exact ⟨rfl, hno hw _ h⟩
/-- the second round's call: nothing more is found -/
theorem round1 (low : ByteArray → ByteArray) (w wr : World) (E : Env low w) (B : Nat) (mk : Bool) (T n cT : Nat) (kd : Nat → Int) (tx : Nat → ByteArray) (pl : Int) (cl : Nat → Nat) (hcl : ∀ i, cl i = clF (kd i) (fS (tx i))) (hkd : ∀ i, kd i = 36 ∨ kd i = 37 ∨ kd i = 27 ∨ kd i = 39 ∨ kd i = 29) (hs : ∀ i, (tx i).size ≤ 1048576) (hn : n ≤ maxLen)
    (h : St w B mk T n (FW (wantF cl n) kd tx pl) (lW (wantF cl n) tx) wr) :
    Calls Tryd.prog 10 #[.pointer (some ⟨B, 0, none⟩), .slice (some ⟨T, 0, none⟩) n cT] wr (fun e w' => e = .returned (.tuple #[]) ∧ St w B mk T n (FW (wantF cl n) kd tx pl) (lW (wantF cl n) tx) w') := by
  have hc : ∀ i, cl i < 8 := fun i => by rw [hcl]; exact clF_lt _ _
  apply zz10_c
  by_cases hr : 1 ≤ n ∧ n ≤ 3
  · have hw : wantF cl n = pR cl n := by unfold wantF; rw [if_pos hr]; exact agree cl hc n hr.1 hr.2
    obtain ⟨S, hp, hST⟩ := h.ps
    obtain ⟨W, hW⟩ : ∃ W, W = wantF cl n := ⟨_, rfl⟩
    rw [← hW] at h hp hw ⊢
    have hfit : FitS (lW W tx) 1 := by
      unfold lW
      split
      · exact FitS.nil 1
      · exact ⟨by simp, fun r hr => by simp at hr; subst hr; exact ⟨by show (0 : Int) ≤ 1; omega, by show (1 : Int) ≤ ((1 : Nat) : Int); omega⟩⟩
    have hp1 : pR (fun (i : Nat) => clF (if W = (i : Int) then 39 else kd i) (fS (tx i))) n = -1 := by
      rcases wantF_rng hc (n := n) with q | ⟨q1, q2⟩
      · have : (fun (i : Nat) => clF (if W = (i : Int) then 39 else kd i) (fS (tx i))) = cl := by
          funext i; rw [if_neg (by omega), hcl]
        rw [this]
        omega
      · exact pR_other (i := W.toNat) (by omega) (by rw [if_pos (by omega)]; rfl)
    refine (proc_c low w wr E.hL E.hA E.hls E.hR0 E.hR1 E.hI h.below S B mk (lW W tx) 1 hfit (by omega) hp E.hG T n cT (fun (i : Nat) => if W = (i : Int) then 39 else kd i) tx (fun (i : Nat) => if W = (i : Int) then 0 else pl) _ (fun i => rfl) (fun i => ?_) hs (fun i hi => ?_) hST h.base h.froz hr.1 hr.2).mono ?_
    · show (if W = (i : Int) then (39 : Int) else kd i) = 36 ∨ _
      by_cases e : W = (i : Int)
      · rw [if_pos e]; omega
      · rw [if_neg e]; exact hkd i
    · have := h.tok i hi
      unfold FW F0 at this
      by_cases e : W = (i : Int)
      · rw [if_pos e] at this; simp only [if_pos e]; exact this
      · rw [if_neg e] at this; simp only [if_neg e]; exact this
    · rintro e w' ⟨rfl, p1, p2⟩
      exact ⟨rfl, h.after (p1 hp1)⟩
  · refine (proc_out _ _ n cT wr hn (by omega)).mono ?_
    rintro e w' ⟨rfl, rfl⟩
    exact ⟨rfl, h⟩
/-- both: after k calls -/
def Fs (k : Nat) (W : Int) (kd : Nat → Int) (tx : Nat → ByteArray) (pl : Int) : Nat → Tk := if k = 0 then F0 kd tx pl else FW W kd tx pl
def lSy (k : Nat) (W : Int) (tx : Nat → ByteArray) : List SyR := if k = 0 then [] else lW W tx
theorem roundk (low : ByteArray → ByteArray) (w wr : World) (E : Env low w) (B : Nat) (mk : Bool) (T n cT : Nat) (kd : Nat → Int) (tx : Nat → ByteArray) (pl : Int) (cl : Nat → Nat) (hcl : ∀ i, cl i = clF (kd i) (fS (tx i))) (hkd : ∀ i, kd i = 36 ∨ kd i = 37 ∨ kd i = 27 ∨ kd i = 39 ∨ kd i = 29) (hs : ∀ i, (tx i).size ≤ 1048576) (hn : n ≤ maxLen) (W : Int) (hW : W = wantF cl n) (k : Nat)
    (h : St w B mk T n (Fs k W kd tx pl) (lSy k W tx) wr) :
    Calls Tryd.prog 10 #[.pointer (some ⟨B, 0, none⟩), .slice (some ⟨T, 0, none⟩) n cT] wr (fun e w' => e = .returned (.tuple #[]) ∧ St w B mk T n (FW W kd tx pl) (lW W tx) w') := by
  subst hW
  cases k with
  | zero => exact round0 low w wr E B mk T n cT kd tx pl cl hcl hkd hs hn h
  | succ k => exact round1 low w wr E B mk T n cT kd tx pl cl hcl hkd hs hn h
/-- the model, whatever the number of kinds -/
theorem model_c (A0 A1 : Option Addr) (n c0 n1 c1 : Nat) (K : Nat → Int) (X : Nat → ByteArray) (w : World) (cl : Nat → Nat) (hcl : ∀ i, cl i = clF (kdF (K i)) (fS (txF n1 X i))) (hk : Row .u8 w A0 n K) (hx : RowS w A1 n1 X) (hK : ∀ i, i < n → 0 ≤ K i ∧ K i ≤ 255) (hn1 : n1 ≤ 4096) (hs : ∀ i, (txF n1 X i).size ≤ 1048576) (hn : n ≤ maxLen) :
    Calls Tryd.prog 8 #[.slice A0 n c0, .slice A1 n1 c1] w (fun e w' => e = .returned (.int .i64 (wantF cl n)) ∧ Below w.heap.size w w') := by
  by_cases hr : 1 ≤ n ∧ n ≤ 3
  · unfold wantF
    rw [if_pos hr]
    exact model8_c A0 A1 n c0 n1 c1 K X w cl hcl hk hx hK hn1 hs hr.1 hr.2
  · unfold wantF
    rw [if_neg hr]
    refine (model8_out A0 A1 n c0 n1 c1 w hn (by omega)).mono ?_
    rintro e w' ⟨rfl, rfl⟩
    exact ⟨rfl, Below.refl _ _⟩
end Go.Proofs.YtpjbhbbhkhfiaaaDoor
