/- Sine, cosine and arc tangent by their polynomials: how well they fit (whole certificates). -/
set_option linter.unusedVariables false
set_option linter.unusedSimpArgs false
namespace Go.Proofs.YtkbgkogfjfojgaaDoor.Pc
set_option maxRecDepth 100000
/- Polynomials with whole coefficients, and bounds of them by their coefficients. -/
def ev (p : List Int) (x : Rat) : Rat := p.foldr (fun (c : Int) (a : Rat) => (c : Rat) + x * a) 0
def addP : List Int → List Int → List Int
  | [], q => q
  | p, [] => p
  | a :: p, b :: q => (a + b) :: addP p q
def scP (k : Int) (p : List Int) : List Int := p.map (k * ·)
def mulP : List Int → List Int → List Int
  | [], _ => []
  | a :: p, q => addP (scP a q) (0 :: mulP p q)
def powP (p : List Int) : Nat → List Int
  | 0 => [1]
  | n + 1 => mulP p (powP p n)
def homP : List Int → List Int → List Int → List Int
  | [], _, _ => []
  | c :: cs, X, Y => addP (scP c (powP Y cs.length)) (mulP X (homP cs X Y))
def homR : List Int → Rat → Rat → Rat
  | [], _, _ => 0
  | c :: cs, x, y => (c : Rat) * y ^ cs.length + x * homR cs x y
def sumA (p : List Int) : Nat := p.foldr (fun c a => c.natAbs + a) 0
theorem ev_nil (x : Rat) : ev [] x = 0 := rfl
theorem ev_cons (c : Int) (p : List Int) (x : Rat) : ev (c :: p) x = (c : Rat) + x * ev p x := rfl
theorem ev_add : ∀ (p q : List Int) (x : Rat), ev (addP p q) x = ev p x + ev q x
  | [], q, x => by simp only [addP, ev_nil, Rat.zero_add]
  | a :: p, [], x => by simp only [addP, ev_nil, Rat.add_zero]
  | a :: p, b :: q, x => by
    simp only [addP, ev_cons, ev_add p q x, Rat.intCast_add]
    grind
theorem ev_sc (k : Int) : ∀ (p : List Int) (x : Rat), ev (scP k p) x = (k : Rat) * ev p x
  | [], x => by simp [scP, ev_nil]
  | a :: p, x => by
    have := ev_sc k p x
    simp only [scP, List.map_cons, ev_cons] at this ⊢
    rw [this, Rat.intCast_mul]
    grind
theorem ev_mul : ∀ (p q : List Int) (x : Rat), ev (mulP p q) x = ev p x * ev q x
  | [], q, x => by simp [mulP, ev_nil]
  | a :: p, q, x => by
    simp only [mulP, ev_add, ev_sc, ev_cons, ev_mul p q x]
    grind
theorem ev_pow (p : List Int) (x : Rat) : ∀ n, ev (powP p n) x = ev p x ^ n
  | 0 => by show (1 : Rat) + x * 0 = ev p x ^ 0; rw [Rat.pow_zero, Rat.mul_zero, Rat.add_zero]
  | n + 1 => by
    simp only [powP, ev_mul, ev_pow p x n, Rat.pow_succ]
    grind
theorem ev_hom : ∀ (c X Y : List Int) (x : Rat), ev (homP c X Y) x = homR c (ev X x) (ev Y x)
  | [], X, Y, x => rfl
  | c :: cs, X, Y, x => by simp only [homP, homR, ev_add, ev_sc, ev_pow, ev_mul, ev_hom cs X Y x]
def Bd (a A : Rat) : Prop := -A ≤ a ∧ a ≤ A
theorem bd_add {a b A B : Rat} (ha : Bd a A) (hb : Bd b B) : Bd (a + b) (A + B) := by unfold Bd at *; constructor <;> grind
theorem bd_one {x a A : Rat} (hx : Bd x 1) (ha : Bd a A) : Bd (x * a) A := by
  obtain ⟨h1, h2⟩ := hx
  obtain ⟨h3, h4⟩ := ha
  have hA : 0 ≤ A := by grind
  have k1 : 0 ≤ (1 - x) * (A - a) := Rat.mul_nonneg (by grind) (by grind)
  have k2 : 0 ≤ (1 + x) * (A + a) := Rat.mul_nonneg (by grind) (by grind)
  have k3 : 0 ≤ (1 - x) * (A + a) := Rat.mul_nonneg (by grind) (by grind)
  have k4 : 0 ≤ (1 + x) * (A - a) := Rat.mul_nonneg (by grind) (by grind)
  constructor <;> grind
theorem bd_int (c : Int) : Bd (c : Rat) (c.natAbs : Rat) := by
  have h : -(c.natAbs : Int) ≤ c ∧ c ≤ (c.natAbs : Int) := by omega
  have e : (((c.natAbs : Nat) : Int) : Rat) = ((c.natAbs : Nat) : Rat) := Rat.intCast_natCast _
  have h1 := Rat.intCast_le_intCast.2 h.1
  have h2 := Rat.intCast_le_intCast.2 h.2
  rw [Rat.intCast_neg, e] at h1
  rw [e] at h2
  exact ⟨h1, h2⟩
theorem ev_bd : ∀ (p : List Int) (x : Rat), Bd x 1 → Bd (ev p x) (sumA p : Rat)
  | [], x, _ => by unfold Bd ev sumA; simp
  | c :: p, x, hx => by
    have h1 := ev_bd p x hx
    have h2 := bd_add (bd_int c) (bd_one hx h1)
    have e : (sumA (c :: p) : Rat) = (c.natAbs : Rat) + (sumA p : Rat) := by
      show ((c.natAbs + sumA p : Nat) : Rat) = _
      rw [Rat.natCast_add]
    rw [e, ev_cons]
    exact h2
def nzI : List Int := [438089133518797568, 946972300291826496, 698045314244270304, 202703533235911392, 19592747405475344, 281337932166811]
def qzI : List Int := [438089133518797568, 1093002011464758528, 974761491362160000, 371607789992053056, 55976286633525728, 2251799813685248]
def snI : List Int := [618970019642690137449562112, -103161669940448127176671232, 5158083497015475999604736, -122811511761569520287744, 1705715095352889311232, -15505661834840172544, 98392898929282256]
def csI : List Int := [618970019642690137449562112, -309485009821345068724781056, 25790417485112044679069696, -859680582836089610305536, 15351438971350433136640, -170571512988590866432, 1292143296021202176, -7030593573755547]
def zI (i : Nat) : List Int := [7 * (2 * (i : Int) + 1), 7]
def nH (i : Nat) : List Int := homP nzI (zI i) [128]
def qH (i : Nat) : List Int := homP qzI (zI i) [128]
def fH (i : Nat) : List Int :=
  let n := nH i; let q := qH i; let X := mulP (zI i) (mulP n n); let Y := scP 128 (mulP q q)
  addP (mulP (scP 128 (mulP n q)) (homP snI X Y)) (scP (-1) (homP csI X Y))
def qM (i : Nat) : Int := (qH i).headD 0 - (sumA (qH i).tail : Int)
theorem cert0 : (sumA (fH 0) : Int) * 500000000000000 ≤ 618970019642690137449562112 * 128 ^ 7 * (qM 0) ^ 14 ∧ 0 < qM 0 := by decide +kernel
theorem cert1 : (sumA (fH 1) : Int) * 500000000000000 ≤ 618970019642690137449562112 * 128 ^ 7 * (qM 1) ^ 14 ∧ 0 < qM 1 := by decide +kernel
theorem cert2 : (sumA (fH 2) : Int) * 500000000000000 ≤ 618970019642690137449562112 * 128 ^ 7 * (qM 2) ^ 14 ∧ 0 < qM 2 := by decide +kernel
theorem cert3 : (sumA (fH 3) : Int) * 500000000000000 ≤ 618970019642690137449562112 * 128 ^ 7 * (qM 3) ^ 14 ∧ 0 < qM 3 := by decide +kernel
theorem mul_pow' (x y : Rat) : ∀ n : Nat, (x * y) ^ n = x ^ n * y ^ n
  | 0 => by rw [Rat.pow_zero, Rat.pow_zero, Rat.pow_zero, Rat.mul_one]
  | n + 1 => by rw [Rat.pow_succ, Rat.pow_succ, Rat.pow_succ, mul_pow' x y n]; grind
theorem homR_scale : ∀ (cs : List Int) (c : Int) (t x y : Rat), homR (c :: cs) (t * x) (t * y) = t ^ cs.length * homR (c :: cs) x y
  | [], c, t, x, y => by simp only [homR, List.length_nil, Rat.pow_zero]; grind
  | b :: cs, c, t, x, y => by
    have ih := homR_scale cs b t x y
    have e : ∀ x y : Rat, homR (c :: b :: cs) x y = (c : Rat) * y ^ (b :: cs).length + x * homR (b :: cs) x y := fun _ _ => rfl
    rw [e, e, ih, mul_pow', List.length_cons, Rat.pow_succ]
    grind
def kK : Rat := 2251799813685248
def kG : Rat := 618970019642690137449562112
/-- the polynomials -/
def S1 (q : Rat) : Rat := homR snI q 1 / kG
def C1 (q : Rat) : Rat := homR csI q 1 / kG
def sinP (w : Rat) : Rat := w * S1 (w * w)
def cosP (w : Rat) : Rat := C1 (w * w)
def nR (z : Rat) : Rat := homR nzI z 1
def qR (z : Rat) : Rat := homR qzI z 1
def atanP (u : Rat) : Rat := u * (nR (u * u) / qR (u * u))
theorem ev_z (i : Nat) (s : Rat) : ev (zI i) s = 7 * (2 * (i : Rat) + 1) + 7 * s := by
  show ((7 * (2 * (i : Int) + 1) : Int) : Rat) + s * (((7 : Int) : Rat) + s * 0) = _
  rw [Rat.intCast_mul, Rat.intCast_add, Rat.intCast_mul, Rat.intCast_natCast]
  have e7 : ((7 : Int) : Rat) = 7 := rfl
  have e2 : ((2 : Int) : Rat) = 2 := rfl
  have e1 : ((1 : Int) : Rat) = 1 := rfl
  rw [e7, e2, e1]
  grind
theorem ev_128 (s : Rat) : ev [128] s = 128 := by
  show ((128 : Int) : Rat) + s * 0 = 128
  have e1 : ((128 : Int) : Rat) = 128 := rfl
  rw [e1]; grind
theorem ev_lo (p : List Int) (c : Int) (s : Rat) (hs : Bd s 1) : (c : Rat) - (sumA p : Rat) ≤ ev (c :: p) s := by
  have := bd_one hs (ev_bd p s hs)
  rw [ev_cons]
  unfold Bd at this
  grind
theorem cert (i : Nat) (hi : i < 4) : (sumA (fH i) : Int) * 500000000000000 ≤ 618970019642690137449562112 * 128 ^ 7 * (qM i) ^ 14 ∧ 0 < qM i := by
  match i, hi with
  | 0, _ => exact cert0
  | 1, _ => exact cert1
  | 2, _ => exact cert2
  | 3, _ => exact cert3
theorem hom5 (c : List Int) (c0 : Int) (cs : List Int) (hc : c = c0 :: cs) (hl : cs.length = 5) (i : Nat) (s z : Rat) (hz : ev (zI i) s = 128 * z) : ev (homP c (zI i) [128]) s = 128 ^ 5 * homR c z 1 := by
  subst hc
  rw [ev_hom, ev_128, hz]
  have := homR_scale cs c0 128 z 1
  rw [Rat.mul_one, hl] at this
  exact this
theorem pow_pos' {a : Rat} (h : 0 < a) : ∀ n : Nat, 0 < a ^ n
  | 0 => by rw [Rat.pow_zero]; decide +kernel
  | n + 1 => by rw [Rat.pow_succ]; exact Rat.mul_pos (pow_pos' h n) h
theorem pow_le' {a b : Rat} (h0 : 0 ≤ a) (h : a ≤ b) : ∀ n : Nat, 0 ≤ a ^ n ∧ a ^ n ≤ b ^ n
  | 0 => by rw [Rat.pow_zero, Rat.pow_zero]; exact ⟨by decide +kernel, Rat.le_refl⟩
  | n + 1 => by
    obtain ⟨i1, i2⟩ := pow_le' h0 h n
    rw [Rat.pow_succ, Rat.pow_succ]
    have k1 := Rat.mul_nonneg i1 h0
    have k2 : 0 ≤ (b ^ n - a ^ n) * a := Rat.mul_nonneg (by grind) h0
    have k3 : 0 ≤ b ^ n * (b - a) := Rat.mul_nonneg (by grind) (by grind)
    exact ⟨k1, by grind⟩
/-- sine against u times cosine, at xatan's quotient -/
theorem fit (i : Nat) (hi : i < 4) (s z : Rat) (hs : Bd s 1) (hz : ev (zI i) s = 128 * z) : 0 < qR z ∧ Bd (nR z / qR z * S1 (z * (nR z / qR z) ^ 2) - C1 (z * (nR z / qR z) ^ 2)) (1 / 500000000000000) := by
  have hn : ev (nH i) s = 128 ^ 5 * nR z := hom5 nzI _ _ rfl rfl i s z hz
  have hq : ev (qH i) s = 128 ^ 5 * qR z := hom5 qzI _ _ rfl rfl i s z hz
  obtain ⟨hc, hqm⟩ := cert i hi
  have hql : (qM i : Rat) ≤ ev (qH i) s := by
    obtain ⟨c, p, hp⟩ : ∃ c p, qH i = c :: p := by
      cases hp : qH i with
      | nil => unfold qM at hqm; rw [hp] at hqm; exact absurd hqm (by decide)
      | cons c p => exact ⟨c, p, rfl⟩
    have := ev_lo p c s hs
    have e : (qM i : Rat) = (c : Rat) - (sumA p : Rat) := by
      unfold qM
      rw [hp]
      show ((c - (sumA p : Int) : Int) : Rat) = _
      rw [Rat.intCast_sub, Rat.intCast_natCast]
    rw [e, hp]
    exact this
  have hqm' : (0 : Rat) < (qM i : Rat) := by
    have := Rat.intCast_lt_intCast.2 hqm
    exact this
  have hq0 : 0 < qR z := by
    rw [hq] at hql
    have h1 : (0 : Rat) < 128 ^ 5 * qR z := by grind
    have h5 : (128 : Rat) ^ 5 = 34359738368 := by decide +kernel
    rw [h5] at h1
    grind
  refine ⟨hq0, ?_⟩
  have hX : ev (mulP (zI i) (mulP (nH i) (nH i))) s = (128 * (128 ^ 5) ^ 2) * (z * nR z ^ 2) := by
    rw [ev_mul, ev_mul, hn, hz]; grind
  have hY : ev (scP 128 (mulP (qH i) (qH i))) s = (128 * (128 ^ 5) ^ 2) * (qR z ^ 2) := by
    rw [ev_sc, ev_mul, hq]
    have e1 : ((128 : Int) : Rat) = 128 := rfl
    rw [e1]; grind
  have hNQ : ev (scP 128 (mulP (nH i) (qH i))) s = (128 * (128 ^ 5) ^ 2) * (nR z * qR z) := by
    rw [ev_sc, ev_mul, hn, hq]
    have e1 : ((128 : Int) : Rat) = 128 := rfl
    rw [e1]; grind
  have hF : ev (fH i) s = (128 * (128 ^ 5) ^ 2) * (nR z * qR z) * homR snI ((128 * (128 ^ 5) ^ 2) * (z * nR z ^ 2)) ((128 * (128 ^ 5) ^ 2) * (qR z ^ 2)) - homR csI ((128 * (128 ^ 5) ^ 2) * (z * nR z ^ 2)) ((128 * (128 ^ 5) ^ 2) * (qR z ^ 2)) := by
    show ev (addP (mulP (scP 128 (mulP (nH i) (qH i))) (homP snI (mulP (zI i) (mulP (nH i) (nH i))) (scP 128 (mulP (qH i) (qH i))))) (scP (-1) (homP csI (mulP (zI i) (mulP (nH i) (nH i))) (scP 128 (mulP (qH i) (qH i)))))) s = _
    rw [ev_add, ev_mul, ev_sc (-1), ev_hom, ev_hom, hNQ, hX, hY]
    have e1 : ((-1 : Int) : Rat) = -1 := rfl
    rw [e1]; grind
  have hbd := ev_bd (fH i) s hs
  have hA : (sumA (fH i) : Rat) * 500000000000000 ≤ kG * 128 ^ 7 * (ev (qH i) s) ^ 14 := by
    have h1 := Rat.intCast_le_intCast.2 hc
    have h2 := (pow_le' (Rat.le_of_lt hqm') hql 14).2
    have e : (((sumA (fH i) : Int) * 500000000000000 : Int) : Rat) = (sumA (fH i) : Rat) * 500000000000000 := by
      rw [Rat.intCast_mul, Rat.intCast_natCast]; rfl
    have e2 : ((618970019642690137449562112 * 128 ^ 7 * (qM i) ^ 14 : Int) : Rat) = kG * 128 ^ 7 * (qM i : Rat) ^ 14 := by
      rw [Rat.intCast_mul, Rat.intCast_mul, Rat.intCast_pow, Rat.intCast_pow]; rfl
    rw [e, e2] at h1
    have h3 : (0 : Rat) ≤ kG * 128 ^ 7 := by unfold kG; decide +kernel
    have h4 := Rat.mul_le_mul_of_nonneg_left h2 h3
    exact Rat.le_trans h1 h4
  rw [hq] at hA
  generalize hn' : nR z = n at *
  generalize hq' : qR z = q at *
  have hS := homR_scale (snI.tail) (snI.headD 0) (128 * (128 ^ 5) ^ 2) (z * n ^ 2) (q ^ 2)
  have hC := homR_scale (csI.tail) (csI.headD 0) (128 * (128 ^ 5) ^ 2) (z * n ^ 2) (q ^ 2)
  have hS2 := homR_scale (snI.tail) (snI.headD 0) (q ^ 2) (z * (n / q) ^ 2) 1
  have hC2 := homR_scale (csI.tail) (csI.headD 0) (q ^ 2) (z * (n / q) ^ 2) 1
  have eW : q ^ 2 * (z * (n / q) ^ 2) = z * n ^ 2 := by
    have : n / q * q = n := Rat.div_mul_cancel (by grind)
    grind
  rw [eW, Rat.mul_one] at hS2 hC2
  have eS : snI.headD 0 :: snI.tail = snI := rfl
  have eC : csI.headD 0 :: csI.tail = csI := rfl
  have lS : snI.tail.length = 6 := rfl
  have lC : csI.tail.length = 7 := rfl
  rw [eS, lS] at hS hS2
  rw [eC, lC] at hC hC2
  rw [hS, hC, hS2, hC2] at hF
  generalize hW : z * (n / q) ^ 2 = W at *
  have kS : homR snI W 1 = kG * S1 W := by unfold S1; rw [Rat.mul_comm, Rat.div_mul_cancel (by unfold kG; decide +kernel)]
  have kC : homR csI W 1 = kG * C1 W := by unfold C1; rw [Rat.mul_comm, Rat.div_mul_cancel (by unfold kG; decide +kernel)]
  rw [kS, kC] at hF
  generalize hr : n / q = r at *
  have hnr : n = r * q := by rw [← hr]; exact (Rat.div_mul_cancel (by grind)).symm
  have hM : kG * 128 ^ 7 * (128 ^ 5 * q) ^ 14 = (128 * (128 ^ 5) ^ 2) ^ 7 * q ^ 14 * kG := by
    rw [mul_pow', mul_pow']
    have : ((128 : Rat) ^ 5) ^ 14 = (((128 : Rat) ^ 5) ^ 2) ^ 7 := by decide +kernel
    rw [this]
    grind
  have hF2 : ev (fH i) s = ((128 * (128 ^ 5) ^ 2) ^ 7 * q ^ 14 * kG) * (r * S1 W - C1 W) := by
    rw [hF, hnr]
    generalize (128 * (128 ^ 5) ^ 2 : Rat) = t
    generalize S1 W = x
    generalize C1 W = y
    generalize kG = g
    grind
  rw [hM] at hA
  have hMpos : 0 < (128 * (128 ^ 5) ^ 2 : Rat) ^ 7 * q ^ 14 * kG := Rat.mul_pos (Rat.mul_pos (by decide +kernel) (pow_pos' hq0 14)) (by unfold kG; decide +kernel)
  rw [hF2] at hbd
  generalize (128 * (128 ^ 5) ^ 2 : Rat) ^ 7 * q ^ 14 * kG = M at *
  generalize r * S1 W - C1 W = E at *
  generalize (sumA (fH i) : Rat) = A at *
  obtain ⟨h1, h2⟩ := hbd
  constructor
  · refine Rat.not_lt.1 (fun h => ?_)
    have k : 0 < M * (-(1 / 500000000000000) - E) := Rat.mul_pos hMpos (by grind)
    grind
  · refine Rat.not_lt.1 (fun h => ?_)
    have k : 0 < M * (E - 1 / 500000000000000) := Rat.mul_pos hMpos (by grind)
    grind
theorem homR_ev : ∀ (c : List Int) (x : Rat), homR c x 1 = ev c x
  | [], x => rfl
  | c :: cs, x => by
    have e : ∀ n : Nat, (1 : Rat) ^ n = 1 := fun n => by
      induction n with
      | zero => exact Rat.pow_zero _
      | succ n ih => rw [Rat.pow_succ, ih, Rat.mul_one]
    rw [ev_cons, ← homR_ev cs x]
    show (c : Rat) * 1 ^ cs.length + x * homR cs x 1 = _
    rw [e, Rat.mul_one]
/-- at 1: sine and cosine squared -/
def yI (i : Nat) : List Int := [5 * (2 * (i : Int) + 1), 5]
def gK : Int := 452312848583266388373324160190187140051835877600158453279131187530910662656
def gH (i : Nat) : List Int :=
  let c := homP csI (yI i) [32]; let s := homP snI (yI i) [32]
  addP (addP (mulP c c) (scP 32 (mulP (yI i) (mulP s s)))) [-gK]
theorem gert (i : Nat) (hi : i < 2) : (sumA (gH i) : Int) * 500000000000000 ≤ gK := by
  match i, hi with
  | 0, _ => decide +kernel
  | 1, _ => decide +kernel
/-- a shift by a quarter of the half turn: w + k p, k = 1 or -1; D = 2^50 -/
def pI (k : Int) (c r : Int) : List Int := [c * 2 ^ 42 + k * 884279719003555, r * 2 ^ 42]
def siH (x : List Int) : List Int := mulP x (homP snI (mulP x x) [2 ^ 100])
def coH (x : List Int) : List Int := homP csI (mulP x x) [2 ^ 100]
def s1H (k c r : Int) : List Int :=
  let x := pI k c r; let w := pI 0 c r
  addP (scP (2 ^ 60 * 2 ^ 50) (siH x)) (scP (-815238614083298888) (addP (scP (2 ^ 50) (siH w)) (scP k (coH w))))
def s2H (k c r : Int) : List Int :=
  let x := pI k c r; let w := pI 0 c r
  addP (scP (2 ^ 60) (coH x)) (scP (-815238614083298888) (addP (coH w) (scP (-k * 2 ^ 50) (siH w))))
def okK (k c r : Int) : Prop := (sumA (s1H k c r) : Int) * 400000000000000 ≤ 618970019642690137449562112 * (2 ^ 50) ^ 14 * 2 ^ 60 ∧ (sumA (s2H k c r) : Int) * 400000000000000 ≤ 618970019642690137449562112 * (2 ^ 50) ^ 14 * 2 ^ 60
theorem kert0 : okK 1 (-27) 27 := by unfold okK; decide +kernel
theorem kert1 : okK (-1) 28 28 := by unfold okK; decide +kernel
theorem kert2 : okK (-1) 84 28 := by unfold okK; decide +kernel
/-- steepness -/
def dA : List Int → Nat
  | [] => 0
  | _ :: p => sumA p + dA p
def inter : List Int → List Int
  | [] => []
  | c :: p => c :: 0 :: inter p
theorem ev_inter : ∀ (c : List Int) (x : Rat), ev (inter c) x = ev c (x * x)
  | [], x => rfl
  | c :: p, x => by
    show ev (c :: 0 :: inter p) x = _
    rw [ev_cons, ev_cons, ev_cons, ev_inter p x]
    have e0 : ((0 : Int) : Rat) = 0 := rfl
    rw [e0]
    grind
theorem bd_mul {a b A B : Rat} (ha : Bd a A) (hb : Bd b B) : Bd (a * b) (A * B) := by
  obtain ⟨h1, h2⟩ := ha
  obtain ⟨h3, h4⟩ := hb
  have k1 : 0 ≤ (A - a) * (B - b) := Rat.mul_nonneg (by grind) (by grind)
  have k2 : 0 ≤ (A + a) * (B + b) := Rat.mul_nonneg (by grind) (by grind)
  have k3 : 0 ≤ (A - a) * (B + b) := Rat.mul_nonneg (by grind) (by grind)
  have k4 : 0 ≤ (A + a) * (B - b) := Rat.mul_nonneg (by grind) (by grind)
  constructor <;> grind
theorem ev_lip : ∀ (p : List Int) (x y d : Rat), Bd x 1 → Bd y 1 → Bd (x - y) d → Bd (ev p x - ev p y) ((dA p : Rat) * d)
  | [], x, y, d, _, _, h => by
    have h0 : 0 ≤ d := by unfold Bd at h; grind
    show Bd (0 - 0 : Rat) (((0 : Nat) : Rat) * d)
    unfold Bd
    have e0 : ((0 : Nat) : Rat) = 0 := rfl
    rw [e0]
    constructor <;> grind
  | c :: p, x, y, d, hx, hy, h => by
    have h1 := ev_lip p x y d hx hy h
    have h2 := bd_mul h (ev_bd p x hx)
    have h3 := bd_one hy h1
    have h4 := bd_add h2 h3
    have e : ((dA (c :: p) : Nat) : Rat) = (sumA p : Rat) + (dA p : Rat) := by
      show ((sumA p + dA p : Nat) : Rat) = _
      rw [Rat.natCast_add]
    rw [e, ev_cons, ev_cons]
    have e2 : (c : Rat) + x * ev p x - ((c : Rat) + y * ev p y) = (x - y) * ev p x + y * (ev p x - ev p y) := by grind
    rw [e2]
    have e3 : ((sumA p : Rat) + (dA p : Rat)) * d = d * (sumA p : Rat) + (dA p : Rat) * d := by grind
    rw [e3]
    exact h4
theorem lipS : (dA (0 :: inter snI) : Int) ≤ 2 * 618970019642690137449562112 := by decide +kernel
theorem lipC : (dA (inter csI) : Int) ≤ 2 * 618970019642690137449562112 := by decide +kernel
theorem kG0 : kG ≠ 0 := by unfold kG; decide +kernel
theorem kGp : 0 < kG := by unfold kG; decide +kernel
theorem ev_S (q : Rat) : ev snI q = kG * S1 q := by unfold S1; rw [homR_ev, Rat.mul_comm, Rat.div_mul_cancel kG0]
theorem ev_C (q : Rat) : ev csI q = kG * C1 q := by unfold C1; rw [homR_ev, Rat.mul_comm, Rat.div_mul_cancel kG0]
theorem bd_div {A E M B : Rat} (hM : 0 < M) (h : Bd (M * E) A) (hA : A ≤ M * B) : Bd E B := by
  obtain ⟨h1, h2⟩ := h
  constructor
  · refine Rat.not_lt.1 (fun h => ?_)
    have k : 0 < M * (-B - E) := Rat.mul_pos hM (by grind)
    grind
  · refine Rat.not_lt.1 (fun h => ?_)
    have k : 0 < M * (E - B) := Rat.mul_pos hM (by grind)
    grind
theorem evS_lin (x : Rat) : ev (0 :: inter snI) x = kG * sinP x := by
  rw [ev_cons, ev_inter, ev_S]
  have e0 : ((0 : Int) : Rat) = 0 := rfl
  rw [e0]
  unfold sinP
  grind
theorem evC_lin (x : Rat) : ev (inter csI) x = kG * cosP x := by rw [ev_inter, ev_C]; rfl
theorem lip_le {p : List Int} (h : (dA p : Int) ≤ 2 * 618970019642690137449562112) : (dA p : Rat) ≤ 2 * kG := by
  have := Rat.intCast_le_intCast.2 h
  rw [Rat.intCast_natCast] at this
  have e : ((2 * 618970019642690137449562112 : Int) : Rat) = 2 * kG := by unfold kG; decide +kernel
  rw [e] at this
  exact this
theorem sin_lip {x y d : Rat} (hx : Bd x 1) (hy : Bd y 1) (h : Bd (x - y) d) : Bd (sinP x - sinP y) (2 * d) := by
  have h0 : 0 ≤ d := by unfold Bd at h; grind
  have h1 := ev_lip (0 :: inter snI) x y d hx hy h
  rw [evS_lin, evS_lin] at h1
  have h2 := Rat.mul_le_mul_of_nonneg_right (lip_le lipS) h0
  refine bd_div kGp (A := (dA (0 :: inter snI) : Rat) * d) ?_ (by grind)
  have e : kG * (sinP x - sinP y) = kG * sinP x - kG * sinP y := by grind
  rw [e]
  exact h1
theorem cos_lip {x y d : Rat} (hx : Bd x 1) (hy : Bd y 1) (h : Bd (x - y) d) : Bd (cosP x - cosP y) (2 * d) := by
  have h0 : 0 ≤ d := by unfold Bd at h; grind
  have h1 := ev_lip (inter csI) x y d hx hy h
  rw [evC_lin, evC_lin] at h1
  have h2 := Rat.mul_le_mul_of_nonneg_right (lip_le lipC) h0
  refine bd_div kGp (A := (dA (inter csI) : Rat) * d) ?_ (by grind)
  have e : kG * (cosP x - cosP y) = kG * cosP x - kG * cosP y := by grind
  rw [e]
  exact h1
/-- sine against u times cosine -/
theorem fit_u (u : Rat) (hu : Bd u (661 / 1000)) : 0 < qR (u * u) ∧ Bd (sinP (atanP u) - u * cosP (atanP u)) (1 / 500000000000000) := by
  have h1 := bd_mul hu hu
  have h0 : 0 ≤ u * u := by
    rcases Rat.le_total (a := 0) (b := u) with h | h
    · exact Rat.mul_nonneg h h
    · have := Rat.mul_nonneg (show 0 ≤ -u by grind) (show 0 ≤ -u by grind); grind
  have hz : u * u ≤ 7 / 16 := by unfold Bd at h1; grind
  obtain ⟨i, hi, s, hs, he⟩ : ∃ i, i < 4 ∧ ∃ s, Bd s 1 ∧ ev (zI i) s = 128 * (u * u) := by
    have hs : ∀ (i : Nat) (k : Rat), (i : Rat) = k → 7 * k / 64 ≤ u * u → u * u ≤ 7 * (k + 1) / 64 → ∃ s, Bd s 1 ∧ ev (zI i) s = 128 * (u * u) := fun i k hk h1 h2 => by
      refine ⟨(128 * (u * u) - 7 * (2 * k + 1)) / 7, ⟨by grind, by grind⟩, ?_⟩
      rw [ev_z, hk]
      grind
    by_cases c1 : u * u ≤ 7 / 64
    · exact ⟨0, by decide, hs 0 0 rfl (by grind) (by grind)⟩
    by_cases c2 : u * u ≤ 14 / 64
    · exact ⟨1, by decide, hs 1 1 rfl (by grind) (by grind)⟩
    by_cases c3 : u * u ≤ 21 / 64
    · exact ⟨2, by decide, hs 2 2 rfl (by grind) (by grind)⟩
    · exact ⟨3, by decide, hs 3 3 rfl (by grind) (by grind)⟩
  obtain ⟨hq, hf⟩ := fit i hi s (u * u) hs he
  refine ⟨hq, ?_⟩
  have hb := bd_one (x := u) (by unfold Bd at *; constructor <;> grind) hf
  have e : sinP (atanP u) - u * cosP (atanP u) = u * (nR (u * u) / qR (u * u) * S1 (u * u * (nR (u * u) / qR (u * u)) ^ 2) - C1 (u * u * (nR (u * u) / qR (u * u)) ^ 2)) := by
    unfold sinP cosP atanP
    generalize nR (u * u) / qR (u * u) = r
    have e1 : u * r * (u * r) = u * u * r ^ 2 := by grind
    rw [e1]
    grind
  rw [e]
  exact hb
theorem unit (w : Rat) (hw : Bd w (79 / 100)) : Bd (cosP w * cosP w + sinP w * sinP w - 1) (1 / 500000000000000) := by
  have h1 := bd_mul hw hw
  have h0 : 0 ≤ w * w := by
    rcases Rat.le_total (a := 0) (b := w) with h | h
    · exact Rat.mul_nonneg h h
    · have := Rat.mul_nonneg (show 0 ≤ -w by grind) (show 0 ≤ -w by grind); grind
  obtain ⟨i, hi, s, hs, he⟩ : ∃ i, i < 2 ∧ ∃ s, Bd s 1 ∧ ev (yI i) s = 32 * (w * w) := by
    have hs : ∀ (i : Nat) (k : Rat), (i : Rat) = k → 10 * k / 32 ≤ w * w → w * w ≤ 10 * (k + 1) / 32 → ∃ s, Bd s 1 ∧ ev (yI i) s = 32 * (w * w) := fun i k hk h1 h2 => by
      refine ⟨(32 * (w * w) - 5 * (2 * k + 1)) / 5, ⟨by grind, by grind⟩, ?_⟩
      show ((5 * (2 * (i : Int) + 1) : Int) : Rat) + _ * (((5 : Int) : Rat) + _ * 0) = _
      rw [Rat.intCast_mul, Rat.intCast_add, Rat.intCast_mul, Rat.intCast_natCast, hk]
      have e7 : ((5 : Int) : Rat) = 5 := rfl
      have e2 : ((2 : Int) : Rat) = 2 := rfl
      have e1 : ((1 : Int) : Rat) = 1 := rfl
      rw [e7, e2, e1]
      grind
    by_cases c1 : w * w ≤ 10 / 32
    · exact ⟨0, by decide, hs 0 0 rfl (by grind) (by grind)⟩
    · exact ⟨1, by decide, hs 1 1 rfl (by grind) (by unfold Bd at h1; grind)⟩
  have e32 : ev [32] s = 32 := by
    show ((32 : Int) : Rat) + s * 0 = 32
    have e1 : ((32 : Int) : Rat) = 32 := rfl
    rw [e1]; grind
  have hC := homR_scale csI.tail (csI.headD 0) 32 (w * w) 1
  have hS := homR_scale snI.tail (snI.headD 0) 32 (w * w) 1
  have eS : snI.headD 0 :: snI.tail = snI := rfl
  have eC : csI.headD 0 :: csI.tail = csI := rfl
  have lS : snI.tail.length = 6 := rfl
  have lC : csI.tail.length = 7 := rfl
  rw [eC, lC, Rat.mul_one, homR_ev, ev_C] at hC
  rw [eS, lS, Rat.mul_one, homR_ev, ev_S] at hS
  have hg := gert i hi
  have hb := ev_bd (gH i) s hs
  have hF : ev (gH i) s = kG ^ 2 * 32 ^ 14 * (cosP w * cosP w + sinP w * sinP w - 1) := by
    show ev (addP (addP (mulP (homP csI (yI i) [32]) (homP csI (yI i) [32])) (scP 32 (mulP (yI i) (mulP (homP snI (yI i) [32]) (homP snI (yI i) [32]))))) [-gK]) s = _
    rw [ev_add, ev_add, ev_mul, ev_sc, ev_mul, ev_mul, ev_hom, ev_hom, e32, he, hC, hS]
    have e1 : ((32 : Int) : Rat) = 32 := rfl
    have e2 : ev [-gK] s = -(kG ^ 2 * 32 ^ 14) := by
      show ((-gK : Int) : Rat) + s * 0 = _
      rw [Rat.mul_zero, Rat.add_zero]
      unfold kG gK
      decide +kernel
    rw [e1, e2]
    unfold cosP sinP
    generalize C1 (w * w) = c
    generalize S1 (w * w) = t
    generalize kG = g
    have e3 : (32 : Rat) ^ 7 = 34359738368 := by decide +kernel
    have e4 : (32 : Rat) ^ 6 = 1073741824 := by decide +kernel
    have e5 : (32 : Rat) ^ 14 = 34359738368 * 34359738368 := by decide +kernel
    rw [e3, e4, e5]
    grind
  rw [hF] at hb
  refine bd_div (Rat.mul_pos (pow_pos' kGp 2) (by decide +kernel)) hb ?_
  have h2 := Rat.intCast_le_intCast.2 hg
  have e : (((sumA (gH i) : Int) * 500000000000000 : Int) : Rat) = (sumA (gH i) : Rat) * 500000000000000 := by
    rw [Rat.intCast_mul, Rat.intCast_natCast]; rfl
  have e2 : (gK : Rat) = kG ^ 2 * 32 ^ 14 := by unfold kG gK; decide +kernel
  rw [e, e2] at h2
  grind
def p4 : Rat := 884279719003555 / 2 ^ 50
def rr : Rat := 815238614083298888 / 2 ^ 60
theorem hD : (2 : Rat) ^ 50 = 1125899906842624 ∧ (2 : Rat) ^ 42 = 4398046511104 ∧ (2 : Rat) ^ 100 = 1125899906842624 ^ 2 ∧ (2 : Rat) ^ 60 = 1152921504606846976 := by decide +kernel
theorem ev_p (k c r : Int) (s : Rat) : ev (pI k c r) s = 1125899906842624 * (((c : Rat) + (r : Rat) * s) / 256 + (k : Rat) * p4) := by
  show ((c * 2 ^ 42 + k * 884279719003555 : Int) : Rat) + s * (((r * 2 ^ 42 : Int) : Rat) + s * 0) = _
  rw [Rat.intCast_add, Rat.intCast_mul, Rat.intCast_mul, Rat.intCast_mul]
  have e1 : ((2 ^ 42 : Int) : Rat) = 4398046511104 := by decide +kernel
  have e2 : ((884279719003555 : Int) : Rat) = 884279719003555 := rfl
  rw [e1, e2]
  unfold p4
  rw [hD.1]
  grind
theorem ev_si (X : List Int) (s x : Rat) (h : ev X s = 1125899906842624 * x) : ev (siH X) s = 1125899906842624 ^ 13 * kG * sinP x := by
  have e : ev [2 ^ 100] s = 1125899906842624 ^ 2 := by
    show ((2 ^ 100 : Int) : Rat) + s * 0 = _
    rw [Rat.mul_zero, Rat.add_zero]
    decide +kernel
  have hS := homR_scale snI.tail (snI.headD 0) (1125899906842624 ^ 2) (x * x) 1
  have eS : snI.headD 0 :: snI.tail = snI := rfl
  have lS : snI.tail.length = 6 := rfl
  rw [eS, lS, Rat.mul_one, homR_ev, ev_S] at hS
  unfold siH
  rw [ev_mul, ev_hom, ev_mul, e, h]
  have e2 : (1125899906842624 : Rat) * x * (1125899906842624 * x) = 1125899906842624 ^ 2 * (x * x) := by grind
  rw [e2, hS]
  unfold sinP
  have e3 : ((1125899906842624 : Rat) ^ 2) ^ 6 * 1125899906842624 = 1125899906842624 ^ 13 := by decide +kernel
  rw [← e3]
  generalize ((1125899906842624 : Rat) ^ 2) ^ 6 = t
  generalize S1 (x * x) = y
  generalize kG = g
  grind
theorem ev_co (X : List Int) (s x : Rat) (h : ev X s = 1125899906842624 * x) : ev (coH X) s = 1125899906842624 ^ 14 * kG * cosP x := by
  have e : ev [2 ^ 100] s = 1125899906842624 ^ 2 := by
    show ((2 ^ 100 : Int) : Rat) + s * 0 = _
    rw [Rat.mul_zero, Rat.add_zero]
    decide +kernel
  have hC := homR_scale csI.tail (csI.headD 0) (1125899906842624 ^ 2) (x * x) 1
  have eC : csI.headD 0 :: csI.tail = csI := rfl
  have lC : csI.tail.length = 7 := rfl
  rw [eC, lC, Rat.mul_one, homR_ev, ev_C] at hC
  unfold coH
  rw [ev_hom, ev_mul, e, h]
  have e2 : (1125899906842624 : Rat) * x * (1125899906842624 * x) = 1125899906842624 ^ 2 * (x * x) := by grind
  rw [e2, hC]
  unfold cosP
  have e3 : ((1125899906842624 : Rat) ^ 2) ^ 7 = 1125899906842624 ^ 14 := by decide +kernel
  rw [← e3]
  generalize ((1125899906842624 : Rat) ^ 2) ^ 7 = t
  generalize C1 (x * x) = y
  generalize kG = g
  grind
theorem shift (k c r : Int) (hK : okK k c r) (w s : Rat) (hs : Bd s 1) (hw : w = ((c : Rat) + (r : Rat) * s) / 256) : Bd (sinP (w + (k : Rat) * p4) - rr * (sinP w + (k : Rat) * cosP w)) (1 / 400000000000000) ∧ Bd (cosP (w + (k : Rat) * p4) - rr * (cosP w - (k : Rat) * sinP w)) (1 / 400000000000000) := by
  have hx : ev (pI k c r) s = 1125899906842624 * (w + (k : Rat) * p4) := by rw [ev_p, hw]
  have hy : ev (pI 0 c r) s = 1125899906842624 * w := by
    rw [ev_p, hw]
    have e0 : ((0 : Int) : Rat) = 0 := rfl
    rw [e0]; grind
  have M0 : (0 : Rat) < 1125899906842624 ^ 14 * kG * 1152921504606846976 := Rat.mul_pos (Rat.mul_pos (by decide +kernel) kGp) (by decide +kernel)
  have hR : rr * 1152921504606846976 = 815238614083298888 := by unfold rr; rw [hD.2.2.2]; decide +kernel
  have hA : ∀ n : Nat, ((n : Int) * 400000000000000 ≤ 618970019642690137449562112 * (2 ^ 50) ^ 14 * 2 ^ 60) → (n : Rat) ≤ 1125899906842624 ^ 14 * kG * 1152921504606846976 * (1 / 400000000000000) := fun n h => by
    have h2 := Rat.intCast_le_intCast.2 h
    have e : (((n : Int) * 400000000000000 : Int) : Rat) = (n : Rat) * 400000000000000 := by
      rw [Rat.intCast_mul, Rat.intCast_natCast]; rfl
    have e2 : ((618970019642690137449562112 * (2 ^ 50) ^ 14 * 2 ^ 60 : Int) : Rat) = 1125899906842624 ^ 14 * kG * 1152921504606846976 := by unfold kG; decide +kernel
    rw [e, e2] at h2
    generalize (1125899906842624 : Rat) ^ 14 * kG * 1152921504606846976 = M at *
    grind
  have c1 : ((2 ^ 60 * 2 ^ 50 : Int) : Rat) = 1152921504606846976 * 1125899906842624 := by decide +kernel
  have c2 : ((-815238614083298888 : Int) : Rat) = -815238614083298888 := by decide +kernel
  have c3 : ((2 ^ 50 : Int) : Rat) = 1125899906842624 := by decide +kernel
  have c4 : ((2 ^ 60 : Int) : Rat) = 1152921504606846976 := by decide +kernel
  have c5 : ((-k * 2 ^ 50 : Int) : Rat) = -(k : Rat) * 1125899906842624 := by rw [Rat.intCast_mul, Rat.intCast_neg, c3]
  have c6 : (1125899906842624 : Rat) ^ 14 = 1125899906842624 ^ 13 * 1125899906842624 := by decide +kernel
  constructor
  · refine bd_div M0 ?_ (hA (sumA (s1H k c r)) hK.1)
    have e : 1125899906842624 ^ 14 * kG * 1152921504606846976 * (sinP (w + (k : Rat) * p4) - rr * (sinP w + (k : Rat) * cosP w)) = ev (s1H k c r) s := by
      unfold s1H
      simp only
      rw [ev_add, ev_sc, ev_sc, ev_add, ev_sc, ev_sc, ev_si _ s _ hx, ev_si _ s _ hy, ev_co _ s _ hy, c1, c2, c3, c6, ← hR]
      generalize (1125899906842624 : Rat) ^ 13 = t
      generalize sinP (w + (k : Rat) * p4) = a
      generalize sinP w = b
      generalize cosP w = d
      generalize kG = g
      grind
    rw [e]
    exact ev_bd _ s hs
  · refine bd_div M0 ?_ (hA (sumA (s2H k c r)) hK.2)
    have e : 1125899906842624 ^ 14 * kG * 1152921504606846976 * (cosP (w + (k : Rat) * p4) - rr * (cosP w - (k : Rat) * sinP w)) = ev (s2H k c r) s := by
      unfold s2H
      simp only
      rw [ev_add, ev_sc, ev_sc, ev_add, ev_sc, ev_co _ s _ hx, ev_co _ s _ hy, ev_si _ s _ hy, c2, c4, c5, c6, ← hR]
      generalize (1125899906842624 : Rat) ^ 13 = t
      generalize cosP (w + (k : Rat) * p4) = a
      generalize sinP w = b
      generalize cosP w = d
      generalize kG = g
      grind
    rw [e]
    exact ev_bd _ s hs
theorem loC : 45 * ((618970019642690137449562112 : Nat) : Int) ≤ 100 * (csI.headD 0 - (sumA csI.tail : Int)) := by decide +kernel
theorem sq_bd {w : Rat} (hw : Bd w 1) : Bd (w * w) 1 := by have := bd_mul hw hw; rwa [Rat.mul_one] at this
theorem sq_nn (w : Rat) : 0 ≤ w * w := by
  rcases Rat.le_total (a := 0) (b := w) with h | h
  · exact Rat.mul_nonneg h h
  · have := Rat.mul_nonneg (show 0 ≤ -w by grind) (show 0 ≤ -w by grind); grind
theorem cos_lo (w : Rat) (hw : Bd w 1) : 45 / 100 ≤ cosP w := by
  have h1 := ev_lo csI.tail (csI.headD 0) (w * w) (sq_bd hw)
  have eC : csI.headD 0 :: csI.tail = csI := rfl
  rw [eC, ev_C] at h1
  have h2 := Rat.intCast_le_intCast.2 loC
  have e1 : ((45 * ((618970019642690137449562112 : Nat) : Int) : Int) : Rat) = 45 * kG := by unfold kG; decide +kernel
  have e2 : ((100 * (csI.headD 0 - (sumA csI.tail : Int)) : Int) : Rat) = 100 * ((csI.headD 0 : Rat) - (sumA csI.tail : Rat)) := by
    rw [Rat.intCast_mul, Rat.intCast_sub, Rat.intCast_natCast]; rfl
  rw [e1, e2] at h2
  unfold cosP
  have hg := kGp
  have h3 : 0 ≤ kG * (C1 (w * w) - 45 / 100) := by grind
  refine Rat.not_lt.1 (fun h => ?_)
  have := Rat.mul_pos hg (show 0 < 45 / 100 - C1 (w * w) by grind)
  grind
theorem bd_sq {a A : Rat} (h : a * a ≤ A * A) (hA : 0 ≤ A) : Bd a A := by
  constructor
  · refine Rat.not_lt.1 (fun q => ?_)
    have := Rat.mul_pos (show 0 < -A - a by grind) (show 0 < A - a by grind)
    grind
  · refine Rat.not_lt.1 (fun q => ?_)
    have := Rat.mul_pos (show 0 < a - A by grind) (show 0 < a + A by grind)
    grind
/-- two directions that lie nearly along each other: p, q and c, s nearly of length one -/
theorem polar1 (p q c s d : Rat) (hd : 0 ≤ d ∧ d ≤ 1 / 1000) (h1 : Bd (p * p + q * q - 1) d) (h2 : Bd (c * c + s * s - 1) d) (hx : Bd (q * c - p * s) d) (hy : 0 ≤ p * c + q * s) : Bd (p - c) (9 * d) ∧ Bd (q - s) (9 * d) := by
  obtain ⟨d0, d1⟩ := hd
  have one : ∀ a b : Rat, Bd (a * a + b * b - 1) d → Bd a (11 / 10) := fun a b h => by
    refine bd_sq ?_ (by decide +kernel)
    have := sq_nn b
    unfold Bd at h
    grind
  have hc := one c s h2
  have hs : Bd s (11 / 10) := one s c (by have e : s * s + c * c - 1 = c * c + s * s - 1 := by grind
                                          rw [e]; exact h2)
  -- the dot product
  have key : (p * c + q * s) * (p * c + q * s) + (q * c - p * s) * (q * c - p * s) = (p * p + q * q) * (c * c + s * s) := by grind
  have hprod : Bd ((p * p + q * q) * (c * c + s * s) - 1) (3 * d) := by
    have e : (p * p + q * q) * (c * c + s * s) - 1 = (p * p + q * q - 1) * (c * c + s * s - 1) + ((p * p + q * q - 1) + (c * c + s * s - 1)) := by grind
    rw [e]
    have b1 := bd_mul h1 h2
    have b2 := bd_add h1 h2
    have b3 := bd_add b1 b2
    have : d * d ≤ d := by
      have := Rat.mul_nonneg d0 (show 0 ≤ 1 - d by grind)
      grind
    unfold Bd at *
    constructor <;> grind
  have hxx : Bd ((q * c - p * s) * (q * c - p * s)) d := by
    have b1 := bd_mul hx hx
    have : d * d ≤ d := by
      have := Rat.mul_nonneg d0 (show 0 ≤ 1 - d by grind)
      grind
    unfold Bd at *
    constructor <;> grind
  generalize hY : p * c + q * s = y at *
  generalize hX : q * c - p * s = x at *
  have hyy : Bd (y * y - 1) (4 * d) := by unfold Bd at *; constructor <;> grind
  have hy1 : Bd (y - 1) (4 * d) := by
    have e : y * y - 1 = (y - 1) * (y + 1) := by grind
    rw [e] at hyy
    obtain ⟨k1, k2⟩ := hyy
    constructor
    · refine Rat.not_lt.1 (fun h => ?_)
      have := Rat.mul_nonneg (show 0 ≤ -(y - 1) - 4 * d by grind) hy
      have := Rat.mul_nonneg d0 hy
      grind
    · refine Rat.not_lt.1 (fun h => ?_)
      have := Rat.mul_nonneg (show 0 ≤ (y - 1) - 4 * d by grind) hy
      have := Rat.mul_nonneg d0 hy
      grind
  have hN : 999 / 1000 ≤ c * c + s * s := by unfold Bd at h2; grind
  have fin : ∀ P c s x : Rat, (c * c + s * s) * P = y * c - x * s → Bd c (11 / 10) → Bd s (11 / 10) → Bd x d → 999 / 1000 ≤ c * c + s * s → Bd (c * c + s * s - 1) d → Bd (P - c) (9 * d) := fun P c s x e hc hs hx hN h2 => by
    have e2 : (c * c + s * s) * (P - c) = ((y - 1) - (c * c + s * s - 1)) * c + (-x) * s := by grind
    have b1 : Bd ((y - 1) - (c * c + s * s - 1)) (5 * d) := by unfold Bd at *; constructor <;> grind
    have b2 := bd_mul b1 hc
    have b3 : Bd (-x) d := by unfold Bd at *; constructor <;> grind
    have b4 := bd_mul b3 hs
    have b5 := bd_add b2 b4
    rw [← e2] at b5
    refine bd_div (by grind) b5 ?_
    have := Rat.mul_nonneg d0 (show 0 ≤ (c * c + s * s) - 999 / 1000 by grind)
    grind
  refine ⟨fin p c s x (by rw [← hY, ← hX]; grind) hc hs hx hN h2, ?_⟩
  have h2' : Bd (s * s + c * c - 1) d := by
    have e : s * s + c * c - 1 = c * c + s * s - 1 := by grind
    rw [e]; exact h2
  exact fin q s c (-x) (by rw [← hY, ← hX]; grind) hs hc (by unfold Bd at *; constructor <;> grind) (by grind) h2'
theorem bd_mono {a A B : Rat} (h : Bd a A) (hb : A ≤ B) : Bd a B := by unfold Bd at *; constructor <;> grind
theorem bd_neg {a A : Rat} (h : Bd a A) : Bd (-a) A := by unfold Bd at *; constructor <;> grind
theorem len_bd {a b e : Rat} (he : e ≤ 1 / 1000000) (h : Bd (a * a + b * b - 1) e) : Bd a (101 / 100) := by
  refine bd_sq ?_ (by decide +kernel)
  have := sq_nn b
  unfold Bd at h
  grind
theorem bd_nn {a A : Rat} (h : Bd a A) : 0 ≤ A := by unfold Bd at h; grind
/-- a direction near a target one -/
theorem near_dir (p q C S c s e : Rat) (he0 : 0 ≤ e) (he : e ≤ 1 / 1000000) (hn : Bd (p * p + q * q - 1) e) (hU : Bd (C * C + S * S - 1) e) (hx : Bd (q * C - p * S) (3 * e)) (hdot : 1 / 100 ≤ p * C + q * S) (hc : Bd (c - C) e) (hs : Bd (s - S) e) : Bd (p - c) (54 * e) ∧ Bd (q - s) (54 * e) := by
  have hp := len_bd he hn
  have hq : Bd q (101 / 100) := len_bd (b := p) he (by have e1 : q * q + p * p - 1 = p * p + q * q - 1 := by grind
                                                       rw [e1]; exact hn)
  have hC := len_bd he hU
  have hS : Bd S (101 / 100) := len_bd (b := C) he (by have e1 : S * S + C * C - 1 = C * C + S * S - 1 := by grind
                                                       rw [e1]; exact hU)
  have k1 := bd_mul hq hc
  have k2 := bd_mul hp hs
  have k3 := bd_mul hp hc
  have k4 := bd_mul hq hs
  have hX : Bd (q * c - p * s) (6 * e) := by
    have e1 : q * c - p * s = (q * C - p * S) + (q * (c - C) + -(p * (s - S))) := by grind
    rw [e1]
    exact bd_mono (bd_add hx (bd_add k1 (bd_neg k2))) (by grind)
  have hD : 0 ≤ p * c + q * s := by
    have e1 : p * c + q * s = (p * C + q * S) + (p * (c - C) + q * (s - S)) := by grind
    have k5 := bd_add k3 k4
    rw [e1]
    unfold Bd at k5
    grind
  have hV : Bd (c * c + s * s - 1) (6 * e) := by
    have m1 : Bd (c + C) (203 / 100) := by
      have e1 : c + C = (c - C) + (C + C) := by grind
      rw [e1]
      exact bd_mono (bd_add hc (bd_add hC hC)) (by grind)
    have m2 : Bd (s + S) (203 / 100) := by
      have e1 : s + S = (s - S) + (S + S) := by grind
      rw [e1]
      exact bd_mono (bd_add hs (bd_add hS hS)) (by grind)
    have e1 : c * c + s * s - 1 = (C * C + S * S - 1) + ((c - C) * (c + C) + (s - S) * (s + S)) := by grind
    rw [e1]
    exact bd_mono (bd_add hU (bd_add (bd_mul hc m1) (bd_mul hs m2))) (by grind)
  have := polar1 p q c s (6 * e) ⟨by grind, by grind⟩ (bd_mono hn (by grind)) hV hX hD
  exact ⟨bd_mono this.1 (by grind), bd_mono this.2 (by grind)⟩
theorem brA (p q u c s e : Rat) (he0 : 1 / 500000000000000 ≤ e) (he : e ≤ 1 / 1000000) (hu0 : 0 ≤ u) (hu : u ≤ 661 / 1000) (hp : 0 ≤ p) (hq : 0 ≤ q) (hn : Bd (p * p + q * q - 1) e) (hr : Bd (q - u * p) e) (hA : Bd (atanP u) (79 / 100)) (hc : Bd (c - cosP (atanP u)) e) (hs : Bd (s - sinP (atanP u)) e) : Bd (p - c) (54 * e) ∧ Bd (q - s) (54 * e) := by
  have hf := (fit_u u (by unfold Bd; constructor <;> grind)).2
  have hU := bd_mono (unit (atanP u) hA) (show _ ≤ e by grind)
  have hl := cos_lo (atanP u) (bd_mono hA (by decide +kernel))
  generalize cosP (atanP u) = C at *
  generalize sinP (atanP u) = S at *
  have hp1 := len_bd he hn
  have hq1 : Bd q (101 / 100) := len_bd (b := p) he (by have e1 : q * q + p * p - 1 = p * p + q * q - 1 := by grind
                                                        rw [e1]; exact hn)
  have hC1 := len_bd he hU
  have hf1 := bd_mono hf (show _ ≤ e by grind)
  refine near_dir p q C S c s e (by grind) he hn hU ?_ ?_ hc hs
  · have e1 : q * C - p * S = (q - u * p) * C + -(p * (S - u * C)) := by grind
    rw [e1]
    exact bd_mono (bd_add (bd_mul hr hC1) (bd_neg (bd_mul hp1 hf1))) (by grind)
  · have hpl : 1 / 10 ≤ p := by
      refine Rat.not_lt.1 (fun h => ?_)
      have m1 : Bd p (1 / 10) := by unfold Bd; constructor <;> grind
      have m2 : q ≤ 1 / 10 := by
        have := Rat.mul_nonneg (show 0 ≤ 661 / 1000 - u by grind) hp
        unfold Bd at hr
        grind
      have m3 : Bd q (1 / 10) := by unfold Bd; constructor <;> grind
      have m4 := bd_mul m1 m1
      have m5 := bd_mul m3 m3
      unfold Bd at hn m4 m5
      grind
    have m1 := Rat.mul_nonneg (show 0 ≤ p - 1 / 10 by grind) (show 0 ≤ C - 45 / 100 by grind)
    have m2 := Rat.mul_nonneg hq (Rat.mul_nonneg hu0 (show 0 ≤ C by grind))
    have m3 := bd_mul hq1 hf1
    unfold Bd at m3
    grind
theorem rr_sq : Bd (2 * (rr * rr) - 1) (1 / 10 ^ 16) := by unfold Bd rr; constructor <;> decide +kernel
theorem rr_bd : 7 / 10 ≤ rr ∧ rr ≤ 71 / 100 := by unfold rr; constructor <;> decide +kernel
theorem brC (p q v c s e : Rat) (he0 : 1 / 500000000000000 ≤ e) (he : e ≤ 1 / 2000000) (hv : Bd v (42 / 100)) (hp : 0 ≤ p) (hq : 0 ≤ q) (hn : Bd (p * p + q * q - 1) e) (hr : Bd ((q - p) - v * (p + q)) e) (hA : Bd (atanP v) (79 / 100)) (hc : Bd (c - rr * (cosP (atanP v) - sinP (atanP v))) e) (hs : Bd (s - rr * (cosP (atanP v) + sinP (atanP v))) e) : Bd (p - c) (108 * e) ∧ Bd (q - s) (108 * e) := by
  have hf := (fit_u v (bd_mono hv (by decide +kernel))).2
  have hU := unit (atanP v) hA
  have hl := cos_lo (atanP v) (bd_mono hA (by decide +kernel))
  generalize cosP (atanP v) = C at *
  generalize sinP (atanP v) = S at *
  have he' : e ≤ 1 / 1000000 := by grind
  have hp1 := len_bd he' hn
  have hq1 : Bd q (101 / 100) := len_bd (b := p) he' (by have e1 : q * q + p * p - 1 = p * p + q * q - 1 := by grind
                                                         rw [e1]; exact hn)
  have hC1 := len_bd (e := 1 / 1000000) (by decide +kernel) (bd_mono hU (by decide +kernel))
  have hf1 := bd_mono hf (show _ ≤ e by grind)
  have hpq := bd_add hp1 hq1
  have hrr : Bd rr (71 / 100) := by have := rr_bd; unfold Bd; constructor <;> grind
  have key := near_dir p q (rr * (C - S)) (rr * (C + S)) c s (2 * e) (by grind) (by grind) (bd_mono hn (by grind)) ?_ ?_ ?_ (bd_mono hc (by grind)) (bd_mono hs (by grind))
  · exact ⟨bd_mono key.1 (by grind), bd_mono key.2 (by grind)⟩
  · have e1 : rr * (C - S) * (rr * (C - S)) + rr * (C + S) * (rr * (C + S)) - 1 = (2 * (rr * rr) - 1) * (C * C + S * S - 1) + ((2 * (rr * rr) - 1) + (C * C + S * S - 1)) := by grind
    rw [e1]
    refine bd_mono (bd_add (bd_mul rr_sq hU) (bd_add rr_sq hU)) ?_
    have : (1 : Rat) / 10 ^ 16 * (1 / 500000000000000) + (1 / 10 ^ 16 + 1 / 500000000000000) ≤ 1 / 250000000000000 := by decide +kernel
    grind
  · have e1 : q * (rr * (C - S)) - p * (rr * (C + S)) = rr * (((q - p) - v * (p + q)) * C + -((p + q) * (S - v * C))) := by grind
    rw [e1]
    refine bd_mono (bd_mul hrr (bd_add (bd_mul hr hC1) (bd_neg (bd_mul hpq hf1)))) (by grind)
  · have e1 : p * (rr * (C - S)) + q * (rr * (C + S)) = rr * ((p + q) * C + ((q - p) * (S - v * C) + ((q - p) - v * (p + q)) * (v * C) + v * v * ((p + q) * C))) := by grind
    have hs2 : 9 / 10 ≤ p + q := by
      refine Rat.not_lt.1 (fun h => ?_)
      have m1 : Bd (p + q) (9 / 10) := by unfold Bd; constructor <;> grind
      have m2 := bd_mul m1 m1
      have m3 := Rat.mul_nonneg hp hq
      unfold Bd at m2 hn
      grind
    have hqp : Bd (q - p) (202 / 100) := by
      have := bd_add hq1 (bd_neg hp1)
      have e2 : q + -p = q - p := by grind
      rw [e2] at this
      exact bd_mono this (by decide +kernel)
    have m1 := bd_mul hqp hf1
    have m2 := bd_mul hr (bd_mul hv hC1)
    have m3 := bd_add m1 m2
    have m4 := Rat.mul_nonneg (show 0 ≤ p + q - 9 / 10 by grind) (show 0 ≤ C - 45 / 100 by grind)
    have m5 := Rat.mul_nonneg (sq_nn v) (Rat.mul_nonneg (show 0 ≤ p + q by grind) (show 0 ≤ C by grind))
    have m6 : 4 / 10 ≤ (p + q) * C + ((q - p) * (S - v * C) + ((q - p) - v * (p + q)) * (v * C) + v * v * ((p + q) * C)) := by
      unfold Bd at m3
      grind
    rw [e1]
    have m7 := Rat.mul_nonneg (show 0 ≤ rr - 7 / 10 by have := rr_bd; grind) (show 0 ≤ (p + q) * C + ((q - p) * (S - v * C) + ((q - p) - v * (p + q)) * (v * C) + v * v * ((p + q) * C)) - 4 / 10 by grind)
    have := rr_bd
    grind
end Go.Proofs.YtkbgkogfjfojgaaDoor.Pc
