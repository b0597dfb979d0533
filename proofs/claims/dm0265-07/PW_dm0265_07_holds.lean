import PyProof.Rows.All
import Wide.All
import OpenK.AllK
import Wide.FinOn
import PySem.Challenge.RW_dm0265_07
open PySem PySem.W PyProof.Rows PySem.Spec PySem.Calls
set_option Elab.async false
set_option maxRecDepth 100000
set_option autoImplicit false
set_option linter.all false
namespace Mine
/-! the discrete exponential: powers of 1 + d for a tiny d -/
theorem rmul {a b c d : Rat} (ha : 0 ≤ a) (hd : 0 ≤ d) (h1 : a ≤ b) (h2 : c ≤ d) : a * c ≤ b * d :=
  Rat.le_trans (Rat.mul_le_mul_of_nonneg_left h2 ha) (Rat.mul_le_mul_of_nonneg_right h1 hd)
noncomputable def ex (d : Rat) (p : Int) : Rat := (1 + d) ^ p
section
variable {d : Rat} (hd : 0 < d)
include hd
theorem ex_ne : (1 + d) ≠ 0 := by grind
theorem ex_pos (p : Int) : 0 < ex d p := Rat.zpow_pos (by first | with_reducible assumption | with_reducible exact Rat.le_of_lt (by assumption) | grind)
omit hd in
theorem ex_zero : ex d 0 = 1 := Rat.zpow_zero _
theorem ex_add (p q : Int) : ex d (p + q) = ex d p * ex d q := Rat.zpow_add (ex_ne hd) p q
theorem ex_succ (p : Int) : ex d (p + 1) = ex d p * (1 + d) := Rat.zpow_add_one (ex_ne hd) p
theorem ex_neg (p : Int) : ex d p * ex d (-p) = 1 := by rw [← ex_add hd, Int.add_right_neg, ex_zero]
theorem ex_two (p : Int) : ex d (2 * p) = ex d p * ex d p := by rw [← ex_add hd]; congr 1; omega
theorem ex_ge_nat (n : Nat) : 1 + (n : Rat) * d ≤ ex d (n : Int) := by
  induction n with
  | zero => rw [show ((0 : Nat) : Int) = 0 from rfl, ex_zero]; grind
  | succ n ih =>
    rw [show ((n + 1 : Nat) : Int) = (n : Int) + 1 by omega, ex_succ hd, show ((n + 1 : Nat) : Rat) = (n : Rat) + 1 by norm_cast]
    have h1 := Rat.mul_le_mul_of_nonneg_right ih (show 0 ≤ 1 + d by grind)
    have h2 : 0 ≤ (n : Rat) * d * d := Rat.mul_nonneg (Rat.mul_nonneg Rat.natCast_nonneg (by first | with_reducible assumption | with_reducible exact Rat.le_of_lt (by assumption) | grind)) (by first | with_reducible assumption | with_reducible exact Rat.le_of_lt (by assumption) | grind)
    grind
theorem ex_neg_nat (n : Nat) : 1 - (n : Rat) * d ≤ ex d (-(n : Int)) := by
  induction n with
  | zero => rw [show (-((0 : Nat) : Int)) = 0 from rfl, ex_zero]; grind
  | succ n ih =>
    have e := ex_succ hd (-((n + 1 : Nat) : Int))
    rw [show -((n + 1 : Nat) : Int) + 1 = -(n : Int) by omega] at e
    have e1 : ex d (-(n : Int)) ≤ 1 := by
      have h1 := ex_ge_nat hd n
      have h2 := ex_neg hd (n : Int)
      have h3 := ex_pos hd (-(n : Int))
      have h4 : 0 ≤ (n : Rat) * d := Rat.mul_nonneg Rat.natCast_nonneg (by first | with_reducible assumption | with_reducible exact Rat.le_of_lt (by assumption) | grind)
      have h5 := Rat.mul_le_mul_of_nonneg_right (show 1 ≤ ex d (n : Int) by grind) (show 0 ≤ ex d (-(n : Int)) by grind)
      grind
    have h6 : ex d (-((n + 1 : Nat) : Int)) ≤ ex d (-(n : Int)) := by
      have h3 := ex_pos hd (-((n + 1 : Nat) : Int))
      have := Rat.mul_nonneg (show 0 ≤ ex d (-((n + 1 : Nat) : Int)) by grind) (show 0 ≤ d by grind)
      grind
    have h7 := Rat.mul_le_mul_of_nonneg_right (show ex d (-((n + 1 : Nat) : Int)) ≤ 1 by grind) (show 0 ≤ d by grind)
    rw [show ((n + 1 : Nat) : Rat) = (n : Rat) + 1 by norm_cast]
    grind
/-- 1 + x is at most exp x -/
theorem ex_ge (p : Int) : 1 + (p : Rat) * d ≤ ex d p := by
  by_cases h : 0 ≤ p
  · obtain ⟨n, rfl⟩ := Int.eq_ofNat_of_zero_le h
    exact ex_ge_nat hd n
  · obtain ⟨n, hn⟩ := Int.eq_ofNat_of_zero_le (show 0 ≤ -p by omega)
    have : p = -(n : Int) := by omega
    subst this
    have := ex_neg_nat hd n
    rw [Rat.intCast_neg, Rat.intCast_natCast]
    grind
/-- exp x is at most 1 / (1 - x) -/
theorem ex_le (p : Int) : (1 - (p : Rat) * d) * ex d p ≤ 1 := by
  have h1 := ex_ge hd (-p)
  have h2 := ex_pos hd p
  rw [Rat.intCast_neg] at h1
  have h3 := Rat.mul_le_mul_of_nonneg_right h1 (Rat.le_of_lt h2)
  have h4 := ex_neg hd p
  grind
theorem ex_mono {p q : Int} (h : p ≤ q) : ex d p ≤ ex d q := by
  have e : q = p + (q - p) := by omega
  rw [e, ex_add hd]
  have h1 := ex_ge hd (q - p)
  have h2 := ex_pos hd p
  have h3 : 0 ≤ ((q - p : Int) : Rat) := Rat.intCast_nonneg.mpr (by first | with_reducible assumption | with_reducible exact Int.le_of_lt (by assumption) | with_reducible exact Nat.le_of_lt (by assumption) | omega)
  have h4 := Rat.mul_nonneg h3 (Rat.le_of_lt hd)
  have := Rat.mul_le_mul_of_nonneg_left (show 1 ≤ ex d (q - p) by grind) (Rat.le_of_lt h2)
  grind
theorem ex_one_le {p : Int} (h : 0 ≤ p) : 1 ≤ ex d p := by
  have := ex_mono hd h
  rwa [ex_zero] at this
theorem ex_le_one {p : Int} (h : p ≤ 0) : ex d p ≤ 1 := by
  have := ex_mono hd h
  rwa [ex_zero] at this
end

/-! the rows of exp -/
noncomputable def tm : Nat → Rat → Rat
  | 0, _ => 1
  | n + 1, x => tm n x * x / ((n : Rat) + 1)
noncomputable def sm : Nat → Rat → Rat
  | 0, _ => 1
  | n + 1, x => sm n x + tm (n + 1) x
theorem npos (n : Nat) : (0 : Rat) < (n : Rat) + 1 := by
  have : (0 : Rat) ≤ (n : Rat) := Rat.natCast_nonneg
  grind
theorem tm_succ (n : Nat) (x : Rat) : ((n : Rat) + 1) * tm (n + 1) x = tm n x * x := by
  have := npos n
  show ((n : Rat) + 1) * (tm n x * x / ((n : Rat) + 1)) = _
  grind
theorem tm_nonneg {x : Rat} (hx : 0 ≤ x) (n : Nat) : 0 ≤ tm n x := by
  induction n with
  | zero => show (0 : Rat) ≤ 1; decide
  | succ n ih =>
    have h1 := tm_succ n x
    have h2 := Rat.mul_nonneg ih hx
    have h3 := npos n
    refine Rat.not_lt.mp fun hlt => ?_
    have := Rat.mul_lt_mul_of_pos_left hlt h3
    grind
theorem sm_ge_one {x : Rat} (hx : 0 ≤ x) (n : Nat) : 1 ≤ sm n x := by
  induction n with
  | zero => exact Rat.le_refl
  | succ n ih =>
    have := tm_nonneg hx (n + 1)
    show 1 ≤ sm n x + tm (n + 1) x
    grind
theorem div_le' {a b c : Rat} (hc : 0 < c) (h : c * a ≤ c * b) : a ≤ b := Rat.le_of_mul_le_mul_left h hc
/-- a row's growth, from below -/
theorem tm_lo {x d : Rat} (hx : 0 ≤ x) (hd : 0 ≤ d) (n : Nat) : tm (n + 1) x + d * tm n x ≤ tm (n + 1) (x + d) := by
  induction n with
  | zero =>
    show 1 * x / (((0 : Nat) : Rat) + 1) + d * 1 ≤ 1 * (x + d) / (((0 : Nat) : Rat) + 1)
    rw [show ((0 : Nat) : Rat) = 0 from rfl]
    grind
  | succ n ih =>
    have h1 := tm_succ (n + 1) x
    have h2 := tm_succ (n + 1) (x + d)
    have h3 := tm_succ n x
    have h4 := Rat.mul_le_mul_of_nonneg_right ih (show 0 ≤ x + d by grind)
    have h5 := Rat.mul_nonneg (Rat.mul_nonneg hd hd) (tm_nonneg hx n)
    have h6 := npos (n + 1)
    rw [show ((n + 1 : Nat) : Rat) = (n : Rat) + 1 by norm_cast] at *
    refine div_le' h6 ?_
    generalize tm (n + 1 + 1) (x + d) = a at *
    generalize tm (n + 1 + 1) x = b at *
    generalize tm (n + 1) (x + d) = a' at *
    generalize tm (n + 1) x = b' at *
    generalize tm n x = c at *
    have h7 : d * (((n : Rat) + 1) * b') = d * (c * x) := by rw [h3]
    grind
/-- and from above -/
theorem tm_hi {x d : Rat} (hx : 0 ≤ x) (hd : 0 ≤ d) (n : Nat) : tm (n + 1) (x + d) ≤ tm (n + 1) x + d * tm n (x + d) := by
  induction n with
  | zero =>
    show 1 * (x + d) / (((0 : Nat) : Rat) + 1) ≤ 1 * x / (((0 : Nat) : Rat) + 1) + d * 1
    rw [show ((0 : Nat) : Rat) = 0 from rfl]
    grind
  | succ n ih =>
    have h1 := tm_succ (n + 1) x
    have h2 := tm_succ (n + 1) (x + d)
    have h3 := tm_succ n (x + d)
    have h4 := Rat.mul_le_mul_of_nonneg_right ih hx
    have h5 := Rat.mul_nonneg (Rat.mul_nonneg hd hd) (tm_nonneg (show 0 ≤ x + d by grind) n)
    have h6 := npos (n + 1)
    rw [show ((n + 1 : Nat) : Rat) = (n : Rat) + 1 by norm_cast] at *
    refine div_le' h6 ?_
    generalize tm (n + 1 + 1) (x + d) = a at *
    generalize tm (n + 1 + 1) x = b at *
    generalize tm (n + 1) (x + d) = a' at *
    generalize tm (n + 1) x = b' at *
    generalize tm n (x + d) = c at *
    have h7 : d * (((n : Rat) + 1) * a') = d * (c * (x + d)) := by rw [h3]
    grind
theorem tm_mono {x y : Rat} (hx : 0 ≤ x) (h : x ≤ y) (n : Nat) : tm n x ≤ tm n y := by
  cases n with
  | zero => exact Rat.le_refl
  | succ n =>
    have := tm_lo hx (show 0 ≤ y - x by grind) n
    have h2 := Rat.mul_nonneg (show 0 ≤ y - x by grind) (tm_nonneg hx n)
    rw [show x + (y - x) = y by grind] at this
    grind
theorem sm_mono {x y : Rat} (hx : 0 ≤ x) (h : x ≤ y) (n : Nat) : sm n x ≤ sm n y := by
  induction n with
  | zero => exact Rat.le_refl
  | succ n ih =>
    have := tm_mono hx h (n + 1)
    show sm n x + tm (n + 1) x ≤ sm n y + tm (n + 1) y
    grind

theorem sm_succ (T : Nat) (x : Rat) : sm (T + 1) x = sm T x + tm (T + 1) x := rfl
theorem tm_one (x : Rat) : tm 1 x = x := by
  show 1 * x / (((0 : Nat) : Rat) + 1) = x
  rw [show ((0 : Nat) : Rat) = 0 from rfl]
  grind
theorem tm_zero (n : Nat) : tm (n + 1) 0 = 0 := by
  show tm n 0 * 0 / ((n : Rat) + 1) = 0
  rw [Rat.mul_zero, Rat.div_def, Rat.zero_mul]
theorem sm_zero (n : Nat) : sm n 0 = 1 := by
  induction n with
  | zero => rfl
  | succ n ih => rw [sm_succ, ih, tm_zero]; grind
theorem sm_lo {x d : Rat} (hx : 0 ≤ x) (hd : 0 ≤ d) (T : Nat) : sm (T + 1) x + d * sm T x ≤ sm (T + 1) (x + d) := by
  induction T with
  | zero => have := tm_lo hx hd 0; show 1 + tm 1 x + d * 1 ≤ 1 + tm 1 (x + d); have e : tm 0 x = 1 := rfl; rw [e] at this; grind
  | succ T ih =>
    have := tm_lo hx hd (T + 1)
    rw [sm_succ (T + 1), sm_succ (T + 1)]
    have e : d * sm (T + 1) x = d * sm T x + d * tm (T + 1) x := by rw [sm_succ]; grind
    grind
theorem sm_hi {x d : Rat} (hx : 0 ≤ x) (hd : 0 ≤ d) (T : Nat) : sm (T + 1) (x + d) ≤ sm (T + 1) x + d * sm T (x + d) := by
  induction T with
  | zero => have := tm_hi hx hd 0; show 1 + tm 1 (x + d) ≤ 1 + tm 1 x + d * 1; have e : tm 0 (x + d) = 1 := rfl; rw [e] at this; grind
  | succ T ih =>
    have := tm_hi hx hd (T + 1)
    rw [sm_succ (T + 1), sm_succ (T + 1)]
    have e : d * sm (T + 1) (x + d) = d * sm T (x + d) + d * tm (T + 1) (x + d) := by rw [sm_succ]; grind
    grind
theorem sm_hi' {x d : Rat} (hx : 0 ≤ x) (hd : 0 ≤ d) (T : Nat) : sm T (x + d) * (1 - d) ≤ sm T x := by
  cases T with
  | zero => show 1 * (1 - d) ≤ 1; grind
  | succ T =>
    have h1 := sm_hi hx hd T
    have h2 := tm_nonneg (show 0 ≤ x + d by grind) (T + 1)
    have h3 := Rat.mul_nonneg hd h2
    have e := sm_succ T (x + d)
    have e2 : d * sm (T + 1) (x + d) = d * sm T (x + d) + d * tm (T + 1) (x + d) := by rw [e]; grind
    grind
theorem cast_succ (n : Nat) : ((n + 1 : Nat) : Rat) = (n : Rat) + 1 := by norm_cast
section
variable {d : Rat} (hd : 0 < d)
include hd
/-- the rows and what they leave out, from above -/
theorem ex_up (T p : Nat) : ex d p ≤ sm T ((p : Rat) * d) + tm (T + 1) ((p : Rat) * d) * ex d p := by
  induction T generalizing p with
  | zero =>
    have := ex_le hd (p : Int)
    rw [Rat.intCast_natCast] at this
    rw [tm_one]
    show ex d p ≤ 1 + _
    grind
  | succ T ih =>
    induction p with
    | zero =>
      rw [show (((0 : Nat) : Int)) = 0 from rfl, ex_zero]
      have h1 := sm_ge_one (x := ((0 : Nat) : Rat) * d) (by rw [show ((0 : Nat) : Rat) = 0 from rfl]; grind) (T + 1)
      have h2 := tm_nonneg (x := ((0 : Nat) : Rat) * d) (by rw [show ((0 : Nat) : Rat) = 0 from rfl]; grind) (T + 1 + 1)
      grind
    | succ p ihp =>
      have hx : 0 ≤ (p : Rat) * d := Rat.mul_nonneg Rat.natCast_nonneg (Rat.le_of_lt hd)
      have e1 : ex d ((p + 1 : Nat) : Int) = ex d p * (1 + d) := by rw [show ((p + 1 : Nat) : Int) = (p : Int) + 1 by omega, ex_succ hd]
      have e2 : ((p + 1 : Nat) : Rat) * d = (p : Rat) * d + d := by rw [cast_succ]; grind
      have h1 := ih p
      have h2 := sm_lo hx (Rat.le_of_lt hd) T
      have h3 := tm_lo hx (Rat.le_of_lt hd) (T + 1)
      have h4 := ex_pos hd p
      have h5 := tm_nonneg (show 0 ≤ (p : Rat) * d + d by grind) (T + 1 + 1)
      rw [e1, e2]
      generalize (p : Rat) * d = x at *
      generalize sm (T + 1) (x + d) = s' at *
      generalize tm (T + 1 + 1) (x + d) = t' at *
      generalize tm (T + 1 + 1) x = t2 at *
      generalize tm (T + 1) x = t1 at *
      generalize sm (T + 1) x = s1 at *
      generalize sm T x = s0 at *
      generalize ex d p = e at *
      have h6 := Rat.mul_le_mul_of_nonneg_right h3 (Rat.le_of_lt h4)
      have h7 := Rat.mul_le_mul_of_nonneg_left h1 (Rat.le_of_lt hd)
      have h8 := Rat.mul_nonneg (Rat.mul_nonneg h5 (Rat.le_of_lt h4)) (Rat.le_of_lt hd)
      grind
/-- and from below -/
theorem ex_dn (T p : Nat) (h : (p : Rat) * d * d ≤ 1) : sm T ((p : Rat) * d) * (1 - (p : Rat) * d * d) ≤ ex d p := by
  induction p with
  | zero =>
    rw [show (((0 : Nat) : Int)) = 0 from rfl, ex_zero, show ((0 : Nat) : Rat) * d = 0 by rw [show ((0 : Nat) : Rat) = 0 from rfl]; grind]
    rw [sm_zero]
    grind
  | succ p ih =>
    have hx : 0 ≤ (p : Rat) * d := Rat.mul_nonneg Rat.natCast_nonneg (Rat.le_of_lt hd)
    have e1 : ex d ((p + 1 : Nat) : Int) = ex d p * (1 + d) := by rw [show ((p + 1 : Nat) : Int) = (p : Int) + 1 by omega, ex_succ hd]
    have e2 : ((p + 1 : Nat) : Rat) * d = (p : Rat) * d + d := by rw [cast_succ]; grind
    rw [e2] at h
    have hdd : 0 < d * d := Rat.mul_pos hd hd
    have h1 := ih (by first | with_reducible assumption | with_reducible exact Rat.le_of_lt (by assumption) | grind)
    have h2 := sm_hi' hx (Rat.le_of_lt hd) T
    have h3 := sm_ge_one (show 0 ≤ (p : Rat) * d + d by grind) T
    have h4 : 0 ≤ 1 - (p : Rat) * d * d := by grind
    rw [e1, e2]
    have h0 : 0 ≤ (p : Rat) * d * d := Rat.mul_nonneg hx (Rat.le_of_lt hd)
    generalize (p : Rat) * d = x at *
    generalize sm T (x + d) = s' at *
    generalize sm T x = s at *
    generalize ex d p = e at *
    have h5 := Rat.mul_le_mul_of_nonneg_right h2 h4
    have h6 := Rat.mul_le_mul_of_nonneg_right (Rat.le_trans h5 h1) (show 0 ≤ 1 + d by grind)
    have h7 := Rat.mul_nonneg (Rat.mul_nonneg (show 0 ≤ s' by grind) h0) (Rat.le_of_lt hdd)
    grind
end

/-! below nought -/
noncomputable def sg : Nat → Rat
  | 0 => 1
  | n + 1 => - sg n
theorem sg_cases (n : Nat) : sg n = 1 ∨ sg n = -1 := by
  induction n with
  | zero => exact .inl rfl
  | succ n ih => rcases ih with h | h <;> simp [sg, h]
theorem tm_neg (n : Nat) (x : Rat) : tm n (-x) = sg n * tm n x := by
  induction n with
  | zero => show (1 : Rat) = 1 * 1; grind
  | succ n ih =>
    show tm n (-x) * (-x) / ((n : Rat) + 1) = - sg n * (tm n x * x / ((n : Rat) + 1))
    rw [ih]
    have := npos n
    grind
theorem tm_turn {x d : Rat} (hx : 0 ≤ x) (hd : 0 ≤ d) (n : Nat) :
    -(d * d * tm n (x + d)) ≤ tm (n + 2) (-(x + d)) - tm (n + 2) (-x) + d * tm (n + 1) (-x) ∧ tm (n + 2) (-(x + d)) - tm (n + 2) (-x) + d * tm (n + 1) (-x) ≤ d * d * tm n (x + d) := by
  rw [tm_neg, tm_neg, tm_neg]
  have h1 := tm_lo hx hd (n + 1)
  have h2 := tm_hi hx hd (n + 1)
  have h3 := Rat.mul_le_mul_of_nonneg_left (tm_hi hx hd n) hd
  have e : sg (n + 2) = sg n := by show - - sg n = sg n; grind
  have e1 : sg (n + 1) = - sg n := rfl
  rw [e, e1]
  have h4 := Rat.mul_nonneg (Rat.mul_nonneg hd hd) (tm_nonneg (show 0 ≤ x + d by grind) n)
  generalize tm (n + 1 + 1) (x + d) = a at *
  generalize tm (n + 1) (x + d) = b at *
  generalize tm n (x + d) = c at *
  have e3 : tm (n + 2) x = tm (n + 1 + 1) x := rfl
  have e4 : tm (n + 2) (x + d) = tm (n + 1 + 1) (x + d) := rfl
  rcases sg_cases n with h | h <;> rw [h] <;> constructor <;> grind
theorem sm_turn {x d : Rat} (hx : 0 ≤ x) (hd : 0 ≤ d) (T : Nat) :
    -(d * d * sm T (x + d)) ≤ sm (T + 2) (-(x + d)) - sm (T + 2) (-x) + d * sm (T + 1) (-x) ∧ sm (T + 2) (-(x + d)) - sm (T + 2) (-x) + d * sm (T + 1) (-x) ≤ d * d * sm T (x + d) := by
  induction T with
  | zero =>
    have h1 := tm_turn hx hd 0
    have e : ∀ y, sm (0 + 1) y = 1 + y := fun y => by show 1 + tm 1 y = 1 + y; rw [tm_one]
    have e2 : ∀ y, sm (0 + 2) y = 1 + y + tm (0 + 2) y := fun y => by rw [← e y]; rfl
    have e0 : ∀ y, sm 0 y = 1 := fun y => rfl
    have e3 : tm 0 (x + d) = 1 := rfl
    rw [e2, e2, e, e0]
    rw [tm_one, e3] at h1
    constructor <;> grind
  | succ T ih =>
    have h1 := tm_turn hx hd (T + 1)
    rw [sm_succ (T + 1 + 1), sm_succ (T + 1 + 1)]
    have e : d * sm (T + 1 + 1) (-x) = d * sm (T + 1) (-x) + d * tm (T + 1 + 1) (-x) := by rw [sm_succ]; grind
    have e2 : d * d * sm (T + 1) (x + d) = d * d * sm T (x + d) + d * d * tm (T + 1) (x + d) := by rw [sm_succ]; grind
    rw [e, e2]
    constructor <;> grind
theorem sm_one_le (T : Nat) : sm T 1 ≤ 3 := by
  cases T with
  | zero => show (1 : Rat) ≤ 3; decide
  | succ T =>
    have key : sm (T + 1) 1 + tm (T + 1) 1 ≤ 3 := by
      induction T with
      | zero => rw [sm_succ, tm_one]; show (1 : Rat) + 1 + 1 ≤ 3; grind
      | succ T ih =>
        have h1 := tm_succ (T + 1) 1
        have h2 := tm_nonneg (show (0 : Rat) ≤ 1 by decide) (T + 1 + 1)
        have h3 : (0 : Rat) ≤ (T : Rat) := Rat.natCast_nonneg
        have h4 := Rat.mul_nonneg h3 h2
        rw [cast_succ] at h1
        rw [sm_succ (T + 1)]
        grind
    have := tm_nonneg (show (0 : Rat) ≤ 1 by decide) (T + 1)
    grind
theorem sm_turn3 {x d : Rat} (hx : 0 ≤ x) (hd : 0 ≤ d) (h : x + d ≤ 1) (T : Nat) :
    -(3 * d * d) ≤ sm (T + 1) (-(x + d)) - sm (T + 1) (-x) + d * sm T (-x) ∧ sm (T + 1) (-(x + d)) - sm (T + 1) (-x) + d * sm T (-x) ≤ 3 * d * d := by
  have hdd := Rat.mul_nonneg hd hd
  cases T with
  | zero =>
    have e : ∀ y, sm (0 + 1) y = 1 + y := fun y => by show 1 + tm 1 y = 1 + y; rw [tm_one]
    have e0 : ∀ y, sm 0 y = 1 := fun y => rfl
    rw [e, e, e0]
    constructor <;> grind
  | succ T =>
    have h1 := sm_turn hx hd T
    have h2 := Rat.mul_le_mul_of_nonneg_left (Rat.le_trans (sm_mono (show 0 ≤ x + d by grind) h T) (sm_one_le T)) hdd
    constructor <;> grind
section
variable {d : Rat} (hd : 0 < d)
include hd
/-- below nought the rows turn about exp -/
theorem ex_alt (T p : Nat) (h : (p : Rat) * d ≤ 1) :
    -(tm (T + 1) ((p : Rat) * d) + 4 * (T : Rat) * d * ((p : Rat) * d)) ≤ ex d (-(p : Int)) - sm T (-((p : Rat) * d)) ∧ ex d (-(p : Int)) - sm T (-((p : Rat) * d)) ≤ tm (T + 1) ((p : Rat) * d) + 4 * (T : Rat) * d * ((p : Rat) * d) := by
  induction T generalizing p with
  | zero =>
    have h1 := ex_neg_nat hd p
    have h2 := ex_le_one hd (show -(p : Int) ≤ 0 by omega)
    have hx : 0 ≤ (p : Rat) * d := Rat.mul_nonneg Rat.natCast_nonneg (Rat.le_of_lt hd)
    have e0 : sm 0 (-((p : Rat) * d)) = 1 := rfl
    rw [tm_one, e0, show ((0 : Nat) : Rat) = 0 from rfl]
    constructor <;> grind
  | succ T ih =>
    induction p with
    | zero =>
      have e : ((0 : Nat) : Rat) * d = 0 := by rw [show ((0 : Nat) : Rat) = 0 from rfl]; grind
      rw [e, show (-((0 : Nat) : Int)) = 0 from rfl, ex_zero, show -(0 : Rat) = 0 from rfl]
      rw [sm_zero, tm_zero]
      constructor <;> grind
    | succ p ihp =>
      have hx : 0 ≤ (p : Rat) * d := Rat.mul_nonneg Rat.natCast_nonneg (Rat.le_of_lt hd)
      have e1 : ex d (-(p : Int)) = ex d (-((p + 1 : Nat) : Int)) * (1 + d) := by rw [← ex_succ hd]; congr 1; omega
      have e2 : ((p + 1 : Nat) : Rat) * d = (p : Rat) * d + d := by rw [cast_succ]; grind
      rw [e2] at h ⊢
      have h0 := ihp (by first | with_reducible assumption | with_reducible exact Rat.le_of_lt (by assumption) | grind)
      have h1 := ih p (by first | with_reducible assumption | with_reducible exact Rat.le_of_lt (by assumption) | grind)
      have h2 := sm_turn3 hx (Rat.le_of_lt hd) h T
      have h3 := tm_lo hx (Rat.le_of_lt hd) (T + 1)
      have h4 := ex_pos hd (-((p + 1 : Nat) : Int))
      have h5 := ex_le_one hd (show -((p + 1 : Nat) : Int) ≤ 0 by omega)
      have hT : (0 : Rat) ≤ (T : Rat) := Rat.natCast_nonneg
      rw [e1] at h0 h1
      rw [cast_succ] at *
      generalize (p : Rat) * d = x at *
      generalize ex d (-((p + 1 : Nat) : Int)) = e at *
      generalize sm (T + 1) (-(x + d)) = s' at *
      generalize sm (T + 1) (-x) = s1 at *
      generalize sm T (-x) = s0 at *
      generalize tm (T + 1 + 1) (x + d) = t' at *
      generalize tm (T + 1 + 1) x = t2 at *
      generalize tm (T + 1) x = t1 at *
      generalize (T : Rat) = T at *
      have hdd : 0 ≤ d * d := Rat.mul_nonneg (Rat.le_of_lt hd) (Rat.le_of_lt hd)
      have h6 := Rat.mul_le_mul_of_nonneg_left h1.1 (Rat.le_of_lt hd)
      have h7 := Rat.mul_le_mul_of_nonneg_left h1.2 (Rat.le_of_lt hd)
      have h8 := Rat.mul_le_mul_of_nonneg_left h5 hdd
      have h9 := Rat.mul_nonneg hdd (Rat.le_of_lt h4)
      have h10 := Rat.mul_le_mul_of_nonneg_left (show x ≤ 1 by grind) (Rat.mul_nonneg hT hdd)
      constructor <;> grind
end

/-! Lambert's rows -/
noncomputable def gg (z : Rat) : Nat → Nat → Rat
  | 0, i => tm (2 * i) z
  | j + 1, i => gg z j i / (2 * (i : Rat) + 2 * (j : Rat) + 1)
noncomputable def GG (z : Rat) (j : Nat) : Nat → Rat
  | 0 => 0
  | n + 1 => GG z j n + gg z j n
noncomputable def hh (z : Rat) (n : Nat) : Nat → Nat → Rat
  | 0, j => GG z j n
  | 1, j => GG z j n
  | f + 2, j => (2 * (j : Rat) + 1) * hh z n (f + 1) (j + 1) + z * z * hh z n f (j + 2)
theorem odd_pos (i j : Nat) : (0 : Rat) < 2 * (i : Rat) + 2 * (j : Rat) + 1 := by
  have h1 : (0 : Rat) ≤ (i : Rat) := Rat.natCast_nonneg
  have h2 : (0 : Rat) ≤ (j : Rat) := Rat.natCast_nonneg
  grind
theorem gg_succ (z : Rat) (j i : Nat) : (2 * (i : Rat) + 2 * (j : Rat) + 1) * gg z (j + 1) i = gg z j i := by
  have := odd_pos i j
  show (2 * (i : Rat) + 2 * (j : Rat) + 1) * (gg z j i / (2 * (i : Rat) + 2 * (j : Rat) + 1)) = _
  grind
theorem gg_right (z : Rat) (j i : Nat) : (2 * (i : Rat) + 2) * (2 * (i : Rat) + 2 * (j : Rat) + 1) * gg z j (i + 1) = z * z * gg z j i := by
  induction j with
  | zero =>
    show (2 * (i : Rat) + 2) * (2 * (i : Rat) + 2 * ((0 : Nat) : Rat) + 1) * tm (2 * (i + 1)) z = z * z * tm (2 * i) z
    rw [show 2 * (i + 1) = 2 * i + 1 + 1 by omega]
    have h1 := tm_succ (2 * i + 1) z
    have h2 := tm_succ (2 * i) z
    have e1 : ((2 * i + 1 : Nat) : Rat) = 2 * (i : Rat) + 1 := by norm_cast
    have e2 : ((2 * i : Nat) : Rat) = 2 * (i : Rat) := by norm_cast
    rw [e1] at h1
    rw [e2] at h2
    rw [show ((0 : Nat) : Rat) = 0 from rfl]
    generalize tm (2 * i + 1 + 1) z = a at *
    generalize tm (2 * i + 1) z = b at *
    generalize tm (2 * i) z = c at *
    have h3 : (2 * (i : Rat) + 1) * ((2 * (i : Rat) + 1 + 1) * a) = (2 * (i : Rat) + 1) * (b * z) := by rw [h1]
    have h4 : z * ((2 * (i : Rat) + 1) * b) = z * (c * z) := by rw [h2]
    grind
  | succ j ih =>
    have h1 := gg_succ z j (i + 1)
    have h2 := gg_succ z j i
    have e1 : ((i + 1 : Nat) : Rat) = (i : Rat) + 1 := by norm_cast
    rw [e1] at h1
    rw [cast_succ]
    have hp := odd_pos i j
    rw [← h1, ← h2] at ih
    generalize gg z (j + 1) (i + 1) = a at *
    generalize gg z (j + 1) i = b at *
    generalize hq : 2 * (i : Rat) + 2 * (j : Rat) + 1 = q at *
    have e2 : 2 * ((i : Rat) + 1) + 2 * (j : Rat) + 1 = q + 2 := by grind
    have e3 : 2 * (i : Rat) + 2 * ((j : Rat) + 1) + 1 = q + 2 := by grind
    rw [e2] at ih
    rw [e3]
    have e4 : q * ((2 * (i : Rat) + 2) * (q + 2) * a) = q * (z * z * b) := by grind
    exact Rat.le_antisymm (div_le' hp (by first | with_reducible assumption | with_reducible exact Rat.le_of_lt (by assumption) | grind)) (div_le' hp (by first | with_reducible assumption | with_reducible exact Rat.le_of_lt (by assumption) | grind))
theorem gg_nonneg {z : Rat} (hz : 0 ≤ z) (j i : Nat) : 0 ≤ gg z j i := by
  induction j with
  | zero => exact tm_nonneg hz _
  | succ j ih =>
    refine div_le' (odd_pos i j) ?_
    rw [gg_succ]
    grind
theorem GG_mono {z : Rat} (hz : 0 ≤ z) (j n m : Nat) (h : n ≤ m) : GG z j n ≤ GG z j m := by
  obtain ⟨k, rfl⟩ := Nat.exists_eq_add_of_le h
  induction k with
  | zero => exact Rat.le_refl
  | succ k ih =>
    have := gg_nonneg hz j (n + k)
    have := ih (by first | with_reducible assumption | with_reducible exact Int.le_of_lt (by assumption) | with_reducible exact Nat.le_of_lt (by assumption) | omega)
    show GG z j n ≤ GG z j (n + k) + gg z j (n + k)
    grind
/-- Lambert's step -/
theorem GG_step (z : Rat) (j n : Nat) : GG z j (n + 1) = (2 * (j : Rat) + 1) * GG z (j + 1) (n + 1) + z * z * GG z (j + 2) n := by
  induction n with
  | zero =>
    show 0 + gg z j 0 = (2 * (j : Rat) + 1) * (0 + gg z (j + 1) 0) + z * z * 0
    have := gg_succ z j 0
    rw [show ((0 : Nat) : Rat) = 0 from rfl] at this
    grind
  | succ n ih =>
    show GG z j (n + 1) + gg z j (n + 1) = (2 * (j : Rat) + 1) * (GG z (j + 1) (n + 1) + gg z (j + 1) (n + 1)) + z * z * (GG z (j + 2) n + gg z (j + 2) n)
    have h1 := gg_succ z j (n + 1)
    have h2 := gg_right z (j + 1) n
    have h3 := gg_succ z (j + 1) n
    have e1 : ((n + 1 : Nat) : Rat) = (n : Rat) + 1 := by norm_cast
    have e2 : ((j + 1 : Nat) : Rat) = (j : Rat) + 1 := by norm_cast
    rw [e1] at h1
    rw [e2] at h2 h3
    have hp : (0 : Rat) < 2 * (n : Rat) + 2 * ((j : Rat) + 1) + 1 := by have := odd_pos n (j + 1); rw [e2] at this; exact this
    have key : (2 * (n : Rat) + 2) * gg z (j + 1) (n + 1) = z * z * gg z (j + 1 + 1) n := by
      have h4 : (2 * (n : Rat) + 2 * ((j : Rat) + 1) + 1) * ((2 * (n : Rat) + 2) * gg z (j + 1) (n + 1)) = (2 * (n : Rat) + 2 * ((j : Rat) + 1) + 1) * (z * z * gg z (j + 1 + 1) n) := by
        rw [← h3] at h2
        generalize gg z (j + 1) (n + 1) = a at *
        generalize gg z (j + 1 + 1) n = b at *
        generalize 2 * (n : Rat) + 2 * ((j : Rat) + 1) + 1 = q at *
        grind
      exact Rat.le_antisymm (div_le' hp (by rw [h4]; exact Rat.le_refl)) (div_le' hp (by rw [h4]; exact Rat.le_refl))
    have e3 : gg z (j + 2) n = gg z (j + 1 + 1) n := rfl
    rw [e3]
    generalize gg z (j + 1 + 1) n = a at *
    generalize gg z (j + 1) (n + 1) = b at *
    grind
theorem hh_lo {z : Rat} (hz : 0 ≤ z) (n : Nat) : ∀ f j, GG z j n ≤ hh z n f j
  | 0, _ => Rat.le_refl
  | 1, _ => Rat.le_refl
  | f + 2, j => by
    have h1 := hh_lo hz n (f + 1) (j + 1)
    have h2 := hh_lo hz n f (j + 2)
    have hj : (0 : Rat) ≤ 2 * (j : Rat) + 1 := by have := odd_pos 0 j; rw [show ((0 : Nat) : Rat) = 0 from rfl] at this; grind
    have hzz := Rat.mul_nonneg hz hz
    show _ ≤ (2 * (j : Rat) + 1) * hh z n (f + 1) (j + 1) + z * z * hh z n f (j + 2)
    have h3 := Rat.mul_le_mul_of_nonneg_left h1 hj
    have h4 := Rat.mul_le_mul_of_nonneg_left h2 hzz
    cases n with
    | zero =>
      have e : ∀ j, GG z j 0 = 0 := fun j => rfl
      rw [e] at h3 h4 ⊢
      grind
    | succ n =>
      have h5 := GG_step z j n
      have h6 := Rat.mul_le_mul_of_nonneg_left (GG_mono hz (j + 2) n (n + 1) (by first | with_reducible assumption | with_reducible exact Int.le_of_lt (by assumption) | with_reducible exact Nat.le_of_lt (by assumption) | omega)) hzz
      grind
theorem hh_hi {z : Rat} (hz : 0 ≤ z) (n : Nat) : ∀ f j, hh z n f j ≤ GG z j (n + f)
  | 0, _ => Rat.le_refl
  | 1, j => GG_mono hz j n (n + 1) (by first | with_reducible assumption | with_reducible exact Int.le_of_lt (by assumption) | with_reducible exact Nat.le_of_lt (by assumption) | omega)
  | f + 2, j => by
    have h1 := hh_hi hz n (f + 1) (j + 1)
    have h2 := hh_hi hz n f (j + 2)
    have hj : (0 : Rat) ≤ 2 * (j : Rat) + 1 := by have := odd_pos 0 j; rw [show ((0 : Nat) : Rat) = 0 from rfl] at this; grind
    have hzz := Rat.mul_nonneg hz hz
    show (2 * (j : Rat) + 1) * hh z n (f + 1) (j + 1) + z * z * hh z n f (j + 2) ≤ GG z j (n + f + 1 + 1)
    have h3 := Rat.mul_le_mul_of_nonneg_left (Rat.le_trans h1 (GG_mono hz (j + 1) _ (n + f + 1 + 1) (by first | with_reducible assumption | with_reducible exact Int.le_of_lt (by assumption) | with_reducible exact Nat.le_of_lt (by assumption) | omega))) hj
    have h4 := Rat.mul_le_mul_of_nonneg_left (Rat.le_trans h2 (GG_mono hz (j + 2) _ (n + f + 1) (by first | with_reducible assumption | with_reducible exact Int.le_of_lt (by assumption) | with_reducible exact Nat.le_of_lt (by assumption) | omega))) hzz
    have h5 := GG_step z j (n + f + 1)
    grind
/-- the even and the odd rows of exp -/
theorem GG_exp (z : Rat) (n : Nat) : GG z 0 (n + 1) + z * GG z 1 (n + 1) = sm (2 * n + 1) z ∧ GG z 0 (n + 1) - z * GG z 1 (n + 1) = sm (2 * n + 1) (-z) := by
  have key : ∀ i, z * gg z 1 i = tm (2 * i + 1) z := by
    intro i
    have h1 := gg_succ z 0 i
    have h2 := tm_succ (2 * i) z
    have e2 : ((2 * i : Nat) : Rat) = 2 * (i : Rat) := by norm_cast
    have e3 : gg z 0 i = tm (2 * i) z := rfl
    rw [e2] at h2
    rw [e3, show ((0 : Nat) : Rat) = 0 from rfl] at h1
    have hp := odd_pos i 0
    rw [show ((0 : Nat) : Rat) = 0 from rfl] at hp
    have h3 : z * ((2 * (i : Rat) + 2 * 0 + 1) * gg z (0 + 1) i) = z * tm (2 * i) z := by rw [h1]
    have e4 : gg z (0 + 1) i = gg z 1 i := rfl
    rw [e4] at h3
    exact Rat.le_antisymm (div_le' hp (by first | with_reducible assumption | with_reducible exact Rat.le_of_lt (by assumption) | grind)) (div_le' hp (by first | with_reducible assumption | with_reducible exact Rat.le_of_lt (by assumption) | grind))
  have sgn : ∀ i, sg (2 * i) = 1 := fun i => by
    induction i with
    | zero => rfl
    | succ i ih => show - - sg (2 * i) = 1; rw [ih]; grind
  induction n with
  | zero =>
    have e1 : GG z 0 (0 + 1) = 1 := by show 0 + (1 : Rat) = 1; grind
    have e2 : z * GG z 1 (0 + 1) = z := by show z * (0 + gg z 1 0) = z; rw [show z * (0 + gg z 1 0) = z * gg z 1 0 by grind, key, tm_one]
    have e3 : ∀ y, sm (2 * 0 + 1) y = 1 + y := fun y => by show 1 + tm 1 y = 1 + y; rw [tm_one]
    rw [e1, e2, e3, e3]
    constructor <;> grind
  | succ n ih =>
    have e1 : GG z 0 (n + 1 + 1) = GG z 0 (n + 1) + tm (2 * n + 2) z := rfl
    have e2 : z * GG z 1 (n + 1 + 1) = z * GG z 1 (n + 1) + tm (2 * n + 2 + 1) z := by
      show z * (GG z 1 (n + 1) + gg z 1 (n + 1)) = _
      rw [show z * (GG z 1 (n + 1) + gg z 1 (n + 1)) = z * GG z 1 (n + 1) + z * gg z 1 (n + 1) by grind, key]
      rfl
    have e3 : ∀ y, sm (2 * (n + 1) + 1) y = sm (2 * n + 1) y + tm (2 * n + 2) y + tm (2 * n + 2 + 1) y := fun y => rfl
    have e4 : tm (2 * n + 2) (-z) = tm (2 * n + 2) z := by rw [tm_neg, show 2 * n + 2 = 2 * (n + 1) by omega, sgn]; grind
    have e5 : tm (2 * n + 2 + 1) (-z) = - tm (2 * n + 2 + 1) z := by rw [tm_neg]; show - sg (2 * (n + 1)) * _ = _; rw [sgn]; grind
    rw [e1, e2, e3, e3, e4, e5]
    constructor <;> grind


/-- plain data -/
inductive D where
  | undef | none
  | int (i : Int) | bool (b : Bool) | str (x : Str)
  | list (l : List D) | tup (l : List D) | obj (a : Addr)

/-- the value v is the datum d in the heap h -/
inductive RV (h : Heap) : Value → D → Prop where
  | none : RV h .none .none
  | int (i : Int) (t : Tok) : RV h (.int i t) (.int i)
  | bool (b : Bool) : RV h (.bool b) (.bool b)
  | str (x : Str) (t : Tok) : RV h (.str x t) (.str x)
  | obj (a : Addr) : RV h (.ref a) (.obj a)
  | list {a : Addr} {vs : List Value} {ds : List D} (hl : h.IsList a vs.toArray) (hn : vs.length = ds.length)
      (hi : ∀ (i : Nat) (v : Value) (d : D), vs[i]? = some v → ds[i]? = some d → RV h v d) : RV h (.ref a) (.list ds)
  | tup {a : Addr} {vs : List Value} {ds : List D} (hl : h.IsTuple a vs.toArray) (hn : vs.length = ds.length)
      (hi : ∀ (i : Nat) (v : Value) (d : D), vs[i]? = some v → ds[i]? = some d → RV h v d) : RV h (.ref a) (.tup ds)

noncomputable def SeqK (h h' : Heap) : Prop := ∀ b o items n, h.get? b = some o → o.data = .seq items n → h'.get? b = some o
theorem SeqK.of {h h' : Heap} (hk : ∀ b o, h.get? b = some o → h'.get? b = some o) : SeqK h h' := fun b o _ _ e _ => hk b o e

theorem RV.keep {h h' : Heap} (hk : SeqK h h') {v : Value} {d : D} (r : RV h v d) : RV h' v d := by
  induction r with
  | none => exact .none
  | int i t => exact .int i t
  | bool b => exact .bool b
  | str x t => exact .str x t
  | obj a => exact .obj a
  | list hl hn _ ih =>
    obtain ⟨o, ho, hc, n, hd⟩ := hl
    exact .list ⟨o, hk _ o _ n ho hd, hc, n, hd⟩ hn ih
  | tup hl hn _ ih =>
    obtain ⟨o, ho, hc, n, hd⟩ := hl
    exact .tup ⟨o, hk _ o _ n ho hd, hc, n, hd⟩ hn ih

/-- values in a row -/
noncomputable def RVs (h : Heap) (vs : List Value) (ds : List D) : Prop := vs.length = ds.length ∧ ∀ (i : Nat) (v : Value) (d : D), vs[i]? = some v → ds[i]? = some d → RV h v d
theorem RVs.nil {h : Heap} : RVs h [] [] := ⟨rfl, fun i v d e => by simp at e⟩
theorem RVs.cons {h : Heap} {v : Value} {d : D} {vs : List Value} {ds : List D} (r : RV h v d) (rs : RVs h vs ds) : RVs h (v :: vs) (d :: ds) := by
  refine ⟨by simp [rs.1], fun i v' d' e1 e2 => ?_⟩
  cases i with
  | zero => simp at e1 e2; subst e1; subst e2; exact r
  | succ i => simp at e1 e2; exact rs.2 i v' d' e1 e2
theorem RVs.keep {h h' : Heap} (hk : SeqK h h') {vs : List Value} {ds : List D} (r : RVs h vs ds) : RVs h' vs ds := ⟨r.1, fun i v d e1 e2 => (r.2 i v d e1 e2).keep hk⟩
theorem RVs.inv_nil {h : Heap} {vs : List Value} (r : RVs h vs []) : vs = [] := List.length_eq_zero_iff.mp (by simpa using r.1)
theorem RVs.inv_cons {h : Heap} {vs : List Value} {d : D} {ds : List D} (r : RVs h vs (d :: ds)) : ∃ v vs', vs = v :: vs' ∧ RV h v d ∧ RVs h vs' ds := by
  cases vs with
  | nil => simp [RVs] at r
  | cons v vs => exact ⟨v, vs, rfl, r.2 0 v d rfl rfl, by simpa using r.1, fun i v' d' e1 e2 => r.2 (i + 1) v' d' (by simpa using e1) (by simpa using e2)⟩

theorem RV.inv_int {h : Heap} {v : Value} {i : Int} (r : RV h v (.int i)) : ∃ t, v = .int i t := by cases r; exact ⟨_, rfl⟩
theorem RV.inv_bool {h : Heap} {v : Value} {b : Bool} (r : RV h v (.bool b)) : v = .bool b := by cases r; rfl
theorem RV.inv_str {h : Heap} {v : Value} {x : Str} (r : RV h v (.str x)) : ∃ t, v = .str x t := by cases r; exact ⟨_, rfl⟩
theorem RV.inv_none {h : Heap} {v : Value} (r : RV h v .none) : v = .none := by cases r; rfl
theorem RV.inv_list {h : Heap} {v : Value} {ds : List D} (r : RV h v (.list ds)) : ∃ a vs, v = .ref a ∧ h.IsList a vs.toArray ∧ RVs h vs ds := by
  cases r with | list hl hn hi => exact ⟨_, _, rfl, hl, hn, hi⟩
theorem RV.inv_tup {h : Heap} {v : Value} {ds : List D} (r : RV h v (.tup ds)) : ∃ a vs, v = .ref a ∧ h.IsTuple a vs.toArray ∧ RVs h vs ds := by
  cases r with | tup hl hn hi => exact ⟨_, _, rfl, hl, hn, hi⟩
theorem kRefl (s : Shared) : Keeps s s := ⟨s.heap, s.toks, rfl, fun _ _ e => e⟩
theorem kTrans {s s' s'' : Shared} (a : Keeps s s') (b : Keeps s' s'') : Keeps s s'' := by
  obtain ⟨h', tk, rfl, hk⟩ := a
  obtain ⟨h'', tk', rfl, hk'⟩ := b
  exact ⟨h'', tk', rfl, fun b o e => hk' b o (hk b o e)⟩
theorem kTok (s : Shared) (tk : Nat) : Keeps s { s with toks := tk } := ⟨s.heap, tk, rfl, fun _ _ e => e⟩
theorem kSeq {s s' : Shared} (a : Keeps s s') : SeqK s.heap s'.heap := by
  obtain ⟨h', tk, rfl, hk⟩ := a
  exact .of hk
theorem kAll {s s' : Shared} (a : Keeps s s') : ∀ b o, s.heap.get? b = some o → s'.heap.get? b = some o := by
  obtain ⟨h', tk, rfl, hk⟩ := a
  exact hk

/-- the slots' data in the frame -/
noncomputable def Rep (N : List Str) (ρ : List D) (h : Heap) (m : Str → Option Value) : Prop :=
  ∀ (i : Nat) (x : Str) (d : D), N[i]? = some x → ρ[i]? = some d → d ≠ .undef → ∃ v, m x = some v ∧ RV h v d
/-- a frame: the own names, and all else as it was -/
structure Fm (h₀ : Heap) (L : Addr) (h : Heap) (m : Str → Option Value) : Prop where
  ns : h.Ns L m
  keep : ∀ b o, b ≠ L → h₀.get? b = some o → h.get? b = some o
theorem Fm.grownK {h₀ h h' : Heap} {L : Addr} {m : Str → Option Value} (F : Fm h₀ L h m) (hk : ∀ b o, h.get? b = some o → h'.get? b = some o) : Fm h₀ L h' m :=
  ⟨F.ns.keeps hk, fun b o hb e => hk b o (F.keep b o hb e)⟩
theorem Fm.set {h₀ h h' : Heap} {L : Addr} {m m' : Str → Option Value} (F : Fm h₀ L h m) (hn : h'.Ns L m') (hs : Heap.SameBut L h h') : Fm h₀ L h' m' :=
  ⟨hn, fun b o hb e => (hs.2 b hb).trans (F.keep b o hb e)⟩
/-- a frame's surroundings -/
noncomputable def eOf (name : Str) (scope : Scope) (L : Addr) (a : Option Addr × Option Addr) (cd : Value) (cs : List (Str × Addr)) : Env :=
  { scope := scope, locals := L, globals := mainGlobals, cells := cs, qual := name, func := a.1, code := cd, frame := a.2, builtins := builtinsNs }
noncomputable def St (h₀ : Heap) (L : Addr) (N : List Str) (ρ : List D) (s : Shared) : Prop := ∃ m, Fm h₀ L s.heap m ∧ Rep N ρ s.heap m
theorem St.keeps {h₀ : Heap} {L : Addr} {N : List Str} {ρ : List D} {s s' : Shared} (x : St h₀ L N ρ s) (k : Keeps s s') : St h₀ L N ρ s' := by
  obtain ⟨m, F, R⟩ := x
  refine ⟨m, F.grownK (kAll k), fun i x d e1 e2 e3 => ?_⟩
  obtain ⟨v, hv, r⟩ := R i x d e1 e2 e3
  exact ⟨v, hv, r.keep (kSeq k)⟩

/-- all but the frame's own object is kept -/
noncomputable def Tr (L : Addr) (s s' : Shared) : Prop := ∃ h' tk, s' = { s with heap := h', toks := tk } ∧ ∀ b o, b ≠ L → s.heap.get? b = some o → h'.get? b = some o
theorem Tr.refl (L : Addr) (s : Shared) : Tr L s s := ⟨s.heap, s.toks, rfl, fun _ _ _ e => e⟩
theorem Tr.trans {L : Addr} {s s' s'' : Shared} (a : Tr L s s') (b : Tr L s' s'') : Tr L s s'' := by
  obtain ⟨h', tk, rfl, hk⟩ := a
  obtain ⟨h'', tk', rfl, hk'⟩ := b
  exact ⟨h'', tk', rfl, fun b o n e => hk' b o n (hk b o n e)⟩
theorem kTr {L : Addr} {s s' : Shared} (a : Keeps s s') : Tr L s s' := by
  obtain ⟨h', tk, rfl, hk⟩ := a
  exact ⟨h', tk, rfl, fun b o _ e => hk b o e⟩
theorem Tr.all {L : Addr} {s s' : Shared} (a : Tr L s s') : ∀ b o, b ≠ L → s.heap.get? b = some o → s'.heap.get? b = some o := by
  obtain ⟨h', tk, rfl, hk⟩ := a
  exact hk
theorem ns_notSeq {h : Heap} {L : Addr} {m : Str → Option Value} (n : h.Ns L m) {o : Obj} (ho : h.get? L = some o) : ∀ items k, o.data ≠ .seq items k := by
  obtain ⟨oL, es, ep, hL, hLd, _, _⟩ := n
  rw [hL] at ho; cases ho
  intro items k e
  rw [hLd] at e; cases e
theorem seqK_of_but {h h' : Heap} {L : Addr} {m : Str → Option Value} (n : h.Ns L m) (hk : ∀ b o, b ≠ L → h.get? b = some o → h'.get? b = some o) : SeqK h h' := by
  intro b o items k e hd
  by_cases hb : b = L
  · subst hb; exact absurd hd (ns_notSeq n e _ _)
  · exact hk b o hb e

theorem get_set_ne {α : Type} {l : List α} {i j : Nat} {x : α} (h : i ≠ j) : (l.set i x)[j]? = l[j]? := by
  rw [List.getElem?_set]; simp [h]

section store
variable {M : Model} {A : Around} {E : Value → Shared → Prop} {s : Shared} {name : Str} {scope : Scope} {L : Addr} {a : Option Addr × Option Addr} {cd : Value} {cs : List (Str × Addr)} {h₀ : Heap}
/-- a store into the slot i -/
theorem St.store {N : List Str} {ρ : List D} {i : Nat} {x : Str} {v : Value} {d : D} {Q : Unit → Shared → Prop} (S : St h₀ L N ρ s) (hx : N[i]? = some x) (hnd : N.Nodup) (r : RV s.heap v d)
    (h : ∀ s', St h₀ L N (ρ.set i d) s' → Tr L s s' → Q () s')
    (hk : scope.kind = .function) (hl : scope.names.lookup x = some .local) :
    wpAny M A (storeName (eOf name scope L a cd cs) x v) Q E s := by
  obtain ⟨m, F, R⟩ := S
  refine wpAny_storeName_local hl F.ns (fun h' hn hs => ?_) (by show (scope.kind == .class || (scope.kind == .module && L != mainGlobals)) = false; rw [hk]; rfl)
  have hkb : ∀ b o, b ≠ L → s.heap.get? b = some o → h'.get? b = some o := fun b o hb e => (hs.2 b hb).trans e
  have sk : SeqK s.heap h' := seqK_of_but F.ns hkb
  refine h _ ⟨_, F.set hn hs, fun j y e e1 e2 e3 => ?_⟩ ⟨h', _, rfl, hkb⟩
  by_cases hij : i = j
  · subst hij
    rw [hx] at e1; cases e1
    have hd : e = d := by
      rw [List.getElem?_set] at e2
      simp at e2
      exact e2.2.symm
    subst hd
    exact ⟨v, by simp, r.keep sk⟩
  · rw [get_set_ne hij] at e2
    obtain ⟨v', hv', r'⟩ := R j y e e1 e2 e3
    have hne : y ≠ x := by
      intro e; subst e
      have hi' : i < N.length := (List.getElem?_eq_some_iff.mp hx).1
      have hj' : j < N.length := (List.getElem?_eq_some_iff.mp e1).1
      have e4 : N[i] = N[j] := by
        rw [List.getElem?_eq_getElem hi'] at hx
        rw [List.getElem?_eq_getElem hj'] at e1
        exact (Option.some.inj hx).trans (Option.some.inj e1).symm
      exact hij ((List.getElem_inj hnd).mp e4)
    exact ⟨v', by simp [hne, hv'], r'.keep sk⟩
end store


/-- built-in functions served -/
inductive B where
  | abs | max | min | int | len | str | divmod | list | nbits | isinstance | bool | range | sum | fn (x : Str)
  deriving DecidableEq
noncomputable def B.name : B → Str
  | .abs => "abs" | .max => "max" | .min => "min" | .int => "int" | .len => "len" | .str => "str" | .divmod => "divmod" | .list => "list" | .nbits => "_nbits" | .isinstance => "isinstance" | .bool => "bool" | .range => "range" | .sum => "sum" | .fn x => x
noncomputable def B.val : B → Value
  | .abs => .builtin "abs" | .max => .builtin "max" | .min => .builtin "min" | .int => .type "int" | .len => .builtin "len" | .str => .type "str" | .divmod => .builtin "divmod" | .list => .type "list"
  | .nbits => .builtin "int.bit_length" | .isinstance => .builtin "isinstance" | .bool => .type "bool" | .range => .type "range" | .sum => .builtin "sum" | .fn _ => .none
noncomputable def B.plain : B → Bool
  | .fn _ => false
  | _ => true

inductive E where
  | lit (i : Int) | bo (b : Bool) | var (i : Nat)
  | bin (op : Operator) (a b : E)
  | neg (a : E) | not (a : E)
  | cmp (op : CmpOp) (a b : E) | cmp2 (a : E) (o1 : CmpOp) (b : E) (o2 : CmpOp) (c : E)
 | any (l : E)
  | ite (c a b : E)
  | call (f : Str) (l : E)
  | bi (f : B) (l : E)
  | isI (a : E) | isB (a : E)
  | nil | cons (a r : E)
  | lst (l : E) | tup (l : E)
  | idx (a i : E)
  | slc (a lo hi : E)

@[simp] noncomputable def truth : D → Option Bool
  | .int i => some (i != 0)
  | .bool b => some b
  | .none => some false
  | .list l => if l.length < 2 ^ 60 then some (!l.isEmpty) else Option.none
  | _ => Option.none

@[simp] noncomputable def intP (P : Int → Prop) : D → Prop
  | .int i => P i
  | _ => False
@[simp] noncomputable def lP (P : List D → Prop) : D → Prop
  | .list l => P l
  | _ => False
@[simp] noncomputable def ii (x y : D) (k : Int → Int → Prop) : Prop := intP (fun a => intP (fun b => k a b) y) x
@[simp] noncomputable def ibP (P : Int → Prop) (Q : Bool → Prop) : D → Prop
  | .int i => P i
  | .bool b => Q b
  | _ => False
@[simp] noncomputable def ilP (P : Int → Prop) (Q : List D → Prop) : D → Prop
  | .int i => P i
  | .list l => Q l
  | _ => False
@[simp] noncomputable def slP (P : Str → Prop) (Q : List D → Prop) : D → Prop
  | .str i => P i
  | .list l => Q l
  | _ => False
@[simp] noncomputable def tlP (P : List D → Prop) (Q : List D → Prop) : D → Prop
  | .tup i => P i
  | .list l => Q l
  | _ => False
@[simp] noncomputable def l1 (k : D → Prop) : List D → Prop
  | [] => False
  | x :: r => if r.isEmpty = true then k x else False
@[simp] noncomputable def l2 (k : D → D → Prop) : List D → Prop
  | [] => False
  | x :: r => l1 (k x) r

@[simp] noncomputable def binW (op : Operator) (x y : D) (P : D → Prop) : Prop :=
  match op with
  | .Add => ilP (fun a => ibP (fun b => P (.int (a + b))) (fun b => P (.int (a + if b = true then 1 else 0))) y) (fun a => lP (fun b => a.length + b.length ≤ 2 ^ 20 ∧ P (.list (a ++ b))) y) x
  | .Sub => ii x y fun a b => P (.int (a - b))
  | .Mult => ii x y fun a b => IntMulOk a b ∧ P (.int (a * b))
  | .FloorDiv => ii x y fun a b => b ≠ 0 ∧ b.natAbs.log2 < 9000 ∧ P (.int (a.fdiv b))
  | .Mod => ii x y fun a b => b ≠ 0 ∧ P (.int (a.fmod b))
  | .Pow => ii x y fun a n => 0 ≤ n ∧ (Builtin.Int.intBits a : Int) * n ≤ 2 ^ 27 ∧ P (.int (a ^ n.toNat))
  | .LShift => ii x y fun a n => 0 ≤ n ∧ (Builtin.Int.intBits a : Int) + n ≤ 2 ^ 27 ∧ P (.int (a * 2 ^ n.toNat))
  | .RShift => ii x y fun a n => 0 ≤ n ∧ P (.int (a.fdiv (2 ^ n.toNat)))
  | .BitAnd => ii x y fun a b => P (.int (Builtin.bitAnd a b))
  | _ => False

@[simp] noncomputable def cmpW (op : CmpOp) (x y : D) (P : Bool → Prop) : Prop :=
  match op with
  | .Eq => ii x y fun a b => P (a == b)
  | .NotEq => ii x y fun a b => P (a != b)
  | .Lt => ii x y fun a b => P (decide (a < b))
  | .LtE => ii x y fun a b => P (decide (a ≤ b))
  | .Gt => ii x y fun a b => P (decide (a > b))
  | .GtE => ii x y fun a b => P (decide (a ≥ b))
  | .In => intP (fun a => lP (fun l => ∃ ns : List Int, l = ns.map .int ∧ P (ns.any (· == a))) y) x
  | .NotIn => intP (fun a => lP (fun l => ∃ ns : List Int, l = ns.map .int ∧ P (!(ns.any (· == a)))) y) x
  | _ => False

@[simp] noncomputable def biW (f : B) (ds : List D) (P : D → Prop) : Prop :=
  match f with
  | .abs => l1 (intP fun a => P (.int (if a < 0 then -a else a))) ds
  | .max => l2 (fun x y => ii x y fun a b => P (.int (if b > a then b else a))) ds
  | .min => l2 (fun x y => ii x y fun a b => P (.int (if b < a then b else a))) ds
  | .int => l1 (intP fun a => P (.int a)) ds
  | .len => l1 (slP (fun x => x.length < 2 ^ 60 ∧ P (.int x.length)) (fun l => l.length < 2 ^ 60 ∧ P (.int l.length))) ds
  | .str => l1 (intP fun a => a.natAbs.log2 < 1920 ∧ P (.str (Str.ofString (toString a)))) ds
  | .divmod => l2 (fun x y => ii x y fun a b => b ≠ 0 ∧ b.natAbs.log2 < 9000 ∧ P (.tup [.int (a.fdiv b), .int (a.fmod b)])) ds
  | .list => l1 (lP fun l => l.length ≤ 2 ^ 20 ∧ P (.list l)) ds
  | .sum => l1 (lP fun l => ∃ ns : List Int, l = ns.map .int ∧ P (.int ns.sum)) ds
  | .nbits => l1 (intP fun a => P (.int (Builtin.Int.intBits a : Nat))) ds
  | _ => False

noncomputable def idxW (x y : D) (P : D → Prop) : Prop :=
  intP (fun k => tlP (fun l => 0 ≤ k ∧ k < 2 ^ 62 ∧ ∃ d, l[k.toNat]? = some d ∧ P d)
    (fun l => -(2 ^ 62) ≤ k ∧ k < 2 ^ 62 ∧ ∃ d, l[(if k < 0 then k + l.length else k).toNat]? = some d ∧ 0 ≤ (if k < 0 then k + l.length else k) ∧ P d) x) y

/-- a cut of a list -/
noncomputable def cut (l : List D) (lo hi : Option Int) : List D :=
  (l.drop (lo.elim 0 (clipAt l.length))).take (hi.elim l.length (clipAt l.length) - lo.elim 0 (clipAt l.length))

@[simp] noncomputable def get : List D → Nat → D
  | [], _ => .undef
  | d :: _, 0 => d
  | _ :: l, n + 1 => get l n
theorem get_eq {ρ : List D} {i : Nat} {d : D} (h : get ρ i = d) (hd : d ≠ .undef) : ρ[i]? = some d := by
  induction ρ generalizing i with
  | nil => simp [get] at h; exact absurd h.symm hd
  | cons a l ih =>
    cases i with
    | zero => simp [get] at h; simp [h]
    | succ i => simp [get] at h; simpa using ih h

@[simp] noncomputable def isIP (P : D → Prop) (d : D) : Prop := ibP (fun _ => P (.bool true)) (fun _ => P (.bool true)) d
@[simp] noncomputable def isBP (P : D → Prop) (d : D) : Prop := ibP (fun _ => P (.bool false)) (fun _ => P (.bool true)) d
@[simp] noncomputable def cutP (i j : Option Int) (P : D → Prop) (d : D) : Prop := lP (fun l => l.length ≤ 2 ^ 20 ∧ P (.list (cut l i j))) d
@[simp] noncomputable def E.isNil : E → Bool
  | .nil => true
  | _ => false
@[simp] noncomputable def partP (b : Bool) (w : (D → Prop) → Prop) (P : Option Int → Prop) : Prop := if b = true then P none else w (intP fun i => P (some i))
section
variable (Γ : Str → List D → D → Prop)
mutual
noncomputable def wp0 : E → List D → (D → Prop) → Prop
  | .lit i, _, P => P (.int i)
  | .bo b, _, P => P (.bool b)
  | .var i, ρ, P => get ρ i ≠ .undef ∧ P (get ρ i)
  | .bin op a b, ρ, P => wp0 a ρ fun x => wp0 b ρ fun y => binW op x y P
  | .neg a, ρ, P => wp0 a ρ (intP fun i => P (.int (-i)))
  | .not a, ρ, P => wp0 a ρ fun x => ∃ b, truth x = some b ∧ P (.bool !b)
  | .cmp op a b, ρ, P => wp0 a ρ fun x => wp0 b ρ fun y => cmpW op x y fun c => P (.bool c)
  | .cmp2 a o1 b o2 c, ρ, P => wp0 a ρ fun x => wp0 b ρ fun y => cmpW o1 x y fun t => if t = true then wp0 c ρ fun z => cmpW o2 y z fun u => P (.bool u) else P (.bool false)
  | .any l, ρ, P => wpOr0 l ρ P
  | .ite c a b, ρ, P => wp0 c ρ fun x => ∃ t, truth x = some t ∧ if t = true then wp0 a ρ P else wp0 b ρ P
  | .call f l, ρ, P => wpL0 l ρ fun ds => ∃ r, Γ f ds r ∧ P r
  | .bi f l, ρ, P => wpL0 l ρ fun ds => biW f ds P
  | .isI a, ρ, P => wp0 a ρ (isIP P)
  | .isB a, ρ, P => wp0 a ρ (isBP P)
  | .nil, _, _ => False
  | .cons _ _, _, _ => False
  | .lst l, ρ, P => wpL0 l ρ fun ds => ds.length ≤ 2 ^ 20 ∧ P (.list ds)
  | .tup l, ρ, P => wpL0 l ρ fun ds => ds.length ≤ 2 ^ 20 ∧ P (.tup ds)
  | .idx a i, ρ, P => wp0 a ρ fun x => wp0 i ρ fun k => idxW x k P
  | .slc a lo hi, ρ, P => wp0 a ρ fun x => partP lo.isNil (wp0 lo ρ) fun i => partP hi.isNil (wp0 hi ρ) fun j => cutP i j P x
noncomputable def wpAnd0 : E → List D → (D → Prop) → Prop
  | .cons a r, ρ, P => wp0 a ρ fun d => if r.isNil = true then P d else ∃ b, truth d = some b ∧ if b = true then wpAnd0 r ρ P else P d
  | _, _, _ => False
noncomputable def wpOr0 : E → List D → (D → Prop) → Prop
  | .cons a r, ρ, P => wp0 a ρ fun d => if r.isNil = true then P d else ∃ b, truth d = some b ∧ if b = true then P d else wpOr0 r ρ P
  | _, _, _ => False
noncomputable def wpL0 : E → List D → (List D → Prop) → Prop
  | .nil, _, P => P []
  | .cons a r, ρ, P => wp0 a ρ fun d => wpL0 r ρ fun ds => P (d :: ds)
  | _, _, _ => False
end
end

noncomputable def notStarred : Expr → Bool
  | .Starred .. => false
  | _ => true
noncomputable def notSlice : Expr → Bool
  | .Slice .. => false
  | _ => true
/-! what an expression is made of -/
noncomputable def dsC : Expr → Option Const
  | .Constant c _ _ => some c
  | _ => none
noncomputable def dsN : Expr → Option Str
  | .Name x _ => some x
  | _ => none
noncomputable def dsBin : Expr → Option (Expr × Operator × Expr)
  | .BinOp l o r _ => some (l, o, r)
  | _ => none
noncomputable def dsUn : Expr → Option (UnaryOp × Expr)
  | .UnaryOp o x _ => some (o, x)
  | _ => none
noncomputable def dsCmp : Expr → Option (Expr × List CmpOp × List Expr)
  | .Compare l os rs _ => some (l, os, rs)
  | _ => none
noncomputable def dsBool : Expr → Option (BoolOp × List Expr)
  | .BoolOp o es _ => some (o, es)
  | _ => none
noncomputable def dsIf : Expr → Option (Expr × Expr × Expr)
  | .IfExp t x y _ => some (t, x, y)
  | _ => none
noncomputable def dsCall : Expr → Option (Expr × List Expr × List Keyword)
  | .Call f es ks _ => some (f, es, ks)
  | _ => none
noncomputable def dsList : Expr → Option (List Expr)
  | .List es _ => some es
  | _ => none
noncomputable def dsTup : Expr → Option (List Expr)
  | .Tuple es _ _ => some es
  | _ => none
noncomputable def dsSub : Expr → Option (Expr × Expr)
  | .Subscript v i _ => some (v, i)
  | _ => none
noncomputable def dsSl : Expr → Option (Option Expr × Option Expr × Option Expr)
  | .Slice l u s _ => some (l, u, s)
  | _ => none

/-- what a def's form may name: built-ins and defs; opaque expressions and ends, by a check each -/
structure Us where
  l : List B
  o : Str → Expr → Bool
  t : Str → List Stmt → Bool
  s : Str → Stmt → Bool
  k : Around → Prop
noncomputable def pl (l : List B) : Us := ⟨l, fun _ _ => false, fun _ _ => false, fun _ _ => false, fun _ => True⟩
/-- an opaque expression's shape -/
noncomputable def plainE : Expr → Bool
  | .Name .. => true
  | .ListComp .. => true
  | .Subscript .. => true
  | .Call .. => true
  | _ => false
section
variable (us : Us) (N : List Str) (sc : Scope)
noncomputable def glb (x : Str) : Bool := sc.names.lookup x == some .globalImplicit && x != "__debug__"
/-- a call of a global name upon at least one argument -/
noncomputable def dsCallN (ex : Expr) : Option (Str × List Expr) :=
  (dsCall ex).bind fun t => (dsN t.1).bind fun g => if t.2.2.isEmpty && !t.2.1.isEmpty && glb sc g then some (g, t.2.1) else none
mutual
noncomputable def chkE : E → Expr → Bool
  | .lit i, ex => dsC ex == some (.int i)
  | .bo b, ex => dsC ex == some (.bool b)
  | .var i, ex => (dsN ex).any fun x => N[i]? == some x
  | .bin op a b, ex => (dsBin ex).any fun t => op == t.2.1 && chkE a t.1 && chkE b t.2.2
  | .neg a, ex => (dsUn ex).any fun t => t.1 == .USub && chkE a t.2
  | .not a, ex => (dsUn ex).any fun t => t.1 == .Not && chkE a t.2
  | .cmp op a b, ex => (dsCmp ex).any fun t => t.2.1 == [op] && t.2.2.length == 1 && t.2.2.head?.any fun r => behindInMarks op r == false && chkE a t.1 && chkE b r
  | .cmp2 a o1 b o2 c, ex => (dsCmp ex).any fun t => t.2.1 == [o1, o2] && t.2.2.length == 2 && t.2.2.head?.any fun r1 => t.2.2.tail.head?.any fun r2 => behindInMarks o2 r2 == false && chkE a t.1 && chkE b r1 && chkE c r2
  | .any l, ex => (dsBool ex).any fun t => t.1 == .Or && chkEs l t.2
  | .ite c a b, ex => (dsIf ex).any fun t => chkE c t.1 && chkE a t.2.1 && chkE b t.2.2
  | .call f l, ex => (dsCallN sc ex).any fun t => us.l.contains (.fn f) && f == t.1 && chkEs l t.2
  | .bi f l, ex => (dsCallN sc ex).any fun t => us.l.contains f && f.plain && f.name == t.1 && chkEs l t.2
  | .isI a, ex => (dsCallN sc ex).any fun t => us.l.contains .isinstance && us.l.contains .int && B.isinstance.name == t.1 && t.2.length == 2 && t.2.head?.any fun e => t.2.tail.head?.any fun c => (dsN c).any fun y => B.int.name == y && glb sc y && notStarred e && chkE a e
  | .isB a, ex => (dsCallN sc ex).any fun t => us.l.contains .isinstance && us.l.contains .bool && B.isinstance.name == t.1 && t.2.length == 2 && t.2.head?.any fun e => t.2.tail.head?.any fun c => (dsN c).any fun y => B.bool.name == y && glb sc y && notStarred e && chkE a e
  | .nil, _ => false
  | .cons _ _, _ => false
  | .lst l, ex => (dsList ex).any fun es => chkEs l es
  | .tup l, ex => (dsTup ex).any fun es => chkEs l es
  | .idx a i, ex => (dsSub ex).any fun t => notSlice t.2 && chkE a t.1 && chkE i t.2
  | .slc a lo hi, ex => (dsSub ex).any fun t => chkE a t.1 && (dsSl t.2).any fun u => u.2.2.isNone && (if lo.isNil then u.1.isNone else u.1.any fun x => chkE lo x) && (if hi.isNil then u.2.1.isNone else u.2.1.any fun x => chkE hi x)
noncomputable def chkEs : E → List Expr → Bool
  | .nil, es => es.isEmpty
  | .cons a r, es => es.head?.any fun e => notStarred e && chkE a e && chkEs r es.tail
  | _, _ => false
end
end

theorem starEach_cons {e : Expr} {rest : List Expr} {env : Env} (h : notStarred e = true) : starEach (e :: rest) env = (false, eval e env) :: starEach rest env := by
  cases e <;> first | rfl | simp [notStarred] at h



noncomputable def AOk (n : Nat) (A : Around) : Prop := A.handled = none ∧ A.depth + n < recursionLimit ∧ A.units + 3 * n + 200 < cLine
noncomputable def Kp (h h' : Heap) : Prop := ∀ b o, h.get? b = some o → h'.get? b = some o
theorem Kp.trans {h h' h'' : Heap} (a : Kp h h') (b : Kp h' h'') : Kp h h'' := fun x o e => b x o (a x o e)

/-- what the module's run has left -/
structure Wd (hB : Heap) (mg mb : Str → Option Value) (us : List B) : Prop where
  g : hB.Ns mainGlobals mg
  b : hB.Ns builtinsNs mb
  nl : hB.NoLimit
  fn : ∀ x, B.fn x ∈ us → ∃ a o fd, mg x = some (.ref a) ∧ hB.get? a = some o ∧ o.data = .func fd
  bi : ∀ f ∈ us, f.plain = true → (mg f.name = none ∧ mb f.name = some f.val) ∨ mg f.name = some f.val

abbrev Fls : Value → Shared → Prop := fun _ _ => False

/-- a call of the def f upon ds gives r -/
noncomputable def CallsTo (prog : Program) (w : World) (hB : Heap) (mg : Str → Option Value) (n : Nat) (f : Str) (ds : List D) (r : D) : Prop :=
  ∃ a o fd, mg f = some (.ref a) ∧ hB.get? a = some o ∧ o.data = .func fd ∧ ∀ (A : Around) (s : Shared) (vs : List Value), AOk n A → Kp hB s.heap → RVs s.heap vs ds →
    wpAny (model prog w) A (call (.ref a) vs) (fun v s' => Keeps s s' ∧ RV s'.heap v r) Fls s

section ops
variable {prog : Program} {w : World} {A : Around} {s : Shared}

theorem tok_ok {P : D → Prop} {i : Int} {t tk : Nat} (h : P (.int i)) : Keeps s { s with toks := tk } ∧ ∃ d, RV ({ s with toks := tk } : Shared).heap (.int i t) d ∧ P d :=
  ⟨kTok s tk, _, .int i t, h⟩

theorem truthy_ok {v : Value} {d : D} {b : Bool} (r : RV s.heap v d) (h : truth d = some b) : wpAny (model prog w) A (truthy v) (fun c s' => Keeps s s' ∧ c = b) Fls s := by
  cases d with
  | int i =>
    obtain ⟨t, rfl⟩ := r.inv_int
    simp only [truth, Option.some.injEq] at h
    exact PySem.P.truthy_int ⟨kRefl s, h⟩
  | bool c =>
    obtain rfl := r.inv_bool
    simp only [truth, Option.some.injEq] at h
    exact wpAny_truthy_bool ⟨kRefl s, h⟩
  | none =>
    obtain rfl := r.inv_none
    simp only [truth, Option.some.injEq] at h
    exact truthy_none ⟨kRefl s, h⟩
  | list l =>
    obtain ⟨a, vs, rfl, hl, hv⟩ := r.inv_list
    simp only [truth] at h
    split at h
    · rename_i hlt
      have hlen := hv.1
      refine wpAny_truthy_list hl (by rw [List.size_toArray, hlen]; omega) ?_
      simp only [Option.some.injEq] at h
      refine ⟨kTok s _, ?_⟩
      rw [← h]
      cases vs with
      | nil => cases l with
        | nil => rfl
        | cons _ _ => simp at hlen
      | cons _ _ => cases l with
        | nil => simp at hlen
        | cons _ _ => rfl
    · cases h
  | undef => cases r
  | obj a => cases h
  | str x => cases h
  | tup l => cases h

theorem RVs.append {h : Heap} {vs us : List Value} {ds es : List D} (a : RVs h vs ds) (b : RVs h us es) : RVs h (vs ++ us) (ds ++ es) := by
  refine ⟨by simp [a.1, b.1], fun i v d e1 e2 => ?_⟩
  have hl := a.1
  by_cases hi : i < vs.length
  · rw [List.getElem?_append_left hi] at e1
    rw [List.getElem?_append_left (by first | with_reducible assumption | with_reducible exact Int.le_of_lt (by assumption) | with_reducible exact Nat.le_of_lt (by assumption) | omega)] at e2
    exact a.2 i v d e1 e2
  · rw [List.getElem?_append_right (by first | with_reducible assumption | with_reducible exact Int.le_of_lt (by assumption) | with_reducible exact Nat.le_of_lt (by assumption) | omega)] at e1
    rw [List.getElem?_append_right (by first | with_reducible assumption | with_reducible exact Int.le_of_lt (by assumption) | with_reducible exact Nat.le_of_lt (by assumption) | omega)] at e2
    exact b.2 (i - vs.length) v d e1 (by rw [hl]; exact e2)
theorem RVs.drop {h : Heap} {vs : List Value} {ds : List D} (a : RVs h vs ds) (k : Nat) : RVs h (vs.drop k) (ds.drop k) := by
  refine ⟨by simp [a.1], fun i v d e1 e2 => ?_⟩
  rw [List.getElem?_drop] at e1 e2
  exact a.2 _ v d e1 e2
theorem RVs.take {h : Heap} {vs : List Value} {ds : List D} (a : RVs h vs ds) (k : Nat) : RVs h (vs.take k) (ds.take k) := by
  refine ⟨by simp [a.1], fun i v d e1 e2 => ?_⟩
  rw [List.getElem?_take] at e1 e2
  split at e1
  · rename_i hlt
    rw [if_pos hlt] at e2
    exact a.2 _ v d e1 e2
  · cases e1

theorem new_list {vs : List Value} {ds : List D} (h : RVs s.heap vs ds) {hs : Heap} (hh : hs = s.heap.push { cls := .type "list", data := .seq vs.toArray }) : RV hs (.ref s.heap.objs.size) (.list ds) := by
  subst hh
  have hk : SeqK s.heap (s.heap.push { cls := .type "list", data := .seq vs.toArray }) := .of fun b o e => Heap.get?_push_of_some _ e
  have h' := h.keep hk
  exact .list ⟨_, Heap.get?_push_size _ rfl, rfl, _, rfl⟩ h'.1 h'.2
theorem new_tup {vs : List Value} {ds : List D} (h : RVs s.heap vs ds) {hs : Heap} (hh : hs = s.heap.push { cls := .type "tuple", data := .seq vs.toArray }) : RV hs (.ref s.heap.objs.size) (.tup ds) := by
  subst hh
  have hk : SeqK s.heap (s.heap.push { cls := .type "tuple", data := .seq vs.toArray }) := .of fun b o e => Heap.get?_push_of_some _ e
  have h' := h.keep hk
  exact .tup ⟨_, Heap.get?_push_size _ rfl, rfl, _, rfl⟩ h'.1 h'.2
theorem push_keeps (o : Obj) : Keeps s { s with heap := s.heap.push o } := ⟨_, s.toks, rfl, fun _ _ e => Heap.get?_push_of_some _ e⟩

theorem size_le {n : Nat} (h : n ≤ 2 ^ 20) : n ≤ sizeLine := by rw [PySem.sizeLine_eq]; omega

theorem addl_ok {l1 l2 : Addr} {vs us : List Value} {a b : List D} {P : D → Prop} (hl : s.heap.IsList l1 vs.toArray) (hl2 : s.heap.IsList l2 us.toArray) (hv : RVs s.heap vs a) (hu : RVs s.heap us b)
    (hz : a.length + b.length ≤ 2 ^ 20) (h : P (.list (a ++ b))) :
    wpAny (model prog w) A (binaryOp .Add (.ref l1) (.ref l2)) (fun v s' => Keeps s s' ∧ ∃ d, RV s'.heap v d ∧ P d) Fls s := by
  obtain ⟨⟨c1, d1, t1, s1⟩, ho, hc, n, hd⟩ := hl
  obtain ⟨⟨c2, d2, t2, s2⟩, ho2, hc2, n2, hd2⟩ := hl2
  dsimp only at hc hd hc2 hd2
  subst hc hd hc2 hd2
  refine concat_meets ⟨_, ho, rfl⟩ ⟨_, ho2, rfl⟩ noFill_list_add seq_list_add PySem.F.slot_list_add PySem.F.entry_list_add (PySem.F.args_list_add_2 _ _)
    (list_addW l1 l2 vs.toArray us.toArray n n2 d1 d2 s1 s2 (by simp only [List.size_toArray]; rw [hv.1, hu.1]; exact size_le hz)) ⟨ho, ho2, ?_⟩
  exact ⟨push_keeps _, _, new_list (hv.append hu) (by simp), h⟩

theorem intP_inv {P : Int → Prop} {d : D} (h : intP P d) : ∃ i, d = .int i ∧ P i := by cases d <;> first | exact ⟨_, rfl, h⟩ | exact h.elim
theorem lP_inv {P : List D → Prop} {d : D} (h : lP P d) : ∃ i, d = .list i ∧ P i := by cases d <;> first | exact ⟨_, rfl, h⟩ | exact h.elim
theorem ibP_inv {P : Int → Prop} {Q : Bool → Prop} {d : D} (h : ibP P Q d) : (∃ i, d = .int i ∧ P i) ∨ (∃ b, d = .bool b ∧ Q b) := by
  cases d <;> first | exact .inl ⟨_, rfl, h⟩ | exact .inr ⟨_, rfl, h⟩ | exact h.elim
theorem ilP_inv {P : Int → Prop} {Q : List D → Prop} {d : D} (h : ilP P Q d) : (∃ i, d = .int i ∧ P i) ∨ (∃ b, d = .list b ∧ Q b) := by
  cases d <;> first | exact .inl ⟨_, rfl, h⟩ | exact .inr ⟨_, rfl, h⟩ | exact h.elim
theorem slP_inv {P : Str → Prop} {Q : List D → Prop} {d : D} (h : slP P Q d) : (∃ i, d = .str i ∧ P i) ∨ (∃ b, d = .list b ∧ Q b) := by
  cases d <;> first | exact .inl ⟨_, rfl, h⟩ | exact .inr ⟨_, rfl, h⟩ | exact h.elim
theorem tlP_inv {P : List D → Prop} {Q : List D → Prop} {d : D} (h : tlP P Q d) : (∃ i, d = .tup i ∧ P i) ∨ (∃ b, d = .list b ∧ Q b) := by
  cases d <;> first | exact .inl ⟨_, rfl, h⟩ | exact .inr ⟨_, rfl, h⟩ | exact h.elim
theorem ii_inv {k : Int → Int → Prop} {x y : D} (h : ii x y k) : ∃ a b, x = .int a ∧ y = .int b ∧ k a b := by
  obtain ⟨a, rfl, h1⟩ := intP_inv h
  obtain ⟨b, rfl, h2⟩ := intP_inv h1
  exact ⟨a, b, rfl, rfl, h2⟩
theorem l1_inv {k : D → Prop} {ds : List D} (h : l1 k ds) : ∃ x, ds = [x] ∧ k x := by
  cases ds with
  | nil => exact h.elim
  | cons x r => cases r with
    | nil => exact ⟨x, rfl, h⟩
    | cons _ _ => exact h.elim
theorem l2_inv {k : D → D → Prop} {ds : List D} (h : l2 k ds) : ∃ x y, ds = [x, y] ∧ k x y := by
  cases ds with
  | nil => exact h.elim
  | cons x r => obtain ⟨y, rfl, h⟩ := l1_inv h; exact ⟨x, y, rfl, h⟩

theorem ii_ok {t : Value → Value → Sem Value} {v u : Value} {x y : D} {k : Int → Int → Prop} {P : D → Prop} (r1 : RV s.heap v x) (r2 : RV s.heap u y) (h : ii x y k)
    (go : ∀ a b t1 t2, k a b → wpAny (model prog w) A (t (.int a t1) (.int b t2)) (fun v s' => Keeps s s' ∧ ∃ d, RV s'.heap v d ∧ P d) Fls s) :
    wpAny (model prog w) A (t v u) (fun v s' => Keeps s s' ∧ ∃ d, RV s'.heap v d ∧ P d) Fls s := by
  obtain ⟨a, b, rfl, rfl, h⟩ := ii_inv h
  obtain ⟨t1, rfl⟩ := r1.inv_int; obtain ⟨t2, rfl⟩ := r2.inv_int
  exact go a b t1 t2 h

theorem bin_ok {op : Operator} {v u : Value} {x y : D} {P : D → Prop} (r1 : RV s.heap v x) (r2 : RV s.heap u y) (h : binW op x y P) :
    wpAny (model prog w) A (binaryOp op v u) (fun v s' => Keeps s s' ∧ ∃ d, RV s'.heap v d ∧ P d) Fls s := by
  cases op with
  | Add =>
    rcases ilP_inv h with ⟨a, rfl, h⟩ | ⟨l, rfl, h⟩
    · obtain ⟨t1, rfl⟩ := r1.inv_int
      rcases ibP_inv h with ⟨b, rfl, h⟩ | ⟨b, rfl, h⟩
      · obtain ⟨t2, rfl⟩ := r2.inv_int
        exact PySem.P.add_int (tok_ok h)
      · obtain rfl := r2.inv_bool
        exact PySem.add_int_bool (tok_ok h)
    · obtain ⟨l2, rfl, h⟩ := lP_inv h
      obtain ⟨l1, vs, rfl, hl, hv⟩ := r1.inv_list; obtain ⟨l2, us, rfl, hl2, hu⟩ := r2.inv_list
      exact addl_ok hl hl2 hv hu h.1 h.2
  | Sub => exact ii_ok (t := binaryOp .Sub) r1 r2 h fun _ _ _ _ h => PySem.P.sub_int (tok_ok h)
  | Mult => exact ii_ok (t := binaryOp .Mult) r1 r2 h fun _ _ _ _ h => PySem.P.mul_int (tok_ok h.2) h.1
  | FloorDiv => exact ii_ok (t := binaryOp .FloorDiv) r1 r2 h fun _ _ _ _ h => floordiv_int h.1 (tok_ok h.2.2) (Or.inl (PyProof.noPylong_of_log2 h.2.1))
  | Mod => exact ii_ok (t := binaryOp .Mod) r1 r2 h fun _ _ _ _ h => mod_int' h.1 (tok_ok h.2)
  | Pow => exact ii_ok (t := binaryOp .Pow) r1 r2 h fun _ _ _ _ h => pow_int h.1 h.2.1 (tok_ok h.2.2)
  | LShift => exact ii_ok (t := binaryOp .LShift) r1 r2 h fun _ _ _ _ h => lshift_int h.1 h.2.1 (tok_ok h.2.2)
  | RShift => exact ii_ok (t := binaryOp .RShift) r1 r2 h fun _ _ _ _ h => rshift_int h.1 (tok_ok h.2)
  | BitAnd => exact ii_ok (t := binaryOp .BitAnd) r1 r2 h fun _ _ _ _ h => and_int (tok_ok h)
  | MatMult => exact h.elim
  | Div => exact h.elim
  | BitOr => exact h.elim
  | BitXor => exact h.elim

theorem ic_ok {op : CmpOp} {v u : Value} {x y : D} {k : Int → Int → Prop} {P : Bool → Prop} (r1 : RV s.heap v x) (r2 : RV s.heap u y) (h : ii x y k)
    (go : ∀ a b t1 t2, k a b → wpAny (model prog w) A (compareOp op (.int a t1) (.int b t2)) (fun v s' => s' = s ∧ ∃ c, v = .bool c ∧ P c) Fls s) :
    wpAny (model prog w) A (compareOp op v u) (fun v s' => s' = s ∧ ∃ c, v = .bool c ∧ P c) Fls s := by
  obtain ⟨a, b, rfl, rfl, h⟩ := ii_inv h
  obtain ⟨t1, rfl⟩ := r1.inv_int; obtain ⟨t2, rfl⟩ := r2.inv_int
  exact go a b t1 t2 h
noncomputable def isV (a : Int) : Value → Bool
  | .int i _ => i == a
  | _ => false
theorem isV_any {h : Heap} {a : Int} : ∀ {us : List Value} {ns : List Int}, RVs h us (ns.map .int) → us.toArray.any (isV a) = ns.any (· == a)
  | us, [], r => by obtain rfl := r.inv_nil; simp
  | us, n :: ns, r => by
    obtain ⟨v, vs, rfl, r1, r2⟩ := r.inv_cons
    obtain ⟨t, rfl⟩ := r1.inv_int
    have ih := isV_any (a := a) r2
    simp only [List.any_toArray, List.any_cons, isV] at ih ⊢
    rw [ih]
theorem isV_at {A : Around} {s : Shared} {h : Heap} {a : Int} {t : Tok} {us : List Value} {ns : List Int} (r : RVs h us (ns.map .int)) {y : Value} (hy : y ∈ us) : SeqAt.EqAt A s y (.int a t) (isV a y) := by
  obtain ⟨i, hi, rfl⟩ := List.getElem_of_mem hy
  have hn : i < ns.length := by have := r.1; simp at this; omega
  obtain ⟨t, e⟩ := (r.2 i us[i] (.int ns[i]) (List.getElem?_eq_getElem hi) (by rw [List.getElem?_map, List.getElem?_eq_getElem hn]; rfl)).inv_int
  rw [e]
  exact SeqAt.EqAt.int_int _ _ _ _
theorem cmp_ok {op : CmpOp} {v u : Value} {x y : D} {P : Bool → Prop} (r1 : RV s.heap v x) (r2 : RV s.heap u y) (h : cmpW op x y P) :
    wpAny (model prog w) A (compareOp op v u) (fun v s' => s' = s ∧ ∃ c, v = .bool c ∧ P c) Fls s := by
  cases op with
  | Eq => exact ic_ok r1 r2 h fun _ _ _ _ h => PySem.P.eq_int ⟨rfl, _, rfl, h⟩
  | NotEq => exact ic_ok r1 r2 h fun _ _ _ _ h => PySem.P.ne_int ⟨rfl, _, rfl, h⟩
  | Lt => exact ic_ok r1 r2 h fun _ _ _ _ h => PySem.P.lt_int ⟨rfl, _, rfl, h⟩
  | LtE => exact ic_ok r1 r2 h fun _ _ _ _ h => PySem.P.le_int ⟨rfl, _, rfl, h⟩
  | Gt => exact ic_ok r1 r2 h fun _ _ _ _ h => PySem.P.gt_int ⟨rfl, _, rfl, h⟩
  | GtE => exact ic_ok r1 r2 h fun _ _ _ _ h => PySem.P.ge_int ⟨rfl, _, rfl, h⟩
  | Is => exact h.elim
  | IsNot => exact h.elim
  | In =>
    obtain ⟨a, rfl, h1⟩ := intP_inv h
    obtain ⟨l, rfl, ns, rfl, h2⟩ := lP_inv h1
    obtain ⟨t, rfl⟩ := r1.inv_int
    obtain ⟨ad, us, rfl, hl, hu⟩ := r2.inv_list
    refine SeqAt.in_listAt (isV a) hl (fun y hy => isV_at hu (by simpa using hy)) ⟨rfl, _, rfl, ?_⟩
    rw [isV_any hu]; exact h2
  | NotIn =>
    obtain ⟨a, rfl, h1⟩ := intP_inv h
    obtain ⟨l, rfl, ns, rfl, h2⟩ := lP_inv h1
    obtain ⟨t, rfl⟩ := r1.inv_int
    obtain ⟨ad, us, rfl, hl, hu⟩ := r2.inv_list
    refine SeqAt.notIn_listAt (isV a) hl (fun y hy => isV_at hu (by simpa using hy)) ⟨rfl, _, rfl, ?_⟩
    rw [isV_any hu]; exact h2
end ops


section ops2
variable {prog : Program} {w : World} {A : Around} {s : Shared}

theorem bitlen_ok {a : Int} {t : Tok} {P : D → Prop} (h : P (.int (Builtin.Int.intBits a : Nat))) :
    wpAny (model prog w) A (call (.builtin "int.bit_length") [.int a t]) (fun v s' => Keeps s s' ∧ ∃ d, RV s'.heap v d ∧ P d) Fls s :=
  call_gives PySem.F.slot_int_bit_length (typeIs_int s a t) PySem.F.entry_int_bit_length (PySem.F.args_int_bit_length_1 _) (PySem.AutoIntG2.int_bit_length_int_0 a t) (tok_ok h)

theorem max_ok {a b : Int} {t u : Tok} {P : D → Prop} (hA : A.handled = none) (h : P (.int (if b > a then b else a))) :
    wpAny (model prog w) A (call (.builtin "max") [.int a t, .int b u]) (fun v s' => Keeps s s' ∧ ∃ d, RV s'.heap v d ∧ P d) Fls s := by
  refine max_two_ints hA fun h' tk hk => ?_
  refine ⟨⟨h', tk, rfl, hk⟩, _, ?_, h⟩
  by_cases c : b > a
  · rw [if_pos c, if_pos c]; exact .int _ _
  · rw [if_neg c, if_neg c]; exact .int _ _
theorem min_ok {a b : Int} {t u : Tok} {P : D → Prop} (hA : A.handled = none) (h : P (.int (if b < a then b else a))) :
    wpAny (model prog w) A (call (.builtin "min") [.int a t, .int b u]) (fun v s' => Keeps s s' ∧ ∃ d, RV s'.heap v d ∧ P d) Fls s := by
  refine min_two_ints hA fun h' tk hk => ?_
  refine ⟨⟨h', tk, rfl, hk⟩, _, ?_, h⟩
  by_cases c : b < a
  · rw [if_pos c, if_pos c]; exact .int _ _
  · rw [if_neg c, if_neg c]; exact .int _ _

theorem b1_ok {t : List Value → Sem Value} {vs : List Value} {ds : List D} {k : D → Prop} {P : D → Prop} (r : RVs s.heap vs ds) (h : l1 k ds)
    (go : ∀ v d, RV s.heap v d → k d → wpAny (model prog w) A (t [v]) (fun v s' => Keeps s s' ∧ ∃ d, RV s'.heap v d ∧ P d) Fls s) : wpAny (model prog w) A (t vs) (fun v s' => Keeps s s' ∧ ∃ d, RV s'.heap v d ∧ P d) Fls s := by
  obtain ⟨x, rfl, h⟩ := l1_inv h
  obtain ⟨v, vs, rfl, r1, r⟩ := r.inv_cons; obtain rfl := r.inv_nil
  exact go v x r1 h
theorem b1i_ok {t : List Value → Sem Value} {vs : List Value} {ds : List D} {k : Int → Prop} {P : D → Prop} (r : RVs s.heap vs ds) (h : l1 (intP k) ds)
    (go : ∀ a t1, k a → wpAny (model prog w) A (t [.int a t1]) (fun v s' => Keeps s s' ∧ ∃ d, RV s'.heap v d ∧ P d) Fls s) : wpAny (model prog w) A (t vs) (fun v s' => Keeps s s' ∧ ∃ d, RV s'.heap v d ∧ P d) Fls s :=
  b1_ok r h fun v d r1 h => by
    obtain ⟨a, rfl, h⟩ := intP_inv h
    obtain ⟨t1, rfl⟩ := r1.inv_int
    exact go a t1 h
theorem b2i_ok {t : List Value → Sem Value} {vs : List Value} {ds : List D} {k : Int → Int → Prop} {P : D → Prop} (r : RVs s.heap vs ds) (h : l2 (fun x y => ii x y k) ds)
    (go : ∀ a b t1 t2, k a b → wpAny (model prog w) A (t [.int a t1, .int b t2]) (fun v s' => Keeps s s' ∧ ∃ d, RV s'.heap v d ∧ P d) Fls s) : wpAny (model prog w) A (t vs) (fun v s' => Keeps s s' ∧ ∃ d, RV s'.heap v d ∧ P d) Fls s := by
  obtain ⟨x, y, rfl, h⟩ := l2_inv h
  obtain ⟨a, b, rfl, rfl, h⟩ := ii_inv h
  obtain ⟨v, vs, rfl, r1, r⟩ := r.inv_cons; obtain ⟨v2, vs, rfl, r2, r⟩ := r.inv_cons; obtain rfl := r.inv_nil; obtain ⟨t1, rfl⟩ := r1.inv_int; obtain ⟨t2, rfl⟩ := r2.inv_int
  exact go a b t1 t2 h
theorem len_ok {v : Value} {d : D} {P : D → Prop} (r1 : RV s.heap v d) (h : slP (fun x => x.length < 2 ^ 60 ∧ P (.int x.length)) (fun l => l.length < 2 ^ 60 ∧ P (.int l.length)) d) :
    wpAny (model prog w) A (call (.builtin "len") [v]) (fun v s' => Keeps s s' ∧ ∃ d, RV s'.heap v d ∧ P d) Fls s := by
  rcases slP_inv h with ⟨x, rfl, h⟩ | ⟨l, rfl, h⟩
  · obtain ⟨t, rfl⟩ := r1.inv_str
    exact PyProof.Rows.len_str (by have := h.1; omega) (tok_ok h.2)
  · obtain ⟨a, us, rfl, hl, hu⟩ := r1.inv_list
    have e : us.toArray.size = l.length := (List.size_toArray ..).trans hu.1
    refine PyProof.Rows.len_list hl (by rw [e]; omega) ?_
    rw [e]
    exact tok_ok h.2
theorem rvs_ints {h : Heap} : ∀ {us : List Value} {ns : List Int}, RVs h us (ns.map .int) → IntsAre us ns
  | us, [], r => by obtain rfl := r.inv_nil; exact .nil
  | us, n :: ns, r => by
    obtain ⟨v, vs, rfl, r1, r2⟩ := r.inv_cons
    obtain ⟨t, rfl⟩ := r1.inv_int
    exact .cons n t (rvs_ints r2)
theorem sum_ok {v : Value} {d : D} {P : D → Prop} (hA : A.handled = none) (r1 : RV s.heap v d) (h : lP (fun l => ∃ ns : List Int, l = ns.map .int ∧ P (.int ns.sum)) d) :
    wpAny (model prog w) A (call (.builtin "sum") [v]) (fun v s' => Keeps s s' ∧ ∃ d, RV s'.heap v d ∧ P d) Fls s := by
  obtain ⟨l, rfl, ns, rfl, hp⟩ := lP_inv h
  obtain ⟨a, us, rfl, hl, hu⟩ := r1.inv_list
  have hi := rvs_ints hu
  obtain ⟨xs, e⟩ := hi.allInts.items
  rw [e] at hl
  refine sum_intListG hA hl fun h' tk t' hk => ?_
  have : preSum (numAt xs) xs.size = ns.sum := by
    rw [preSum_eq, List.take_of_length_le (by simp), ← nums_intItems, ← e, show us.toArray.toList = us from rfl, hi.numsOf]
  rw [this]
  exact ⟨⟨h', tk, rfl, hk⟩, _, .int _ _, hp⟩
theorem bi_ok {f : B} {vs : List Value} {ds : List D} {P : D → Prop} (hA : A.handled = none) (r : RVs s.heap vs ds) (h : biW f ds P) :
    wpAny (model prog w) A (call f.val vs) (fun v s' => Keeps s s' ∧ ∃ d, RV s'.heap v d ∧ P d) Fls s := by
  cases f with
  | abs => exact b1i_ok (t := fun vs => call (.builtin "abs") vs) r h fun _ _ h => call_abs_int fun u tk => tok_ok h
  | max => exact b2i_ok (t := fun vs => call (.builtin "max") vs) r h fun _ _ _ _ h => max_ok hA h
  | min => exact b2i_ok (t := fun vs => call (.builtin "min") vs) r h fun _ _ _ _ h => min_ok hA h
  | int => exact b1i_ok (t := fun vs => call (.type "int") vs) r h fun _ _ h => call_int_int ⟨kRefl s, _, .int _ _, h⟩
  | len => exact b1_ok (t := fun vs => call (.builtin "len") vs) r h fun _ _ r1 h => len_ok r1 h
  | str => exact b1i_ok (t := fun vs => call (.type "str") vs) r h fun _ _ h => PySem.P.str_of_int h.1 ⟨kTok s _, _, .str _ _, h.2⟩
  | divmod =>
    refine b2i_ok (t := fun vs => call (.builtin "divmod") vs) r h fun _ _ _ _ h => ?_
    refine divmod_int h.1 ?_ (Or.inl (PyProof.noPylong_of_log2 h.2.1))
    refine ⟨⟨_, _, rfl, fun _ _ e => Heap.get?_push_of_some _ e⟩, _, ?_, h.2.2⟩
    exact new_tup (vs := [_, _]) (RVs.cons (.int _ _) (RVs.cons (.int _ _) RVs.nil)) rfl
  | list =>
    refine b1_ok (t := fun vs => call (.type "list") vs) r h fun v d r1 h => ?_
    obtain ⟨l, rfl, h⟩ := lP_inv h
    obtain ⟨a, us, rfl, hl, hu⟩ := r1.inv_list
    obtain ⟨o, ho, hc, n, hd⟩ := hl
    refine call_list_seq (hsz := by rw [List.size_toArray, hu.1]; exact size_le h.1) a (.inl rfl) ho hc hd fun h' c' hk hD => ?_
    have hD : h'.IsList s.heap.objs.size us.toArray := ⟨_, hD, rfl, c', rfl⟩
    refine ⟨⟨h', s.toks, rfl, hk⟩, _, ?_, h.2⟩
    have hu' := hu.keep (SeqK.of hk)
    exact .list hD hu'.1 hu'.2
  | nbits => exact b1i_ok (t := fun vs => call (.builtin "int.bit_length") vs) r h fun _ _ h => bitlen_ok h
  | sum => exact b1_ok (t := fun vs => call (.builtin "sum") vs) r h fun _ _ r1 h => sum_ok hA r1 h
  | isinstance => exact h.elim
  | bool => exact h.elim
  | range => exact h.elim
  | fn x => exact h.elim

theorem getElem_to {l : List Value} {ds : List D} {h : Heap} {i : Nat} {d : D} (r : RVs h l ds) (e : ds[i]? = some d) : ∃ v, l[i]? = some v ∧ RV h v d := by
  have hi : i < ds.length := (List.getElem?_eq_some_iff.mp e).1
  have hl : i < l.length := by rw [r.1]; exact hi
  exact ⟨l[i], List.getElem?_eq_getElem hl, r.2 i _ d (List.getElem?_eq_getElem hl) e⟩

theorem idx_ok {value slice : Expr} {v u : Value} {x y : D} {P : D → Prop} (hs : notSlice slice = true) (r1 : RV s.heap v x) (r2 : RV s.heap u y) (h : idxW x y P) :
    wpAny (model prog w) A (subscriptTail value slice v u) (fun v s' => Keeps s s' ∧ ∃ d, RV s'.heap v d ∧ P d) Fls s := by
  have hsub : ∀ o i, subscripted slice false o i = operate [o, i] (getItem o i) := by
    intro o i
    cases slice <;> first | rfl | simp [notSlice] at hs
  unfold idxW at h
  obtain ⟨k, rfl, h⟩ := intP_inv h
  obtain ⟨t, rfl⟩ := r2.inv_int
  rcases tlP_inv h with ⟨l, rfl, h⟩ | ⟨l, rfl, h⟩
  · obtain ⟨a, vs, rfl, hl, hv⟩ := r1.inv_tup
    obtain ⟨hlo, hhi, d, e, hP⟩ := h
    obtain ⟨v, ev, rv⟩ := getElem_to hv e
    have hlt : k.toNat < vs.length := (List.getElem?_eq_some_iff.mp ev).1
    refine item_tupleT (l := vs) (j := k.toNat) hl (by first | with_reducible assumption | with_reducible exact Int.le_of_lt (by assumption) | with_reducible exact Nat.le_of_lt (by assumption) | omega) (by first | with_reducible assumption | with_reducible exact Int.le_of_lt (by assumption) | with_reducible exact Nat.le_of_lt (by assumption) | omega) ?_ ev ⟨kRefl s, d, rv, hP⟩ (hsub _ _)
    have e1 : (0 : Int) ≤ k := hlo
    have e2 : k < vs.length := by omega
    simp [seqIndex?, Int.not_lt.mpr e1, e1, e2]
  · obtain ⟨a, vs, rfl, hl, hv⟩ := r1.inv_list
    obtain ⟨hlo, hhi, d, e, h0, hP⟩ := h
    obtain ⟨v, ev, rv⟩ := getElem_to hv e
    refine tail_any hl.typeIs slot_list_getitem.lookup ?_ (hsub _ _)
    by_cases hk : k < 0
    · simp only [if_pos hk] at ev h0
      refine wpAny_getItem_list_neg hl hk ?_ ?_ (x := v) ?_ ⟨kRefl s, d, rv, hP⟩
      all_goals first | omega | (simp only [List.size_toArray]; rw [hv.1]; omega) | (simp only [List.size_toArray]; rw [hv.1]; simpa using ev) | skip
    · rw [if_neg hk] at ev
      exact wpAny_getItem_list hl (by first | with_reducible assumption | with_reducible exact Int.le_of_lt (by assumption) | with_reducible exact Nat.le_of_lt (by assumption) | omega) (by first | with_reducible assumption | with_reducible exact Int.le_of_lt (by assumption) | with_reducible exact Nat.le_of_lt (by assumption) | omega) (x := v) (by simpa using ev) ⟨kRefl s, d, rv, hP⟩

theorem slc_ok {value : Expr} {q : Pos} {lo hi : Option Expr} {a sl : Addr} {vs : List Value} {ds : List D} {vl vu : Value} {i j : Option Int} {P : D → Prop} (hl : s.heap.IsList a vs.toArray) (hv : RVs s.heap vs ds)
    (hs : s.heap.IsSliceOf sl vl vu .none) (pl : IsPart vl i) (pu : IsPart vu j) (hz : ds.length ≤ 2 ^ 20) (h : P (.list (cut ds i j))) :
    wpAny (model prog w) A (subscriptTail value (.Slice lo hi none q) (.ref a) (.ref sl)) (fun v s' => Keeps s s' ∧ ∃ d, RV s'.heap v d ∧ P d) Fls s := by
  refine tail_any hl.typeIs slot_list_getitem.lookup (wpAny_getItem_list_slice hl hs pl pu .none (by simp) ?_ (by rw [List.size_toArray, hv.1]; exact size_le hz)) (ops := [.ref sl, .ref a]) rfl
  rw [slicePick_plain]
  refine ⟨push_keeps _, _, new_list (ds := cut ds i j) ?_ rfl, h⟩
  unfold cut
  simp only [List.size_toArray, hv.1]
  exact (hv.drop _).take _
end ops2


section sound
variable {prog : Program} {w : World} {hB h₀ : Heap} {mg mb : Str → Option Value} {us : Us} {N : List Str} {sc : Scope} {Γ : Str → List D → D → Prop} {n : Nat} {name : Str} {L : Addr} {a : Option Addr × Option Addr} {cd : Value} {cs : List (Str × Addr)}

/-- the facts of a frame that never change -/
structure Cx (prog : Program) (w : World) (hB h₀ : Heap) (mg mb : Str → Option Value) (us : Us) (N : List Str) (sc : Scope) (Γ : Str → List D → D → Prop) (n : Nat) (name : Str) (L : Addr) (a : Option Addr × Option Addr) (cd : Value) (cs : List (Str × Addr)) : Prop where
  W : Wd hB mg mb us.l
  G : ∀ f ds r, us.l.contains (.fn f) = true → Γ f ds r → CallsTo prog w hB mg n f ds r
  hk : sc.kind = .function
  loc : ∀ x ∈ N, sc.names.lookup x = some .local ∧ (x == ("__debug__" : Str)) = false
  nd : N.Nodup
  base : ∀ b o, hB.get? b = some o → b ≠ L ∧ h₀.get? b = some o
  orc : ∀ x ρ r ex, Γ x ρ r → plainE ex = true → us.o x ex = true → ∀ (A : Around) (s : Shared), AOk n A → St h₀ L N ρ s →
    wpAny (model prog w) A (eval ex (eOf name sc L a cd cs)) (fun v s' => Keeps s s' ∧ RV s'.heap v r) Fls s
  tl : ∀ x ρ r body, Γ x ρ r → us.t x body = true → ∀ (A : Around) (s : Shared), AOk n A → us.k A → St h₀ L N ρ s →
    wpAny (model prog w) A (execs body (eOf name sc L a cd cs)) (fun f s' => Tr L s s' ∧ ∃ ρ' v, St h₀ L N ρ' s' ∧ f = .ret v ∧ RV s'.heap v r) Fls s
  op : ∀ x ρ ρ' st, Γ x ρ (.list ρ') → us.s x st = true → ∀ (A : Around) (s : Shared), AOk n A → us.k A → St h₀ L N ρ s →
    wpAny (model prog w) A (exec st (eOf name sc L a cd cs)) (fun f s' => f = .next ∧ Tr L s s' ∧ St h₀ L N ρ' s') Fls s

/-- what is shown of an expression -/
structure Snd (prog : Program) (w : World) (h₀ : Heap) (us : Us) (N : List Str) (sc : Scope) (Γ : Str → List D → D → Prop) (n : Nat) (name : Str) (L : Addr) (a : Option Addr × Option Addr) (cd : Value) (cs : List (Str × Addr)) (e : E) : Prop where
  val : ∀ ex, chkE us N sc e ex = true → ∀ (A : Around) (s : Shared) (ρ : List D) (P : D → Prop), AOk n A → St h₀ L N ρ s → wp0 Γ e ρ P →
    wpAny (model prog w) A (eval ex (eOf name sc L a cd cs)) (fun v s' => Keeps s s' ∧ ∃ d, RV s'.heap v d ∧ P d) Fls s
  tst : ∀ ex, chkE us N sc e ex = true → ∀ (A : Around) (s : Shared) (ρ : List D) (P : Bool → Prop), AOk n A → St h₀ L N ρ s → wp0 Γ e ρ (fun d => ∃ b, truth d = some b ∧ P b) →
    wpAny (model prog w) A (isTrue ex (eOf name sc L a cd cs) (eval ex (eOf name sc L a cd cs))) (fun b s' => Keeps s s' ∧ P b) Fls s
  lst : ∀ es pos, chkEs us N sc e es = true → ∀ (A : Around) (s : Shared) (ρ : List D) (P : List D → Prop), AOk n A → St h₀ L N ρ s → wpL0 Γ e ρ P →
    wpAny (model prog w) A (spliced (backTo pos (starEach es (eOf name sc L a cd cs)))) (fun vs s' => Keeps s s' ∧ ∃ ds, RVs s'.heap vs ds ∧ P ds) Fls s
  andV : ∀ es pos, chkEs us N sc e es = true → ∀ (A : Around) (s : Shared) (ρ : List D) (P : D → Prop), AOk n A → St h₀ L N ρ s → wpAnd0 Γ e ρ P →
    wpAny (model prog w) A (eval (.BoolOp .And es pos) (eOf name sc L a cd cs)) (fun v s' => Keeps s s' ∧ ∃ d, RV s'.heap v d ∧ P d) Fls s
  orV : ∀ es pos, chkEs us N sc e es = true → ∀ (A : Around) (s : Shared) (ρ : List D) (P : D → Prop), AOk n A → St h₀ L N ρ s → wpOr0 Γ e ρ P →
    wpAny (model prog w) A (eval (.BoolOp .Or es pos) (eOf name sc L a cd cs)) (fun v s' => Keeps s s' ∧ ∃ d, RV s'.heap v d ∧ P d) Fls s
  andT : ∀ es pos whole, chkEs us N sc e es = true → ∀ (A : Around) (s : Shared) (ρ : List D) (P : Bool → Prop), AOk n A → St h₀ L N ρ s → wpAnd0 Γ e ρ (fun d => ∃ b, truth d = some b ∧ P b) →
    wpAny (model prog w) A (isTrue (.BoolOp .And es pos) (eOf name sc L a cd cs) whole) (fun b s' => Keeps s s' ∧ P b) Fls s
  orT : ∀ es pos whole, chkEs us N sc e es = true → ∀ (A : Around) (s : Shared) (ρ : List D) (P : Bool → Prop), AOk n A → St h₀ L N ρ s → wpOr0 Γ e ρ (fun d => ∃ b, truth d = some b ∧ P b) →
    wpAny (model prog w) A (isTrue (.BoolOp .Or es pos) (eOf name sc L a cd cs) whole) (fun b s' => Keeps s s' ∧ P b) Fls s

/-- a value's test -/
theorem tst_of_val {A : Around} {s : Shared} {P : Bool → Prop} {t : Sem Value} (h : wpAny (model prog w) A t (fun v s' => Keeps s s' ∧ ∃ d, RV s'.heap v d ∧ ∃ b, truth d = some b ∧ P b) Fls s) :
    wpAny (model prog w) A t (fun v s₁ => wpAny (model prog w) A (truthy v) (fun b s' => Keeps s s' ∧ P b) Fls s₁) Fls s := by
  refine wpAny_mono h (fun v s₁ h₁ => ?_) fun _ _ x => x
  obtain ⟨k, d, r, b, hb, hp⟩ := h₁
  refine wpAny_mono (truthy_ok r hb) (fun c s₂ h₂ => ?_) fun _ _ x => x
  obtain ⟨k2, rfl⟩ := h₂
  exact ⟨kTrans k k2, hp⟩

theorem chkEs_plain {e : E} (h1 : e ≠ .nil) (h2 : ∀ a r, e ≠ .cons a r) (es : List Expr) : chkEs us N sc e es = false := by
  cases e <;> first | exact absurd rfl h1 | exact absurd rfl (h2 _ _) | rfl

/-- an expression that is no list: its value's part and its test's part are enough -/
theorem Snd.mk' {e : E} (h1 : e ≠ .nil) (h2 : ∀ a r, e ≠ .cons a r)
    (val : ∀ ex, chkE us N sc e ex = true → ∀ (A : Around) (s : Shared) (ρ : List D) (P : D → Prop), AOk n A → St h₀ L N ρ s → wp0 Γ e ρ P →
      wpAny (model prog w) A (eval ex (eOf name sc L a cd cs)) (fun v s' => Keeps s s' ∧ ∃ d, RV s'.heap v d ∧ P d) Fls s)
    (tst : ∀ ex, chkE us N sc e ex = true → ∀ (A : Around) (s : Shared) (ρ : List D) (P : Bool → Prop), AOk n A → St h₀ L N ρ s → wp0 Γ e ρ (fun d => ∃ b, truth d = some b ∧ P b) →
      wpAny (model prog w) A (isTrue ex (eOf name sc L a cd cs) (eval ex (eOf name sc L a cd cs))) (fun b s' => Keeps s s' ∧ P b) Fls s) :
    Snd prog w h₀ us N sc Γ n name L a cd cs e := by
  refine ⟨val, tst, ?_, ?_, ?_, ?_, ?_⟩
  all_goals (intros; rename_i hc _ _ _ _ _ _ _; rw [chkEs_plain h1 h2] at hc; cases hc)

theorem Snd.mkP {e : E} (h1 : e ≠ .nil) (h2 : ∀ a r, e ≠ .cons a r)
    (hpl : ∀ ex, chkE us N sc e ex = true → ∀ t, isTrue ex (eOf name sc L a cd cs) t = (do let v ← t; standAt ex.pos; holding [v] (truthy v)))
    (val : ∀ ex, chkE us N sc e ex = true → ∀ (A : Around) (s : Shared) (ρ : List D) (P : D → Prop), AOk n A → St h₀ L N ρ s → wp0 Γ e ρ P →
      wpAny (model prog w) A (eval ex (eOf name sc L a cd cs)) (fun v s' => Keeps s s' ∧ ∃ d, RV s'.heap v d ∧ P d) Fls s) :
    Snd prog w h₀ us N sc Γ n name L a cd cs e := by
  refine .mk' h1 h2 val fun ex hc A s ρ P hA S h => ?_
  exact isTrue_plain (tst_of_val (val ex hc A s ρ _ hA S h)) (hpl ex hc _)

theorem ld_ok (C : Cx prog w hB h₀ mg mb us N sc Γ n name L a cd cs) {A : Around} {s : Shared} {ρ : List D} {i : Nat} {x : Str} {pos : Pos} {d : D} {Q : Value → Shared → Prop} (S : St h₀ L N ρ s) (hx : N[i]? = some x) (hd : get ρ i = d) (hu : d ≠ .undef)
    (h : ∀ v, RV s.heap v d → Q v s) : wpAny (model prog w) A (eval (.Name x pos) (eOf name sc L a cd cs)) Q Fls s := by
  obtain ⟨m, F, R⟩ := S
  obtain ⟨v, hv, r⟩ := R i x d hx (get_eq hd hu) hu
  have hl := C.loc x (List.mem_of_getElem? hx)
  exact wpAny_Name (wpAny_loadName_local C.hk hl.1 F.ns hv (h v r)) hl.2

theorem fr_of (C : Cx prog w hB h₀ mg mb us N sc Γ n name L a cd cs) {ρ : List D} {s : Shared} (S : St h₀ L N ρ s) : Kp hB s.heap := by
  obtain ⟨m, F, _⟩ := S
  exact fun b o e => F.keep b o (C.base b o e).1 (C.base b o e).2
/-- a name of the module's -/
theorem gl_name (C : Cx prog w hB h₀ mg mb us N sc Γ n name L a cd cs) {A : Around} {s : Shared} {ρ : List D} {x : Str} {v : Value} {pos : Pos} {Q : Value → Shared → Prop} (S : St h₀ L N ρ s) (hv : mg x = some v) (hg : glb sc x = true)
    (h : Q v s) : wpAny (model prog w) A (eval (.Name x pos) (eOf name sc L a cd cs)) Q Fls s := by
  simp only [glb, Bool.and_eq_true, beq_iff_eq, bne_iff_ne, ne_eq] at hg
  exact Calls.Name_function_global C.hk hg.1 (Calls.loadGlobal_global (env := eOf name sc L a cd cs) (C.W.g.keeps (fr_of C S)) hv h) (beq_eq_false_iff_ne.mpr hg.2)

/-- a name of the module's or of the built-ins' -/
theorem bi_name (C : Cx prog w hB h₀ mg mb us N sc Γ n name L a cd cs) {A : Around} {s : Shared} {ρ : List D} {f : B} {x : Str} {pos : Pos} {Q : Value → Shared → Prop} (S : St h₀ L N ρ s) (hf : us.l.contains f = true) (hpl : f.plain = true) (hx : (f.name == x) = true) (hg : glb sc x = true)
    (h : Q f.val s) : wpAny (model prog w) A (eval (.Name x pos) (eOf name sc L a cd cs)) Q Fls s := by
  have hx := eq_of_beq hx
  subst hx
  rcases C.W.bi f (by simpa using hf) hpl with ⟨h1, h2⟩ | h1
  · have hg' := hg
    simp only [glb, Bool.and_eq_true, beq_iff_eq, bne_iff_ne, ne_eq] at hg'
    exact Calls.Name_function_global C.hk hg'.1 (Calls.loadGlobal_builtin (env := eOf name sc L a cd cs) (C.W.g.keeps (fr_of C S)) h1 (C.W.b.keeps (fr_of C S)) h2 h) (beq_eq_false_iff_ne.mpr hg'.2)
  · exact gl_name C S h1 hg h

end sound


section inv
variable {us : Us} {N : List Str} {sc : Scope} {ex : Expr}
theorem iC {c : Const} (h : dsC ex = some c) : ∃ k p, ex = .Constant c k p := by cases ex <;> first | (cases h; exact ⟨_, _, rfl⟩) | cases h
theorem iN {x : Str} (h : dsN ex = some x) : ∃ p, ex = .Name x p := by cases ex <;> first | (cases h; exact ⟨_, rfl⟩) | cases h
theorem iBin {t : Expr × Operator × Expr} (h : dsBin ex = some t) : ∃ p, ex = .BinOp t.1 t.2.1 t.2.2 p := by cases ex <;> first | (cases h; exact ⟨_, rfl⟩) | cases h
theorem iUn {t : UnaryOp × Expr} (h : dsUn ex = some t) : ∃ p, ex = .UnaryOp t.1 t.2 p := by cases ex <;> first | (cases h; exact ⟨_, rfl⟩) | cases h
theorem iCmp {t : Expr × List CmpOp × List Expr} (h : dsCmp ex = some t) : ∃ p, ex = .Compare t.1 t.2.1 t.2.2 p := by cases ex <;> first | (cases h; exact ⟨_, rfl⟩) | cases h
theorem iBool {t : BoolOp × List Expr} (h : dsBool ex = some t) : ∃ p, ex = .BoolOp t.1 t.2 p := by cases ex <;> first | (cases h; exact ⟨_, rfl⟩) | cases h
theorem iIf {t : Expr × Expr × Expr} (h : dsIf ex = some t) : ∃ p, ex = .IfExp t.1 t.2.1 t.2.2 p := by cases ex <;> first | (cases h; exact ⟨_, rfl⟩) | cases h
theorem iCall {t : Expr × List Expr × List Keyword} (h : dsCall ex = some t) : ∃ p, ex = .Call t.1 t.2.1 t.2.2 p := by cases ex <;> first | (cases h; exact ⟨_, rfl⟩) | cases h
theorem iList {es : List Expr} (h : dsList ex = some es) : ∃ p, ex = .List es p := by cases ex <;> first | (cases h; exact ⟨_, rfl⟩) | cases h
theorem iTup {es : List Expr} (h : dsTup ex = some es) : ∃ k p, ex = .Tuple es k p := by cases ex <;> first | (cases h; exact ⟨_, _, rfl⟩) | cases h
theorem iSub {t : Expr × Expr} (h : dsSub ex = some t) : ∃ p, ex = .Subscript t.1 t.2 p := by cases ex <;> first | (cases h; exact ⟨_, rfl⟩) | cases h
theorem iSl {t : Option Expr × Option Expr × Option Expr} (h : dsSl ex = some t) : ∃ p, ex = .Slice t.1 t.2.1 t.2.2 p := by cases ex <;> first | (cases h; exact ⟨_, rfl⟩) | cases h
theorem head_cons {α : Type} {l : List α} {x : α} (h : l.head? = some x) : l = x :: l.tail := by cases l with | nil => cases h | cons y l => cases h; rfl
theorem one_of {α : Type} {l : List α} {x : α} (h : l.head? = some x) (hl : l.length = 1) : l = [x] := by
  rw [head_cons h] at hl ⊢
  have : l.tail = [] := List.length_eq_zero_iff.mp (by simpa using hl)
  rw [this]
theorem two_of {α : Type} {l : List α} {x y : α} (h : l.head? = some x) (h2 : l.tail.head? = some y) (hl : l.length = 2) : l = [x, y] := by
  rw [head_cons h] at hl ⊢
  rw [one_of h2 (by simpa using hl)]
theorem iCallN {t : Str × List Expr} (h : dsCallN sc ex = some t) : ∃ q e es p, ex = .Call (.Name t.1 q) (e :: es) [] p ∧ t.2 = e :: es ∧ glb sc t.1 = true := by
  unfold dsCallN at h
  obtain ⟨c, hc, h1⟩ := Option.bind_eq_some_iff.mp h
  obtain ⟨g, hg, h2⟩ := Option.bind_eq_some_iff.mp h1
  clear h h1
  obtain ⟨f, as, ks⟩ := c
  obtain ⟨p, rfl⟩ := iCall hc
  dsimp only at hg h2 ⊢
  obtain ⟨q, rfl⟩ := iN hg
  have h := h2
  clear h2
  split at h
  · rename_i hh
    simp only [Bool.and_eq_true, List.isEmpty_iff, Bool.not_eq_true'] at hh
    obtain ⟨⟨h1, h2⟩, h3⟩ := hh
    cases h
    subst h1
    cases as with
    | nil => simp at h2
    | cons e es => exact ⟨q, e, es, p, rfl, rfl, h3⟩
  · cases h

theorem inv_lit {i : Int} (h : chkE us N sc (.lit i) ex = true) : ∃ k p, ex = .Constant (.int i) k p := by
  simp only [chkE, beq_iff_eq] at h; exact iC h
theorem inv_bo {i : Bool} (h : chkE us N sc (.bo i) ex = true) : ∃ k p, ex = .Constant (.bool i) k p := by
  simp only [chkE, beq_iff_eq] at h; exact iC h
theorem inv_var {i : Nat} (h : chkE us N sc (.var i) ex = true) : ∃ x p, ex = .Name x p ∧ N[i]? = some x := by
  simp only [chkE, Option.any_eq_true, beq_iff_eq] at h
  obtain ⟨x, hx, h⟩ := h
  obtain ⟨p, rfl⟩ := iN hx
  exact ⟨x, p, rfl, h⟩
theorem inv_bin {op : Operator} {x y : E} (h : chkE us N sc (.bin op x y) ex = true) : ∃ l r p, ex = .BinOp l op r p ∧ chkE us N sc x l = true ∧ chkE us N sc y r = true := by
  simp only [chkE, Option.any_eq_true, Bool.and_eq_true, beq_iff_eq] at h
  obtain ⟨t, ht, ⟨rfl, h1⟩, h2⟩ := h
  obtain ⟨p, rfl⟩ := iBin ht
  exact ⟨_, _, p, rfl, h1, h2⟩
theorem inv_neg {x : E} (h : chkE us N sc (.neg x) ex = true) : ∃ l p, ex = .UnaryOp .USub l p ∧ chkE us N sc x l = true := by
  simp only [chkE, Option.any_eq_true, Bool.and_eq_true, beq_iff_eq] at h
  obtain ⟨⟨o, l⟩, ht, h1, h2⟩ := h
  obtain ⟨p, rfl⟩ := iUn ht
  dsimp only at h1 h2; subst h1
  exact ⟨_, p, rfl, h2⟩
theorem inv_not {x : E} (h : chkE us N sc (.not x) ex = true) : ∃ l p, ex = .UnaryOp .Not l p ∧ chkE us N sc x l = true := by
  simp only [chkE, Option.any_eq_true, Bool.and_eq_true, beq_iff_eq] at h
  obtain ⟨⟨o, l⟩, ht, h1, h2⟩ := h
  obtain ⟨p, rfl⟩ := iUn ht
  dsimp only at h1 h2; subst h1
  exact ⟨_, p, rfl, h2⟩
theorem inv_cmp {op : CmpOp} {x y : E} (h : chkE us N sc (.cmp op x y) ex = true) : ∃ l r p, ex = .Compare l [op] [r] p ∧ behindInMarks op r = false ∧ chkE us N sc x l = true ∧ chkE us N sc y r = true := by
  simp only [chkE, Option.any_eq_true, Bool.and_eq_true, beq_iff_eq] at h
  obtain ⟨⟨l, os, rs⟩, ht, ⟨h1, hl⟩, r, hr, ⟨h2, h3⟩, h4⟩ := h
  obtain ⟨p, rfl⟩ := iCmp ht
  dsimp only at h1 hl hr h2 h3 h4 ⊢
  subst h1
  rw [one_of hr hl]
  exact ⟨l, r, p, rfl, h2, h3, h4⟩
theorem inv_cmp2 {o1 o2 : CmpOp} {x y z : E} (h : chkE us N sc (.cmp2 x o1 y o2 z) ex = true) : ∃ l r r2 p, ex = .Compare l [o1, o2] [r, r2] p ∧ behindInMarks o2 r2 = false ∧ chkE us N sc x l = true ∧ chkE us N sc y r = true ∧ chkE us N sc z r2 = true := by
  simp only [chkE, Option.any_eq_true, Bool.and_eq_true, beq_iff_eq] at h
  obtain ⟨⟨l, os, rs⟩, ht, ⟨h1, hl⟩, r, hr, r2, hr2, ⟨⟨h2, h3⟩, h4⟩, h5⟩ := h
  obtain ⟨p, rfl⟩ := iCmp ht
  dsimp only at h1 hl hr hr2 h2 h3 h4 h5 ⊢
  subst h1
  rw [two_of hr hr2 hl]
  exact ⟨l, r, r2, p, rfl, h2, h3, h4, h5⟩
theorem inv_any {x : E} (h : chkE us N sc (.any x) ex = true) : ∃ es p, ex = .BoolOp .Or es p ∧ chkEs us N sc x es = true := by
  simp only [chkE, Option.any_eq_true, Bool.and_eq_true, beq_iff_eq] at h
  obtain ⟨⟨o, l⟩, ht, h1, h2⟩ := h
  obtain ⟨p, rfl⟩ := iBool ht
  dsimp only at h1 h2; subst h1
  exact ⟨_, p, rfl, h2⟩
theorem inv_ite {x y z : E} (h : chkE us N sc (.ite x y z) ex = true) : ∃ t u v p, ex = .IfExp t u v p ∧ chkE us N sc x t = true ∧ chkE us N sc y u = true ∧ chkE us N sc z v = true := by
  simp only [chkE, Option.any_eq_true, Bool.and_eq_true] at h
  obtain ⟨t, ht, ⟨h1, h2⟩, h3⟩ := h
  obtain ⟨p, rfl⟩ := iIf ht
  exact ⟨_, _, _, p, rfl, h1, h2, h3⟩
theorem inv_call {f : Str} {l : E} (h : chkE us N sc (.call f l) ex = true) : ∃ q e es p, ex = .Call (.Name f q) (e :: es) [] p ∧ us.l.contains (.fn f) = true ∧ glb sc f = true ∧ chkEs us N sc l (e :: es) = true := by
  simp only [chkE, Option.any_eq_true, Bool.and_eq_true, beq_iff_eq] at h
  obtain ⟨t, ht, ⟨h0, rfl⟩, h2⟩ := h
  obtain ⟨q, e, es, p, rfl, h3, h4⟩ := iCallN ht
  exact ⟨q, e, es, p, rfl, h0, h4, h3 ▸ h2⟩
theorem inv_bi {f : B} {l : E} (h : chkE us N sc (.bi f l) ex = true) : ∃ g q e es p, ex = .Call (.Name g q) (e :: es) [] p ∧ us.l.contains f = true ∧ f.plain = true ∧ (f.name == g) = true ∧ glb sc g = true ∧ chkEs us N sc l (e :: es) = true := by
  simp only [chkE, Option.any_eq_true, Bool.and_eq_true] at h
  obtain ⟨t, ht, ⟨⟨h0, h01⟩, h1⟩, h2⟩ := h
  obtain ⟨q, e, es, p, rfl, h3, h4⟩ := iCallN ht
  exact ⟨_, q, e, es, p, rfl, h0, h01, h1, h4, h3 ▸ h2⟩
theorem inv_isI {x : E} (h : chkE us N sc (.isI x) ex = true) : ∃ g q e t q2 p, ex = .Call (.Name g q) [e, .Name t q2] [] p ∧ us.l.contains .isinstance = true ∧ us.l.contains .int = true ∧ (B.isinstance.name == g) = true ∧ (B.int.name == t) = true ∧ glb sc g = true ∧ glb sc t = true ∧ notStarred e = true ∧ chkE us N sc x e = true := by
  simp only [chkE, Option.any_eq_true, Bool.and_eq_true] at h
  obtain ⟨t, ht, ⟨⟨⟨h0, h1⟩, h2⟩, hl⟩, e, he, c, hc, y, hy, ⟨⟨h3, h4⟩, h5⟩, h6⟩ := h
  obtain ⟨q, e', es, p, rfl, h7, h8⟩ := iCallN ht
  obtain ⟨q2, rfl⟩ := iN hy
  have h9 := two_of he hc (by simpa using hl)
  rw [h7] at h9; cases h9
  exact ⟨_, q, e, y, q2, p, rfl, h0, h1, h2, h3, h8, h4, h5, h6⟩
theorem inv_isB {x : E} (h : chkE us N sc (.isB x) ex = true) : ∃ g q e t q2 p, ex = .Call (.Name g q) [e, .Name t q2] [] p ∧ us.l.contains .isinstance = true ∧ us.l.contains .bool = true ∧ (B.isinstance.name == g) = true ∧ (B.bool.name == t) = true ∧ glb sc g = true ∧ glb sc t = true ∧ notStarred e = true ∧ chkE us N sc x e = true := by
  simp only [chkE, Option.any_eq_true, Bool.and_eq_true] at h
  obtain ⟨t, ht, ⟨⟨⟨h0, h1⟩, h2⟩, hl⟩, e, he, c, hc, y, hy, ⟨⟨h3, h4⟩, h5⟩, h6⟩ := h
  obtain ⟨q, e', es, p, rfl, h7, h8⟩ := iCallN ht
  obtain ⟨q2, rfl⟩ := iN hy
  have h9 := two_of he hc (by simpa using hl)
  rw [h7] at h9; cases h9
  exact ⟨_, q, e, y, q2, p, rfl, h0, h1, h2, h3, h8, h4, h5, h6⟩
theorem inv_lst {x : E} (h : chkE us N sc (.lst x) ex = true) : ∃ es p, ex = .List es p ∧ chkEs us N sc x es = true := by
  simp only [chkE, Option.any_eq_true] at h
  obtain ⟨t, ht, h⟩ := h
  obtain ⟨p, rfl⟩ := iList ht
  exact ⟨_, p, rfl, h⟩
theorem inv_tup {x : E} (h : chkE us N sc (.tup x) ex = true) : ∃ es k p, ex = .Tuple es k p ∧ chkEs us N sc x es = true := by
  simp only [chkE, Option.any_eq_true] at h
  obtain ⟨t, ht, h⟩ := h
  obtain ⟨k, p, rfl⟩ := iTup ht
  exact ⟨_, k, p, rfl, h⟩
theorem inv_idx {x y : E} (h : chkE us N sc (.idx x y) ex = true) : ∃ v ix p, ex = .Subscript v ix p ∧ notSlice ix = true ∧ chkE us N sc x v = true ∧ chkE us N sc y ix = true := by
  simp only [chkE, Option.any_eq_true, Bool.and_eq_true] at h
  obtain ⟨t, ht, ⟨h1, h2⟩, h3⟩ := h
  obtain ⟨p, rfl⟩ := iSub ht
  exact ⟨_, _, p, rfl, h1, h2, h3⟩
/-- a part of a cut -/
noncomputable def chkP (us : Us) (N : List Str) (sc : Scope) (e : E) (x : Option Expr) : Bool := if e.isNil then x.isNone else x.any fun y => chkE us N sc e y
theorem inv_slc {x y z : E} (h : chkE us N sc (.slc x y z) ex = true) : ∃ v l u q p, ex = .Subscript v (.Slice l u none q) p ∧ chkE us N sc x v = true ∧ chkP us N sc y l = true ∧ chkP us N sc z u = true := by
  simp only [chkE, Option.any_eq_true, Bool.and_eq_true] at h
  obtain ⟨t, ht, h1, ⟨l, u, st⟩, hu, ⟨h2, h3⟩, h4⟩ := h
  obtain ⟨p, rfl⟩ := iSub ht
  obtain ⟨v, ix⟩ := t
  dsimp only at h1 hu h2 h3 h4 ⊢
  obtain ⟨q, rfl⟩ := iSl hu
  dsimp only at h2 h3 h4 ⊢
  simp only [Option.isNone_iff_eq_none] at h2
  subst h2
  exact ⟨v, l, u, q, p, rfl, h1, h3, h4⟩
theorem inv_nil {es : List Expr} (h : chkEs us N sc .nil es = true) : es = [] := by
  simpa [chkEs] using h
theorem inv_cons {x r : E} {es : List Expr} (h : chkEs us N sc (.cons x r) es = true) : ∃ e es', es = e :: es' ∧ notStarred e = true ∧ chkE us N sc x e = true ∧ chkEs us N sc r es' = true := by
  simp only [chkEs, Option.any_eq_true, Bool.and_eq_true] at h
  obtain ⟨e, he, ⟨h1, h2⟩, h3⟩ := h
  exact ⟨e, es.tail, head_cons he, h1, h2, h3⟩
theorem cons_of {l : E} {e : Expr} {es : List Expr} (h : chkEs us N sc l (e :: es) = true) : ∃ x r, l = .cons x r := by
  cases l <;> first | exact ⟨_, _, rfl⟩ | (simp only [chkEs, List.isEmpty_cons] at h; cases h)
end inv


theorem intP_mono {P P' : Int → Prop} (hp : ∀ d, P d → P' d) {d : D} (h : intP P d) : intP P' d := by cases d <;> first | exact hp _ h | exact h
theorem lP_mono {P P' : List D → Prop} (hp : ∀ d, P d → P' d) {d : D} (h : lP P d) : lP P' d := by cases d <;> first | exact hp _ h | exact h
theorem ibP_mono {P P' : Int → Prop} {Q Q' : Bool → Prop} (hp : ∀ d, P d → P' d) (hq : ∀ d, Q d → Q' d) {d : D} (h : ibP P Q d) : ibP P' Q' d := by cases d <;> first | exact hp _ h | exact hq _ h | exact h
theorem ilP_mono {P P' : Int → Prop} {Q Q' : List D → Prop} (hp : ∀ d, P d → P' d) (hq : ∀ d, Q d → Q' d) {d : D} (h : ilP P Q d) : ilP P' Q' d := by cases d <;> first | exact hp _ h | exact hq _ h | exact h
theorem slP_mono {P P' : Str → Prop} {Q Q' : List D → Prop} (hp : ∀ d, P d → P' d) (hq : ∀ d, Q d → Q' d) {d : D} (h : slP P Q d) : slP P' Q' d := by cases d <;> first | exact hp _ h | exact hq _ h | exact h
theorem tlP_mono {P P' : List D → Prop} {Q Q' : List D → Prop} (hp : ∀ d, P d → P' d) (hq : ∀ d, Q d → Q' d) {d : D} (h : tlP P Q d) : tlP P' Q' d := by cases d <;> first | exact hp _ h | exact hq _ h | exact h
theorem ii_mono {k k' : Int → Int → Prop} {x y : D} (hp : ∀ a b, k a b → k' a b) (h : ii x y k) : ii x y k' := intP_mono (fun a h => intP_mono (fun b h => hp a b h) h) h
theorem l1_mono {k k' : D → Prop} {ds : List D} (hp : ∀ d, k d → k' d) (h : l1 k ds) : l1 k' ds := by
  obtain ⟨x, rfl, h⟩ := l1_inv h; exact hp _ h
theorem l2_mono {k k' : D → D → Prop} {ds : List D} (hp : ∀ d e, k d e → k' d e) (h : l2 k ds) : l2 k' ds := by
  obtain ⟨x, y, rfl, h⟩ := l2_inv h; exact hp _ _ h
theorem binW_mono {op : Operator} {x y : D} {P P' : D → Prop} (hp : ∀ d, P d → P' d) (h : binW op x y P) : binW op x y P' := by
  cases op <;> first
    | exact ii_mono (fun _ _ h => hp _ h) h
    | exact ii_mono (fun _ _ h => ⟨h.1, hp _ h.2⟩) h
    | exact ii_mono (fun _ _ h => ⟨h.1, h.2.1, hp _ h.2.2⟩) h
    | exact ilP_mono (fun _ h => ibP_mono (fun _ h => hp _ h) (fun _ h => hp _ h) h) (fun _ h => lP_mono (fun _ h => ⟨h.1, hp _ h.2⟩) h) h
    | exact h
theorem cmpW_mono {op : CmpOp} {x y : D} {P P' : Bool → Prop} (hp : ∀ d, P d → P' d) (h : cmpW op x y P) : cmpW op x y P' := by
  cases op <;> first | exact ii_mono (fun _ _ h => hp _ h) h | exact intP_mono (fun _ h => lP_mono (fun _ h => let ⟨ns, e, h⟩ := h; ⟨ns, e, hp _ h⟩) h) h | exact h
theorem biW_mono {f : B} {ds : List D} {P P' : D → Prop} (hp : ∀ d, P d → P' d) (h : biW f ds P) : biW f ds P' := by
  by_cases hs : f = .sum
  · subst hs
    exact l1_mono (fun _ h => lP_mono (fun _ h => let ⟨ns, e, h⟩ := h; ⟨ns, e, hp _ h⟩) h) h
  cases f <;> first
    | exact absurd rfl hs
    | exact l1_mono (fun _ h => intP_mono (fun _ h => hp _ h) h) h
    | exact l1_mono (fun _ h => intP_mono (fun _ h => ⟨h.1, hp _ h.2⟩) h) h
    | exact l2_mono (fun _ _ h => ii_mono (fun _ _ h => hp _ h) h) h
    | exact l2_mono (fun _ _ h => ii_mono (fun _ _ h => ⟨h.1, h.2.1, hp _ h.2.2⟩) h) h
    | exact l1_mono (fun _ h => lP_mono (fun _ h => ⟨h.1, hp _ h.2⟩) h) h
    | exact l1_mono (fun _ h => slP_mono (fun _ h => ⟨h.1, hp _ h.2⟩) (fun _ h => ⟨h.1, hp _ h.2⟩) h) h
    | exact h
theorem idxW_mono {x y : D} {P P' : D → Prop} (hp : ∀ d, P d → P' d) (h : idxW x y P) : idxW x y P' :=
  intP_mono (fun _ h => tlP_mono (fun _ ⟨a, b, d, e, g⟩ => ⟨a, b, d, e, hp _ g⟩) (fun _ ⟨a, b, d, e, f, g⟩ => ⟨a, b, d, e, f, hp _ g⟩) h) h
theorem isIP_mono {P P' : D → Prop} (hp : ∀ d, P d → P' d) {d : D} (h : isIP P d) : isIP P' d := ibP_mono (fun _ h => hp _ h) (fun _ h => hp _ h) h
theorem isBP_mono {P P' : D → Prop} (hp : ∀ d, P d → P' d) {d : D} (h : isBP P d) : isBP P' d := ibP_mono (fun _ h => hp _ h) (fun _ h => hp _ h) h
theorem cutP_mono {i j : Option Int} {P P' : D → Prop} (hp : ∀ d, P d → P' d) {d : D} (h : cutP i j P d) : cutP i j P' d := lP_mono (fun _ h => ⟨h.1, hp _ h.2⟩) h

section
variable {Γ : Str → List D → D → Prop}
structure Mono (Γ : Str → List D → D → Prop) (e : E) : Prop where
  w : ∀ (ρ : List D) (P P' : D → Prop), (∀ d, P d → P' d) → wp0 Γ e ρ P → wp0 Γ e ρ P'
  a : ∀ (ρ : List D) (P P' : D → Prop), (∀ d, P d → P' d) → wpAnd0 Γ e ρ P → wpAnd0 Γ e ρ P'
  o : ∀ (ρ : List D) (P P' : D → Prop), (∀ d, P d → P' d) → wpOr0 Γ e ρ P → wpOr0 Γ e ρ P'
  l : ∀ (ρ : List D) (P P' : List D → Prop), (∀ d, P d → P' d) → wpL0 Γ e ρ P → wpL0 Γ e ρ P'
theorem Mono.mk' {e : E} (h1 : e ≠ .nil) (h2 : ∀ x r, e ≠ .cons x r) (w : ∀ (ρ : List D) (P P' : D → Prop), (∀ d, P d → P' d) → wp0 Γ e ρ P → wp0 Γ e ρ P') : Mono Γ e := by
  refine ⟨w, ?_, ?_, ?_⟩
  · intro ρ P P' hp h; cases e <;> first | exact absurd rfl h1 | exact absurd rfl (h2 _ _) | exact h.elim
  · intro ρ P P' hp h; cases e <;> first | exact absurd rfl h1 | exact absurd rfl (h2 _ _) | exact h.elim
  · intro ρ P P' hp h; cases e <;> first | exact absurd rfl h1 | exact absurd rfl (h2 _ _) | exact h.elim
theorem mono (e : E) : Mono Γ e := by
  induction e with
  | lit i => exact .mk' (by simp) (by simp) fun ρ P P' hp h => by simp only [wp0] at h ⊢; exact hp _ h
  | bo i => exact .mk' (by simp) (by simp) fun ρ P P' hp h => by simp only [wp0] at h ⊢; exact hp _ h
  | var i => exact .mk' (by simp) (by simp) fun ρ P P' hp h => by simp only [wp0] at h ⊢; exact ⟨h.1, hp _ h.2⟩
  | bin op x y ihx ihy =>
    exact .mk' (by simp) (by simp) fun ρ P P' hp h => by
      simp only [wp0] at h ⊢; exact ihx.w ρ _ _ (fun d hd => ihy.w ρ _ _ (fun d' hd' => binW_mono hp hd') hd) h
  | neg x ih =>
    exact .mk' (by simp) (by simp) fun ρ P P' hp h => by
      simp only [wp0] at h ⊢; exact ih.w ρ _ _ (fun d hd => intP_mono (fun i hi => hp _ hi) hd) h
  | not x ih =>
    exact .mk' (by simp) (by simp) fun ρ P P' hp h => by
      simp only [wp0] at h ⊢; exact ih.w ρ _ _ (fun d ⟨b, hb, hd⟩ => ⟨b, hb, hp _ hd⟩) h
  | cmp op x y ihx ihy =>
    exact .mk' (by simp) (by simp) fun ρ P P' hp h => by
      simp only [wp0] at h ⊢; exact ihx.w ρ _ _ (fun d hd => ihy.w ρ _ _ (fun d' hd' => cmpW_mono (fun c hc => hp _ hc) hd') hd) h
  | cmp2 x o1 y o2 z ihx ihy ihz =>
    exact .mk' (by simp) (by simp) fun ρ P P' hp h => by
      simp only [wp0] at h ⊢
      refine ihx.w ρ _ _ (fun d hd => ihy.w ρ _ _ (fun d' hd' => cmpW_mono (fun c hc => ?_) hd') hd) h
      cases c with
      | true => simp only [if_true] at hc ⊢; exact ihz.w ρ _ _ (fun _ h => cmpW_mono (fun _ h => hp _ h) h) hc
      | false => simp only [Bool.false_eq_true, if_false] at hc ⊢; exact hp _ hc
  | any l ih => exact .mk' (by simp) (by simp) fun ρ P P' hp h => by simp only [wp0] at h ⊢; exact ih.o ρ _ _ hp h
  | ite c x y ihc ihx ihy =>
    exact .mk' (by simp) (by simp) fun ρ P P' hp h => by
      simp only [wp0] at h ⊢
      refine ihc.w ρ _ _ (fun d ⟨b, hb, hd⟩ => ⟨b, hb, ?_⟩) h
      cases b with
      | true => simp only [if_true] at hd ⊢; exact ihx.w ρ _ _ hp hd
      | false => simp only [Bool.false_eq_true, if_false] at hd ⊢; exact ihy.w ρ _ _ hp hd
  | call f l ih =>
    exact .mk' (by simp) (by simp) fun ρ P P' hp h => by
      simp only [wp0] at h ⊢; exact ih.l ρ _ _ (fun ds ⟨r, hr, hd⟩ => ⟨r, hr, hp _ hd⟩) h
  | bi f l ih =>
    exact .mk' (by simp) (by simp) fun ρ P P' hp h => by
      simp only [wp0] at h ⊢; exact ih.l ρ _ _ (fun ds hd => biW_mono hp hd) h
  | isI x ih =>
    exact .mk' (by simp) (by simp) fun ρ P P' hp h => by
      simp only [wp0] at h ⊢; exact ih.w ρ _ _ (fun d hd => isIP_mono hp hd) h
  | isB x ih =>
    exact .mk' (by simp) (by simp) fun ρ P P' hp h => by
      simp only [wp0] at h ⊢; exact ih.w ρ _ _ (fun d hd => isBP_mono hp hd) h
  | nil =>
    refine ⟨?_, ?_, ?_, ?_⟩
    · intro ρ P P' hp h; simp only [wp0] at h
    · intro ρ P P' hp h; simp only [wpAnd0] at h
    · intro ρ P P' hp h; simp only [wpOr0] at h
    · intro ρ P P' hp h; simp only [wpL0] at h ⊢; exact hp _ h
  | cons x r ihx ihr =>
    refine ⟨?_, ?_, ?_, ?_⟩
    · intro ρ P P' hp h; simp only [wp0] at h
    · intro ρ P P' hp h
      simp only [wpAnd0] at h ⊢
      refine ihx.w ρ _ _ (fun d hd => ?_) h
      split at hd
      · rename_i hc; rw [if_pos hc]; exact hp _ hd
      · rename_i hc; rw [if_neg hc]
        obtain ⟨b, hb, hd⟩ := hd
        refine ⟨b, hb, ?_⟩
        cases b with
        | true => simp only [if_true] at hd ⊢; exact ihr.a ρ _ _ hp hd
        | false => simp only [Bool.false_eq_true, if_false] at hd ⊢; exact hp _ hd
    · intro ρ P P' hp h
      simp only [wpOr0] at h ⊢
      refine ihx.w ρ _ _ (fun d hd => ?_) h
      split at hd
      · rename_i hc; rw [if_pos hc]; exact hp _ hd
      · rename_i hc; rw [if_neg hc]
        obtain ⟨b, hb, hd⟩ := hd
        refine ⟨b, hb, ?_⟩
        cases b with
        | true => simp only [if_true] at hd ⊢; exact hp _ hd
        | false => simp only [Bool.false_eq_true, if_false] at hd ⊢; exact ihr.o ρ _ _ hp hd
    · intro ρ P P' hp h; simp only [wpL0] at h ⊢; exact ihx.w ρ _ _ (fun d hd => ihr.l ρ _ _ (fun ds h => hp _ h) hd) h
  | lst l ih =>
    exact .mk' (by simp) (by simp) fun ρ P P' hp h => by
      simp only [wp0] at h ⊢; exact ih.l ρ _ _ (fun ds hd => ⟨hd.1, hp _ hd.2⟩) h
  | tup l ih =>
    exact .mk' (by simp) (by simp) fun ρ P P' hp h => by
      simp only [wp0] at h ⊢; exact ih.l ρ _ _ (fun ds hd => ⟨hd.1, hp _ hd.2⟩) h
  | idx x y ihx ihy =>
    exact .mk' (by simp) (by simp) fun ρ P P' hp h => by
      simp only [wp0] at h ⊢; exact ihx.w ρ _ _ (fun d hd => ihy.w ρ _ _ (fun d' hd' => idxW_mono hp hd') hd) h
  | slc x lo hi ihx ihl ihh =>
    exact .mk' (by simp) (by simp) fun ρ P P' hp h => by
      simp only [wp0] at h ⊢
      have part : ∀ {e : E} (ih : Mono Γ e) (P P' : Option Int → Prop), (∀ i, P i → P' i) → partP e.isNil (wp0 Γ e ρ) P → partP e.isNil (wp0 Γ e ρ) P' := by
        intro e ih P P' hp h
        unfold partP at h ⊢
        split at h
        · rename_i hc; rw [if_pos hc]; exact hp _ h
        · rename_i hc; rw [if_neg hc]; exact ih.w ρ _ _ (fun d hd => intP_mono (fun i hi => hp _ hi) hd) h
      exact ihx.w ρ _ _ (fun d hd => part ihl _ _ (fun i hi => part ihh _ _ (fun j hj => cutP_mono hp hj) hi) hd) h
theorem wp_mono {e : E} {ρ : List D} {P P' : D → Prop} (h : wp0 Γ e ρ P) (hp : ∀ d, P d → P' d) : wp0 Γ e ρ P' := (mono e).w ρ P P' hp h
end


section sound
variable {prog : Program} {w : World} {hB h₀ : Heap} {mg mb : Str → Option Value} {us : Us} {N : List Str} {sc : Scope} {Γ : Str → List D → D → Prop} {n : Nat} {name : Str} {L : Addr} {a : Option Addr × Option Addr} {cd : Value} {cs : List (Str × Addr)}

abbrev SndC (prog : Program) (w : World) (h₀ : Heap) (us : Us) (N : List Str) (sc : Scope) (Γ : Str → List D → D → Prop) (n : Nat) (name : Str) (L : Addr) (a : Option Addr × Option Addr) (cd : Value) (cs : List (Str × Addr)) (e : E) : Prop := Snd prog w h₀ us N sc Γ n name L a cd cs e

theorem isinst_ok {A : Around} {s : Shared} {v : Value} {d : D} {P : D → Prop} (r : RV s.heap v d) (h : isIP P d) :
    wpAny (model prog w) A (call (.builtin "isinstance") [v, .type "int"]) (fun v s' => Keeps s s' ∧ ∃ d, RV s'.heap v d ∧ P d) Fls s := by
  rcases ibP_inv h with ⟨i, rfl, h⟩ | ⟨c, rfl, h⟩
  · obtain ⟨t, rfl⟩ := r.inv_int; exact call_isinstance_yes (PySem.typeIs_int s i t) F.isi_meta_int F.isi_self_int ⟨kRefl s, _, .bool true, h⟩
  · obtain rfl := r.inv_bool; exact call_isinstance_yes (Tx := "bool") (PySem.typeIs_bool s c) F.isi_meta_int (by rw [isSubtype_type]; kernel_rfl) ⟨kRefl s, _, .bool true, h⟩
theorem isinstB_ok {A : Around} {s : Shared} {v : Value} {d : D} {P : D → Prop} (r : RV s.heap v d) (h : isBP P d) :
    wpAny (model prog w) A (call (.builtin "isinstance") [v, .type "bool"]) (fun v s' => Keeps s s' ∧ ∃ d, RV s'.heap v d ∧ P d) Fls s := by
  rcases ibP_inv h with ⟨i, rfl, h⟩ | ⟨c, rfl, h⟩
  · obtain ⟨t, rfl⟩ := r.inv_int
    exact PySem.call_isinstance (PySem.isinstance_false_int (T := "bool") (by decide) F.isi_meta_bool isSubtype_int_bool) ⟨kTok s _, _, .bool false, h⟩
  · obtain rfl := r.inv_bool; exact call_isinstance_yes (Tx := "bool") (PySem.typeIs_bool s c) F.isi_meta_bool (by rw [isSubtype_type]; kernel_rfl) ⟨kRefl s, _, .bool true, h⟩

theorem part_ok {e : E} (ih : SndC prog w h₀ us N sc Γ n name L a cd cs e) {l : Option Expr} (hc : chkP us N sc e l = true) {A : Around} {s : Shared} {ρ : List D} {P : Option Int → Prop} (hA : AOk n A) (S : St h₀ L N ρ s)
    (h : partP e.isNil (wp0 Γ e ρ) P) : wpAny (model prog w) A (evalPart l (eOf name sc L a cd cs)) (fun v s' => Keeps s s' ∧ ∃ i, IsPart v i ∧ P i) Fls s := by
  unfold chkP at hc
  unfold partP at h
  split at h
  · rename_i hn
    rw [if_pos hn] at hc
    simp only [Option.isNone_iff_eq_none] at hc
    subst hc
    exact wpAny_evalPart_none ⟨kRefl s, _, .none, h⟩
  · rename_i hn
    rw [if_neg hn] at hc
    obtain ⟨x, rfl, hx⟩ := (Option.any_eq_true ..).mp hc
    refine wpAny_evalPart_some (wpAny_mono (ih.val x hx A s ρ _ hA S h) (fun v s' h' => ?_) fun _ _ x => x)
    obtain ⟨k, d, r, hp⟩ := h'
    obtain ⟨i, rfl, hp⟩ := intP_inv hp
    obtain ⟨t, rfl⟩ := r.inv_int
    exact ⟨k, _, .int _ _, hp⟩

theorem args_ok {x r : E} (ihx : SndC prog w h₀ us N sc Γ n name L a cd cs x) (ihr : SndC prog w h₀ us N sc Γ n name L a cd cs r) {es : List Expr} {pos : Pos} (hc : chkEs us N sc (.cons x r) es = true)
    {A : Around} {s : Shared} {ρ : List D} {P : List D → Prop} (hA : AOk n A) (S : St h₀ L N ρ s) (h : wpL0 Γ (.cons x r) ρ P) :
    wpAny (model prog w) A (spliced (backTo pos (starEach es (eOf name sc L a cd cs)))) (fun vs s' => Keeps s s' ∧ ∃ ds, RVs s'.heap vs ds ∧ P ds) Fls s := by
  obtain ⟨e, es, rfl, hs, h1, h2⟩ := inv_cons hc
  refine args_cons ?_ (starEach_cons hs)
  simp only [wpL0] at h
  refine wpAny_mono (ihx.val e h1 A s ρ _ hA S h) (fun v s' h' => ?_) fun _ _ x => x
  obtain ⟨k, d, rv, hp⟩ := h'
  refine wpAny_mono (ihr.lst es pos h2 A s' ρ _ hA (S.keeps k) hp) (fun vs s'' h'' => ?_) fun _ _ x => x
  obtain ⟨k2, ds, rs, hp2⟩ := h''
  exact ⟨kTrans k k2, _, RVs.cons (rv.keep (kSeq k2)) rs, hp2⟩

theorem isNil_iff {r : E} : r.isNil = true ↔ r = .nil := by cases r <;> simp
theorem wpAnd_more {x r : E} {ρ : List D} {P : D → Prop} (hr : r ≠ .nil) : wpAnd0 Γ (.cons x r) ρ P = wp0 Γ x ρ fun d => ∃ b, truth d = some b ∧ if b = true then wpAnd0 Γ r ρ P else P d := by
  have hn : ¬ r.isNil = true := fun h => hr (isNil_iff.mp h)
  simp only [wpAnd0, if_neg hn]
theorem wpOr_more {x r : E} {ρ : List D} {P : D → Prop} (hr : r ≠ .nil) : wpOr0 Γ (.cons x r) ρ P = wp0 Γ x ρ fun d => ∃ b, truth d = some b ∧ if b = true then P d else wpOr0 Γ r ρ P := by
  have hn : ¬ r.isNil = true := fun h => hr (isNil_iff.mp h)
  simp only [wpOr0, if_neg hn]
theorem wpAnd_one {x : E} {ρ : List D} {P : D → Prop} : wpAnd0 Γ (.cons x .nil) ρ P = wp0 Γ x ρ P := by simp only [wpAnd0, E.isNil, if_true]
theorem wpOr_one {x : E} {ρ : List D} {P : D → Prop} : wpOr0 Γ (.cons x .nil) ρ P = wp0 Γ x ρ P := by simp only [wpOr0, E.isNil, if_true]
theorem val_cases (f : B) (h : f.plain = true) : (∃ id, f.val = .builtin id) ∨ (∃ T, f.val = .type T) := by
  cases f <;> first | exact .inl ⟨_, rfl⟩ | exact .inr ⟨_, rfl⟩ | cases h
theorem nil_of {r : E} (h : chkEs us N sc r [] = true) : r = .nil := by
  cases r <;> first | rfl | (simp only [chkEs, List.head?_nil, Option.any_none] at h; cases h)
theorem chkEs_stars {l : E} {e : Expr} {es : List Expr} (h : chkEs us N sc l (e :: es) = true) {env : Env} {pos : Pos} : (backTo pos (starEach es env)).any (·.1) = false := by
  have gen : ∀ (es : List Expr) (l : E), chkEs us N sc l es = true → (backTo pos (starEach es env)).any (·.1) = false := by
    intro es
    induction es with
    | nil => intro l _; rfl
    | cons e es ih =>
      intro l hl
      obtain ⟨x, r, rfl⟩ := cons_of hl
      obtain ⟨e', es', e1, hs, _, h2⟩ := inv_cons hl
      cases e1
      have := ih _ h2
      rw [starEach_cons hs]
      simpa [backTo] using this
  obtain ⟨x, r, rfl⟩ := cons_of h
  obtain ⟨e', es', e1, hs, _, h2⟩ := inv_cons h
  cases e1
  exact gen es _ h2
theorem callB {A : Around} {s : Shared} {env : Env} {v : Value} {e : Expr} {es : List Expr} {pos : Pos} {Q : Value → Shared → Prop} (hs : notStarred e = true) (hst : (backTo pos (starEach es env)).any (·.1) = false) (hv : (∃ id, v = .builtin id) ∨ (∃ T, v = .type T))
    (h : wpAny (model prog w) A (spliced (backTo pos (starEach (e :: es) env))) (fun vs s₁ => wpAny (model prog w) A (call v vs) Q Fls s₁) Fls s) :
    wpAny (model prog w) A (callWith pos v [] (backTo pos (starEach (e :: es) env)) []) Q Fls s := by
  have he := starEach_cons (rest := es) (env := env) hs
  rcases hv with ⟨id, rfl⟩ | ⟨T, rfl⟩
  · exact callWith_builtin1 h he hst
  · rw [he] at h ⊢
    exact PyProof.Rows.callWith_type (by show (false || (backTo pos (starEach es env)).any (·.1)) = false; rw [hst]; rfl) (evalArgs_plain h)

theorem sound (C : Cx prog w hB h₀ mg mb us N sc Γ n name L a cd cs) : ∀ e : E, SndC prog w h₀ us N sc Γ n name L a cd cs e := by
  intro e
  induction e with
  | lit i =>
    refine .mkP (by simp) (by simp) (fun ex hc t => by obtain ⟨k, p, rfl⟩ := inv_lit hc; rfl) fun ex hc A s ρ P hA S h => ?_
    obtain ⟨k, p, rfl⟩ := inv_lit hc
    simp only [wp0] at h
    exact wpAny_Constant_int (tok_ok h)
  | bo i =>
    refine .mkP (by simp) (by simp) (fun ex hc t => by obtain ⟨k, p, rfl⟩ := inv_bo hc; rfl) fun ex hc A s ρ P hA S h => ?_
    obtain ⟨k, p, rfl⟩ := inv_bo hc
    simp only [wp0] at h
    exact Constant_bool ⟨kRefl s, _, .bool _, h⟩
  | var i =>
    refine .mkP (by simp) (by simp) (fun ex hc t => by obtain ⟨x, p, rfl, _⟩ := inv_var hc; rfl) fun ex hc A s ρ P hA S h => ?_
    obtain ⟨x, p, rfl, hx⟩ := inv_var hc
    simp only [wp0] at h
    exact ld_ok C S hx rfl h.1 fun v r => ⟨kRefl s, _, r, h.2⟩
  | bin op x y ihx ihy =>
    refine .mkP (by simp) (by simp) (fun ex hc t => by obtain ⟨_, _, _, rfl, _⟩ := inv_bin hc; rfl) fun ex hc A s ρ P hA S h => ?_
    obtain ⟨l, r, p, rfl, h1, h2⟩ := inv_bin hc
    simp only [wp0] at h
    refine wpAny_BinOp (wpAny_mono (ihx.val l h1 A s ρ _ hA S h) (fun v s' h' => ?_) fun _ _ x => x)
    obtain ⟨k, d, rv, hp⟩ := h'
    refine wpAny_mono (ihy.val r h2 A s' ρ _ hA (S.keeps k) hp) (fun u s'' h'' => ?_) fun _ _ x => x
    obtain ⟨k2, d2, ru, hp2⟩ := h''
    exact wpAny_mono (bin_ok (rv.keep (kSeq k2)) ru hp2) (fun _ _ x => ⟨kTrans k (kTrans k2 x.1), x.2⟩) fun _ _ x => x
  | neg x ihx =>
    refine .mkP (by simp) (by simp) (fun ex hc t => by obtain ⟨_, _, rfl, _⟩ := inv_neg hc; rfl) fun ex hc A s ρ P hA S h => ?_
    obtain ⟨l, p, rfl, h1⟩ := inv_neg hc
    simp only [wp0] at h
    refine UnaryOp_ (wpAny_mono (ihx.val l h1 A s ρ _ hA S h) (fun v s' h' => ?_) fun _ _ x => x)
    obtain ⟨k, d, rv, hp⟩ := h'
    obtain ⟨i, rfl, hp⟩ := intP_inv hp
    obtain ⟨t, rfl⟩ := rv.inv_int; exact PySem.P.neg_int ⟨kTrans k (kTok _ _), _, .int _ _, hp⟩
  | not x ihx =>
    refine .mk' (by simp) (by simp) (fun ex hc A s ρ P hA S h => ?_) fun ex hc A s ρ P hA S h => ?_
    · obtain ⟨l, p, rfl, h1⟩ := inv_not hc
      simp only [wp0] at h
      refine UnaryOp_ (wpAny_mono (ihx.val l h1 A s ρ _ hA S h) (fun v s' h' => ?_) fun _ _ x => x)
      obtain ⟨k, d, rv, b, hb, hp⟩ := h'
      refine not_of (wpAny_mono (truthy_ok rv hb) (fun c s'' h'' => ?_) fun _ _ x => x)
      obtain ⟨k2, rfl⟩ := h''
      exact ⟨kTrans k k2, _, .bool _, hp⟩
    · obtain ⟨l, p, rfl, h1⟩ := inv_not hc
      simp only [wp0] at h
      refine isTrue_not (wpAny_mono (ihx.tst l h1 A s ρ (fun c => P (!c)) hA S ?_) (fun c s' h' => ⟨h'.1, h'.2⟩) fun _ _ x => x)
      simpa [truth] using h
  | cmp op x y ihx ihy =>
    have key : ∀ ex, chkE us N sc (.cmp op x y) ex = true → ∀ (A : Around) (s : Shared) (ρ : List D) (P : Bool → Prop), AOk n A → St h₀ L N ρ s → (wp0 Γ x ρ fun x => wp0 Γ y ρ fun y => cmpW op x y P) →
        ∃ l r p, ex = .Compare l [op] [r] p ∧ behindInMarks op r = false ∧ wpAny (model prog w) A (eval l (eOf name sc L a cd cs)) (fun v s₁ => wpAny (model prog w) A (eval r (eOf name sc L a cd cs)) (fun u s₂ => wpAny (model prog w) A (compareOp op v u) (fun c s₃ => Keeps s s₃ ∧ ∃ b, c = .bool b ∧ P b) Fls s₂) Fls s₁) Fls s := by
      intro ex hc A s ρ P hA S h
      obtain ⟨l, r, p, rfl, hm, h1, h2⟩ := inv_cmp hc
      refine ⟨l, r, p, rfl, hm, wpAny_mono (ihx.val l h1 A s ρ _ hA S h) (fun v s' h' => ?_) fun _ _ x => x⟩
      obtain ⟨k, d, rv, hp⟩ := h'
      refine wpAny_mono (ihy.val r h2 A s' ρ _ hA (S.keeps k) hp) (fun u s'' h'' => ?_) fun _ _ x => x
      obtain ⟨k2, d2, ru, hp2⟩ := h''
      refine wpAny_mono (cmp_ok (rv.keep (kSeq k2)) ru hp2) (fun c s₃ h₃ => ?_) fun _ _ x => x
      obtain ⟨rfl, b, rfl, hb⟩ := h₃
      exact ⟨kTrans k k2, b, rfl, hb⟩
    refine .mk' (by simp) (by simp) (fun ex hc A s ρ P hA S h => ?_) fun ex hc A s ρ P hA S h => ?_
    · simp only [wp0] at h
      obtain ⟨l, r, p, rfl, hm, hh⟩ := key ex hc A s ρ _ hA S h
      refine wpAny_Compare1 (wpAny_mono hh (fun v s₁ h₁ => wpAny_mono h₁ (fun u s₂ h₂ => wpAny_mono h₂ (fun c s₃ h₃ => ?_) fun _ _ x => x) fun _ _ x => x) fun _ _ x => x) hm
      obtain ⟨k, b, rfl, hb⟩ := h₃
      exact ⟨k, _, .bool _, hb⟩
    · simp only [wp0] at h
      obtain ⟨l, r, p, rfl, hm, hh⟩ := key ex hc A s ρ _ hA S h
      refine wpAny_isTrue_Compare1 (wpAny_mono hh (fun v s₁ h₁ => wpAny_mono h₁ (fun u s₂ h₂ => wpAny_mono h₂ (fun c s₃ h₃ => ?_) fun _ _ x => x) fun _ _ x => x) fun _ _ x => x) hm
      obtain ⟨k, b, rfl, c, hb, hp⟩ := h₃
      simp only [truth, Option.some.injEq] at hb
      subst hb
      exact wpAny_truthy_bool ⟨k, hp⟩
  | cmp2 x o1 y o2 z ihx ihy ihz =>
    have key : ∀ ex, chkE us N sc (.cmp2 x o1 y o2 z) ex = true → ∀ (A : Around) (s : Shared) (ρ : List D) (P : Bool → Prop), AOk n A → St h₀ L N ρ s →
        (wp0 Γ x ρ fun x => wp0 Γ y ρ fun y => cmpW o1 x y fun t => if t = true then wp0 Γ z ρ fun z => cmpW o2 y z P else P false) →
        ∃ l r r2 p, ex = .Compare l [o1, o2] [r, r2] p ∧ behindInMarks o2 r2 = false ∧ wpAny (model prog w) A (eval l (eOf name sc L a cd cs)) (fun v s₁ => wpAny (model prog w) A (eval r (eOf name sc L a cd cs)) (fun u s₂ => wpAny (model prog w) A (compareOp o1 v u)
          (fun c s₃ => ∃ b, c = .bool b ∧ if b = true then wpAny (model prog w) A (eval r2 (eOf name sc L a cd cs)) (fun z s₄ => wpAny (model prog w) A (compareOp o2 u z) (fun c s₅ => Keeps s s₅ ∧ ∃ b, c = .bool b ∧ P b) Fls s₄) Fls s₃ else Keeps s s₃ ∧ P false) Fls s₂) Fls s₁) Fls s := by
      intro ex hc A s ρ P hA S h
      obtain ⟨l, r, r2, p, rfl, hm, h1, h2, h3⟩ := inv_cmp2 hc
      refine ⟨l, r, r2, p, rfl, hm, wpAny_mono (ihx.val l h1 A s ρ _ hA S h) (fun v s' h' => ?_) fun _ _ x => x⟩
      obtain ⟨k, d, rv, hp⟩ := h'
      refine wpAny_mono (ihy.val r h2 A s' ρ _ hA (S.keeps k) hp) (fun u s'' h'' => ?_) fun _ _ x => x
      obtain ⟨k2, d2, ru, hp2⟩ := h''
      refine wpAny_mono (cmp_ok (rv.keep (kSeq k2)) ru hp2) (fun c s₃ h₃ => ?_) fun _ _ x => x
      obtain ⟨rfl, b, rfl, hb⟩ := h₃
      refine ⟨b, rfl, ?_⟩
      cases b with
      | false => simp only [Bool.false_eq_true, if_false] at hb ⊢; exact ⟨kTrans k k2, hb⟩
      | true =>
        simp only [if_true] at hb ⊢
        refine wpAny_mono (ihz.val r2 h3 A s₃ ρ _ hA ((S.keeps k).keeps k2) hb) (fun z' s₄ h₄ => ?_) fun _ _ x => x
        obtain ⟨k4, d4, rz, hp4⟩ := h₄
        refine wpAny_mono (cmp_ok (ru.keep (kSeq k4)) rz hp4) (fun c s₅ h₅ => ?_) fun _ _ x => x
        obtain ⟨rfl, b, rfl, hb⟩ := h₅
        exact ⟨kTrans (kTrans k k2) k4, b, rfl, hb⟩
    refine .mk' (by simp) (by simp) (fun ex hc A s ρ P hA S h => ?_) fun ex hc A s ρ P hA S h => ?_
    · simp only [wp0] at h
      obtain ⟨l, r, r2, p, rfl, hm, hh⟩ := key ex hc A s ρ _ hA S h
      refine Compare_chain (rs := []) (wpAny_mono hh (fun v s₁ h₁ => chain_link (wpAny_mono h₁ (fun u s₂ h₂ => wpAny_mono h₂ (fun c s₃ h₃ => ?_) fun _ _ x => x) fun _ _ x => x)) fun _ _ x => x) (by simpa [lastMarks] using hm)
      obtain ⟨b, rfl, hb⟩ := h₃
      refine wpAny_truthy_bool ?_
      cases b with
      | false => simp only [Bool.false_eq_true, if_false] at hb ⊢; exact ⟨hb.1, _, .bool _, hb.2⟩
      | true =>
        simp only [if_true] at hb ⊢
        refine chain_last (wpAny_mono hb (fun z s₄ h₄ => wpAny_mono h₄ (fun c s₅ h₅ => ?_) fun _ _ x => x) fun _ _ x => x)
        obtain ⟨kk, b, rfl, hb⟩ := h₅
        exact ⟨kk, _, .bool _, hb⟩
    · simp only [wp0] at h
      obtain ⟨l, r, r2, p, rfl, hm, hh⟩ := key ex hc A s ρ _ hA S h
      refine isTrue_chain (rs := []) (wpAny_mono hh (fun v s₁ h₁ => test_link (wpAny_mono h₁ (fun u s₂ h₂ => wpAny_mono h₂ (fun c s₃ h₃ => ?_) fun _ _ x => x) fun _ _ x => x)) fun _ _ x => x) (by simpa [lastMarks] using hm)
      obtain ⟨b, rfl, hb⟩ := h₃
      refine wpAny_truthy_bool ?_
      cases b with
      | false =>
        simp only [Bool.false_eq_true, if_false] at hb ⊢
        obtain ⟨kk, c, hc, hp⟩ := hb
        simp only [truth, Option.some.injEq] at hc
        subst hc
        exact ⟨kk, hp⟩
      | true =>
        simp only [if_true] at hb ⊢
        refine test_last (wpAny_mono hb (fun z s₄ h₄ => wpAny_mono h₄ (fun c s₅ h₅ => ?_) fun _ _ x => x) fun _ _ x => x)
        obtain ⟨kk, b, rfl, c, hc, hp⟩ := h₅
        simp only [truth, Option.some.injEq] at hc
        subst hc
        exact wpAny_truthy_bool ⟨kk, hp⟩
  | any l ih =>
    refine .mk' (by simp) (by simp) (fun ex hc A s ρ P hA S h => ?_) fun ex hc A s ρ P hA S h => ?_
    · obtain ⟨es, p, rfl, h1⟩ := inv_any hc
      simp only [wp0] at h
      exact ih.orV es p h1 A s ρ P hA S h
    · obtain ⟨es, p, rfl, h1⟩ := inv_any hc
      simp only [wp0] at h
      exact ih.orT es p _ h1 A s ρ P hA S h
  | ite c x y ihc ihx ihy =>
    refine .mk' (by simp) (by simp) (fun ex hc A s ρ P hA S h => ?_) fun ex hc A s ρ P hA S h => ?_
    · obtain ⟨t, u, v, p, rfl, h1, h2, h3⟩ := inv_ite hc
      simp only [wp0] at h
      refine IfExp_ (wpAny_mono (ihc.tst t h1 A s ρ (fun t => if t = true then wp0 Γ x ρ P else wp0 Γ y ρ P) hA S h) (fun c s' h' => ?_) fun _ _ x => x)
      obtain ⟨k, hp⟩ := h'
      cases c with
      | true => simp only [if_true] at hp ⊢; exact wpAny_mono (ihx.val u h2 A s' ρ _ hA (S.keeps k) hp) (fun _ _ x => ⟨kTrans k x.1, x.2⟩) fun _ _ x => x
      | false => simp only [Bool.false_eq_true, if_false] at hp ⊢; exact wpAny_mono (ihy.val v h3 A s' ρ _ hA (S.keeps k) hp) (fun _ _ x => ⟨kTrans k x.1, x.2⟩) fun _ _ x => x
    · obtain ⟨t, u, v, p, rfl, h1, h2, h3⟩ := inv_ite hc
      simp only [wp0] at h
      refine isTrue_IfExp (wpAny_mono (ihc.tst t h1 A s ρ (fun t => if t = true then wp0 Γ x ρ (fun d => ∃ b, truth d = some b ∧ P b) else wp0 Γ y ρ (fun d => ∃ b, truth d = some b ∧ P b)) hA S h) (fun c s' h' => ?_) fun _ _ x => x)
      obtain ⟨k, hp⟩ := h'
      cases c with
      | true => simp only [if_true] at hp ⊢; exact wpAny_mono (ihx.tst u h2 A s' ρ _ hA (S.keeps k) hp) (fun _ _ x => ⟨kTrans k x.1, x.2⟩) fun _ _ x => x
      | false => simp only [Bool.false_eq_true, if_false] at hp ⊢; exact wpAny_mono (ihy.tst v h3 A s' ρ _ hA (S.keeps k) hp) (fun _ _ x => ⟨kTrans k x.1, x.2⟩) fun _ _ x => x
  | call f l ih =>
    refine .mkP (by simp) (by simp) (fun ex hc t => by obtain ⟨_, _, _, _, rfl, _⟩ := inv_call hc; rfl) fun ex hc A s ρ P hA S h => ?_
    obtain ⟨q, e, es, p, rfl, hfn, hg, h1⟩ := inv_call hc
    simp only [wp0] at h
    have hgl := hg
    simp only [glb, Bool.and_eq_true, beq_iff_eq, bne_iff_ne, ne_eq] at hg
    have ne := cons_of h1
    obtain ⟨x, r, rfl⟩ := ne
    obtain ⟨e', es', e1, hs, _, _⟩ := inv_cons h1
    cases e1
    -- the def's name: its value is told by the call's own fact
    have key := ih.lst (e :: es) p h1 A s ρ _ hA S h
    obtain ⟨ad, o, fd, hm, ho, hd⟩ := C.W.fn f (by simpa using hfn)
    refine Call_ (gl_name C S hm hgl ?_)
    refine callWith_def hd (wpAny_mono key (fun vs s' h' => ?_) fun _ _ x => x) (starEach_cons hs)
    obtain ⟨k, ds, rs, r, hr, hp⟩ := h'
    have kb : Kp hB s'.heap := (fr_of C S).trans (kAll k)
    refine ⟨kb _ _ ho, ?_⟩
    obtain ⟨ad', o', fd', hm', ho', hd', go⟩ := C.G f ds r hfn hr
    rw [hm] at hm'; cases hm'
    exact wpAny_mono (go A s' vs hA kb rs) (fun v s'' h'' => ⟨kTrans k h''.1, _, h''.2, hp⟩) fun _ _ x => x
  | bi f l ih =>
    refine .mkP (by simp) (by simp) (fun ex hc t => by obtain ⟨_, _, _, _, _, rfl, _⟩ := inv_bi hc; rfl) fun ex hc A s ρ P hA S h => ?_
    obtain ⟨g, q, e, es, p, rfl, hf, hpl, hg, hgl, h1⟩ := inv_bi hc
    simp only [wp0] at h
    refine Call_ (bi_name C S hf hpl hg hgl ?_)
    have ne := cons_of h1
    obtain ⟨x, r, rfl⟩ := ne
    obtain ⟨e', es', e1, hs, _, _⟩ := inv_cons h1
    cases e1
    have key := ih.lst (e :: es) p h1 A s ρ _ hA S h
    refine callB hs (chkEs_stars h1) (val_cases f hpl) (wpAny_mono key (fun vs s' h' => ?_) fun _ _ x => x)
    obtain ⟨k, ds, rs, hp⟩ := h'
    exact wpAny_mono (bi_ok hA.1 rs hp) (fun _ _ x => ⟨kTrans k x.1, x.2⟩) fun _ _ x => x
  | isI x ih =>
    refine .mkP (by simp) (by simp) (fun ex hc t => by obtain ⟨_, _, _, _, _, _, rfl, _⟩ := inv_isI hc; rfl) fun ex hc A s ρ P hA S h => ?_
    obtain ⟨g, q, e, t, q2, p, rfl, hu1, hu2, hg, ht, hgl, htl, hs, h1⟩ := inv_isI hc
    simp only [wp0] at h
    refine Call_ (bi_name C S hu1 rfl hg hgl ?_)
    refine callB hs rfl (Or.inl ⟨_, rfl⟩) (args_cons (wpAny_mono (ih.val e h1 A s ρ _ hA S h) (fun v s' h' => ?_) fun _ _ x => x) (starEach_cons hs))
    obtain ⟨k, d, rv, hp⟩ := h'
    refine args_cons (bi_name C (S.keeps k) hu2 rfl ht htl (args_nil ?_))
    exact wpAny_mono (isinst_ok rv hp) (fun _ _ x => ⟨kTrans k x.1, x.2⟩) fun _ _ x => x
  | isB x ih =>
    refine .mkP (by simp) (by simp) (fun ex hc t => by obtain ⟨_, _, _, _, _, _, rfl, _⟩ := inv_isB hc; rfl) fun ex hc A s ρ P hA S h => ?_
    obtain ⟨g, q, e, t, q2, p, rfl, hu1, hu2, hg, ht, hgl, htl, hs, h1⟩ := inv_isB hc
    simp only [wp0] at h
    refine Call_ (bi_name C S hu1 rfl hg hgl ?_)
    refine callB hs rfl (Or.inl ⟨_, rfl⟩) (args_cons (wpAny_mono (ih.val e h1 A s ρ _ hA S h) (fun v s' h' => ?_) fun _ _ x => x) (starEach_cons hs))
    obtain ⟨k, d, rv, hp⟩ := h'
    refine args_cons (bi_name C (S.keeps k) hu2 rfl ht htl (args_nil ?_))
    exact wpAny_mono (isinstB_ok rv hp) (fun _ _ x => ⟨kTrans k x.1, x.2⟩) fun _ _ x => x
  | nil =>
    refine ⟨fun ex hc => by simp [chkE] at hc, fun ex hc => by simp [chkE] at hc, ?_, ?_, ?_, ?_, ?_⟩
    · intro es pos hc A s ρ P hA S h
      obtain rfl := inv_nil hc
      simp only [wpL0] at h
      exact args_nil ⟨kRefl s, [], RVs.nil, h⟩
    · intro es pos hc A s ρ P hA S h; exact h.elim
    · intro es pos hc A s ρ P hA S h; exact h.elim
    · intro es pos whole hc A s ρ P hA S h; exact h.elim
    · intro es pos whole hc A s ρ P hA S h; exact h.elim
  | cons x r ihx ihr =>
    refine ⟨fun ex hc => by simp [chkE] at hc, fun ex hc => by simp [chkE] at hc, ?_, ?_, ?_, ?_, ?_⟩
    · intro es pos hc A s ρ P hA S h
      exact args_ok ihx ihr hc hA S h
    · intro es pos hc A s ρ P hA S h
      obtain ⟨e, es, rfl, hs, h1, h2⟩ := inv_cons hc
      by_cases hr : r = .nil
      · subst hr
        obtain rfl := inv_nil h2
        rw [wpAnd_one] at h
        exact BoolOp_one (ihx.val e h1 A s ρ P hA S h)
      · obtain ⟨e2, es2, rfl⟩ : ∃ e2 es2, es = e2 :: es2 := by
          cases es with
          | nil => exact absurd (nil_of h2) hr
          | cons e2 es2 => exact ⟨_, _, rfl⟩
        rw [wpAnd_more hr] at h
        refine BoolOp_and (wpAny_mono (ihx.val e h1 A s ρ _ hA S h) (fun v s' h' => ?_) fun _ _ x => x)
        obtain ⟨k, d, rv, b, hb, hp⟩ := h'
        refine wpAny_mono (truthy_ok rv hb) (fun c s₂ h₂ => ?_) fun _ _ x => x
        obtain ⟨k2, rfl⟩ := h₂
        cases c with
        | true => simp only [if_true] at hp ⊢; exact wpAny_mono (ihr.andV _ pos h2 A s₂ ρ P hA ((S.keeps k).keeps k2) hp) (fun _ _ x => ⟨kTrans k (kTrans k2 x.1), x.2⟩) fun _ _ x => x
        | false => simp only [Bool.false_eq_true, if_false] at hp ⊢; exact ⟨kTrans k k2, d, rv.keep (kSeq k2), hp⟩
    · intro es pos hc A s ρ P hA S h
      obtain ⟨e, es, rfl, hs, h1, h2⟩ := inv_cons hc
      by_cases hr : r = .nil
      · subst hr
        obtain rfl := inv_nil h2
        rw [wpOr_one] at h
        exact BoolOp_one (ihx.val e h1 A s ρ P hA S h)
      · obtain ⟨e2, es2, rfl⟩ : ∃ e2 es2, es = e2 :: es2 := by
          cases es with
          | nil => exact absurd (nil_of h2) hr
          | cons e2 es2 => exact ⟨_, _, rfl⟩
        rw [wpOr_more hr] at h
        refine BoolOp_or (wpAny_mono (ihx.val e h1 A s ρ _ hA S h) (fun v s' h' => ?_) fun _ _ x => x)
        obtain ⟨k, d, rv, b, hb, hp⟩ := h'
        refine wpAny_mono (truthy_ok rv hb) (fun c s₂ h₂ => ?_) fun _ _ x => x
        obtain ⟨k2, rfl⟩ := h₂
        cases c with
        | false => simp only [Bool.false_eq_true, if_false] at hp ⊢; exact wpAny_mono (ihr.orV _ pos h2 A s₂ ρ P hA ((S.keeps k).keeps k2) hp) (fun _ _ x => ⟨kTrans k (kTrans k2 x.1), x.2⟩) fun _ _ x => x
        | true => simp only [if_true] at hp ⊢; exact ⟨kTrans k k2, d, rv.keep (kSeq k2), hp⟩
    · intro es pos whole hc A s ρ P hA S h
      obtain ⟨e, es, rfl, hs, h1, h2⟩ := inv_cons hc
      by_cases hr : r = .nil
      · subst hr
        obtain rfl := inv_nil h2
        rw [wpAnd_one] at h
        refine isTrue_and (wpAny_mono (ihx.tst e h1 A s ρ P hA S h) (fun c s' h' => ?_) fun _ _ x => x)
        cases c with
        | true => simp only [if_true]; exact isTrue_and_nil h'
        | false => simp only [Bool.false_eq_true, if_false]; exact h'
      · rw [wpAnd_more hr] at h
        refine isTrue_and (wpAny_mono (ihx.tst e h1 A s ρ (fun b => if b = true then wpAnd0 Γ r ρ (fun d => ∃ b, truth d = some b ∧ P b) else P false) hA S ?_) (fun c s' h' => ?_) fun _ _ x => x)
        · refine wp_mono h fun d hd => ?_
          obtain ⟨b, hb, hp⟩ := hd
          refine ⟨b, hb, ?_⟩
          cases b with
          | true => simpa using hp
          | false =>
            simp only [Bool.false_eq_true, if_false] at hp ⊢
            obtain ⟨b', hb', hp'⟩ := hp
            rw [hb] at hb'; cases hb'; exact hp'
        · obtain ⟨k, hp⟩ := h'
          cases c with
          | true => simp only [if_true] at hp ⊢; exact wpAny_mono (ihr.andT _ pos whole h2 A s' ρ P hA (S.keeps k) hp) (fun _ _ x => ⟨kTrans k x.1, x.2⟩) fun _ _ x => x
          | false => simp only [Bool.false_eq_true, if_false] at hp ⊢; exact ⟨k, hp⟩
    · intro es pos whole hc A s ρ P hA S h
      obtain ⟨e, es, rfl, hs, h1, h2⟩ := inv_cons hc
      by_cases hr : r = .nil
      · subst hr
        obtain rfl := inv_nil h2
        rw [wpOr_one] at h
        refine isTrue_or (wpAny_mono (ihx.tst e h1 A s ρ P hA S h) (fun c s' h' => ?_) fun _ _ x => x)
        cases c with
        | false => simp only [Bool.false_eq_true, if_false]; exact isTrue_or_nil h'
        | true => simp only [if_true]; exact h'
      · rw [wpOr_more hr] at h
        refine isTrue_or (wpAny_mono (ihx.tst e h1 A s ρ (fun b => if b = true then P true else wpOr0 Γ r ρ (fun d => ∃ b, truth d = some b ∧ P b)) hA S ?_) (fun c s' h' => ?_) fun _ _ x => x)
        · refine wp_mono h fun d hd => ?_
          obtain ⟨b, hb, hp⟩ := hd
          refine ⟨b, hb, ?_⟩
          cases b with
          | false => simpa using hp
          | true =>
            simp only [if_true] at hp ⊢
            obtain ⟨b', hb', hp'⟩ := hp
            rw [hb] at hb'; cases hb'; exact hp'
        · obtain ⟨k, hp⟩ := h'
          cases c with
          | false => simp only [Bool.false_eq_true, if_false] at hp ⊢; exact wpAny_mono (ihr.orT _ pos whole h2 A s' ρ P hA (S.keeps k) hp) (fun _ _ x => ⟨kTrans k x.1, x.2⟩) fun _ _ x => x
          | true => simp only [if_true] at hp ⊢; exact ⟨k, hp⟩
  | lst l ih =>
    refine .mkP (by simp) (by simp) (fun ex hc t => by obtain ⟨_, _, rfl, _⟩ := inv_lst hc; rfl) fun ex hc A s ρ P hA S h => ?_
    obtain ⟨es, p, rfl, h1⟩ := inv_lst hc
    simp only [wp0] at h
    refine List_ (wpAny_mono (ih.lst es p h1 A s ρ _ hA S h) (fun vs s' h' => ?_) fun _ _ x => x)
    obtain ⟨k, ds, rs, hz, hp⟩ := h'
    refine wpAny_newObj_type ⟨kTrans k (push_keeps _), _, new_list rs rfl, hp⟩ ?_
    show vs.toArray.size ≤ sizeLine
    rw [List.size_toArray, rs.1]; exact size_le hz
  | tup l ih =>
    refine .mkP (by simp) (by simp) (fun ex hc t => by obtain ⟨_, _, _, rfl, _⟩ := inv_tup hc; rfl) fun ex hc A s ρ P hA S h => ?_
    obtain ⟨es, kk, p, rfl, h1⟩ := inv_tup hc
    simp only [wp0] at h
    refine Tuple_ (wpAny_mono (ih.lst es p h1 A s ρ _ hA S h) (fun vs s' h' => ?_) fun _ _ x => x)
    obtain ⟨k, ds, rs, hz, hp⟩ := h'
    refine wpAny_newObj_type ⟨kTrans k (push_keeps _), _, new_tup rs rfl, hp⟩ ?_
    show vs.toArray.size ≤ sizeLine
    rw [List.size_toArray, rs.1]; exact size_le hz
  | idx x y ihx ihy =>
    refine .mkP (by simp) (by simp) (fun ex hc t => by obtain ⟨_, _, _, rfl, _⟩ := inv_idx hc; rfl) fun ex hc A s ρ P hA S h => ?_
    obtain ⟨v, ix, p, rfl, hs, h1, h2⟩ := inv_idx hc
    simp only [wp0] at h
    refine Subscript_ (wpAny_mono (ihx.val v h1 A s ρ _ hA S h) (fun o s' h' => ?_) fun _ _ x => x)
    obtain ⟨k, d, rv, hp⟩ := h'
    refine wpAny_mono (ihy.val ix h2 A s' ρ _ hA (S.keeps k) hp) (fun u s'' h'' => ?_) fun _ _ x => x
    obtain ⟨k2, d2, ru, hp2⟩ := h''
    exact wpAny_mono (idx_ok hs (rv.keep (kSeq k2)) ru hp2) (fun _ _ x => ⟨kTrans k (kTrans k2 x.1), x.2⟩) fun _ _ x => x
  | slc x lo hi ihx ihl ihh =>
    refine .mkP (by simp) (by simp) (fun ex hc t => by obtain ⟨_, _, _, _, _, rfl, _⟩ := inv_slc hc; rfl) fun ex hc A s ρ P hA S h => ?_
    obtain ⟨v, l, u, q, p, rfl, h1, h2, h3⟩ := inv_slc hc
    simp only [wp0] at h
    refine Subscript_ (wpAny_mono (ihx.val v h1 A s ρ _ hA S h) (fun o s' h' => ?_) fun _ _ x => x)
    obtain ⟨k, d, rv, hp⟩ := h'
    refine wpAny_Slice (wpAny_mono (part_ok ihl h2 hA (S.keeps k) hp) (fun vl s₂ h₂ => ?_) fun _ _ x => x)
    obtain ⟨k2, i, pi, hp2⟩ := h₂
    refine wpAny_mono (part_ok ihh h3 hA ((S.keeps k).keeps k2) hp2) (fun vu s₃ h₃ => ?_) fun _ _ x => x
    obtain ⟨k3, j, pj, hp3⟩ := h₃
    obtain ⟨ds, rfl, hp3⟩ := lP_inv hp3
    obtain ⟨ad, vs, rfl, hl, hv⟩ := rv.inv_list
    have kk : Keeps s' { s₃ with heap := s₃.heap.push { cls := .type "slice", data := .fields #[vl, vu, .none] } } := kTrans (kTrans k2 k3) (push_keeps _)
    refine wpAny_evalPart_none ?_
    have hl' : Heap.IsList (s₃.heap.push { cls := .type "slice", data := .fields #[vl, vu, .none] }) ad vs.toArray := by
      obtain ⟨o, ho, hc, n, hd⟩ := hl
      exact ⟨o, kAll kk _ _ ho, hc, n, hd⟩
    exact wpAny_mono (slc_ok (s := { s₃ with heap := s₃.heap.push { cls := .type "slice", data := .fields #[vl, vu, .none] } }) hl' (hv.keep (kSeq kk)) (Heap.IsSliceOf.new ..) pi pj hp3.1 hp3.2) (fun _ _ x => ⟨kTrans k (kTrans kk x.1), x.2⟩) fun _ _ x => x
end sound


/-- statements; each block is a row of them -/
inductive S where
  | nil
  | rais
  | ret (e : E)
  | set (i : Nat) (e : E) (r : S)
  | set2 (i j : Nat) (e : E) (r : S)
  | aug (i : Nat) (op : Operator) (e : E) (r : S)
  | ite (c : E) (t e r : S)
  | whl (c : E) (b r : S)
  | forR (i : Nat) (l : E) (b r : S)
  | forL (i : Nat) (e : E) (b r : S)

@[simp] noncomputable def onN (k : List D → Prop) (Q : Option D → List D → Prop) : Option D → List D → Prop
  | none, ρ => k ρ
  | some d, ρ => Q (some d) ρ
@[simp] noncomputable def l3 (k : D → D → D → Prop) : List D → Prop
  | [] => False
  | x :: r => l2 (k x) r
@[simp] noncomputable def tP (P : List D → Prop) : D → Prop
  | .tup l => P l
  | _ => False
@[simp] noncomputable def t2P (P : D → D → Prop) (d : D) : Prop := tP (l2 P) d
@[simp] noncomputable def t3P (P : D → D → D → Prop) (d : D) : Prop := tP (l3 P) d
@[simp] noncomputable def rngP (P : Int → Int → Int → Prop) (ds : List D) : Prop :=
  if ds.length = 1 then l1 (intP fun z => P 0 z 1) ds else if ds.length = 2 then l2 (fun x y => ii x y fun a z => P a z 1) ds else l3 (fun x y u => ii x y fun a z => intP (fun c => P a z c) u) ds
@[simp] noncomputable def augW (op : Operator) (x y : D) (P : D → Prop) : Prop :=
  match op with
  | .Add => ii x y fun a b => P (.int (a + b))
  | .Sub => ii x y fun a b => P (.int (a - b))
  | .Mult => ii x y fun a b => IntMulOk a b ∧ P (.int (a * b))
  | .FloorDiv => ii x y fun a b => b ≠ 0 ∧ b.natAbs.log2 < 9000 ∧ P (.int (a.fdiv b))
  | _ => False
noncomputable def cnt (a z c : Int) : Nat := (Builtin.Range.rangeSize a z c).toNat

section
variable (Γ : Str → List D → D → Prop)
noncomputable def wpS0 : S → List D → (Option D → List D → Prop) → Prop
  | .nil, ρ, Q => Q none ρ
  | .rais, _, _ => False
  | .ret e, ρ, Q => wp0 Γ e ρ fun d => Q (some d) ρ
  | .set i e r, ρ, Q => wp0 Γ e ρ fun d => wpS0 r (ρ.set i d) Q
  | .set2 i j e r, ρ, Q => wp0 Γ e ρ (t2P fun x y => wpS0 r ((ρ.set i x).set j y) Q)
  | .aug i op e r, ρ, Q => get ρ i ≠ .undef ∧ wp0 Γ e ρ fun d => augW op (get ρ i) d fun x => wpS0 r (ρ.set i x) Q
  | .ite c t e r, ρ, Q => wp0 Γ c ρ fun d => ∃ b, truth d = some b ∧ if b = true then wpS0 t ρ (onN (fun ρ' => wpS0 r ρ' Q) Q) else wpS0 e ρ (onN (fun ρ' => wpS0 r ρ' Q) Q)
  | .whl c b r, ρ, Q => ∃ (I : Nat → List D → Prop) (n₀ : Nat), I n₀ ρ ∧ ∀ n ρ', I n ρ' →
      wp0 Γ c ρ' fun d => ∃ t, truth d = some t ∧ if t = true then wpS0 b ρ' (onN (fun ρ'' => ∃ m, m < n ∧ I m ρ'') Q) else wpS0 r ρ' Q
  | .forR i l b r, ρ, Q => wpL0 Γ l ρ (rngP fun a z c => c ≠ 0 ∧ c.natAbs < 2 ^ 30 ∧ Builtin.Range.small a z c = true ∧ ∃ I : Nat → List D → Prop, I 0 ρ ∧
      (∀ k ρ', k < cnt a z c → I k ρ' → wpS0 b (ρ'.set i (.int (a + k * c))) (onN (fun ρ'' => I (k + 1) ρ'') Q)) ∧ ∀ ρ', I (cnt a z c) ρ' → wpS0 r ρ' Q)
  | .forL i e b r, ρ, Q => wp0 Γ e ρ (lP fun ds => ∃ I : Nat → List D → Prop, I 0 ρ ∧
      (∀ (k : Nat) x ρ', ds[k]? = some x → I k ρ' → wpS0 b (ρ'.set i x) (onN (fun ρ'' => I (k + 1) ρ'') Q)) ∧ ∀ ρ', I ds.length ρ' → wpS0 r ρ' Q)
end

noncomputable def isStar : Expr → Bool
  | .Starred .. => true
  | _ => false
noncomputable def swNames (sc : Scope) (ts : List Expr) : List Str :=
  ts.filterMap fun
    | .Name id pos => if sc.names.lookup id == some .local && pos.line == (ts.head?.map (·.pos.line)).getD 0 then some id else none
    | _ => none
noncomputable def sw (sc : Scope) (ts : List Expr) : Expr → Option Bool
  | .Tuple vs _ _ =>
    if !(ts.length == 2 || ts.length == 3) || vs.length != ts.length then some false
    else if vs.any isStar then some false
    else if (swNames sc ts).length != ts.length || (swNames sc ts).eraseDups.length != (swNames sc ts).length then some false
    else if vs.all (foldedForSure 8) then some false
    else if vs.all (constantsAlone 8) then none
    else some true
  | _ => some false

theorem isStar_eq : (fun e : Expr => match e with | .Starred .. => true | _ => false) = isStar := by
  funext e; cases e <;> rfl
theorem sw_pure {sc : Scope} {ts : List Expr} {v : Expr} {name : Str} {L : Addr} {a : Option Addr × Option Addr} {cd : Value} {cs : List (Str × Addr)} {k : Nat} {p : Pos} {b : Bool} (hk : sc.kind = .function) (h : sw sc ts v = some b) :
    swappedStores [.Tuple ts k p] v (eOf name sc L a cd cs) = pure (if b = true then some (swNames sc ts) else none) := by
  have hbk : ((eOf name sc L a cd cs).blockKind != .function) = false := by
    unfold Env.blockKind
    show ((if sc.kind.isAnnotationScope = true then ScopeKind.function else sc.kind) != .function) = false
    rw [hk]; rfl
  cases v <;> first
    | (simp only [sw, Option.some.injEq] at h; subst h; rfl)
    | skip
  rename_i vs k2 p2
  have e : swappedStores [.Tuple ts k p] (.Tuple vs k2 p2) (eOf name sc L a cd cs) =
      (if (!(ts.length == 2 || ts.length == 3) || vs.length != ts.length || (eOf name sc L a cd cs).blockKind != .function) = true then pure none else
        if (vs.any fun e => match e with | .Starred .. => true | _ => false) = true then pure none else
        if ((swNames sc ts).length != ts.length || (swNames sc ts).eraseDups.length != (swNames sc ts).length) = true then pure none else
        if vs.all (foldedForSure 8) = true then pure none else
        if vs.all (constantsAlone 8) = true then (do unsupported "assign.tuple-of-constant-expressions:order-of-the-stores"; pure (some (swNames sc ts))) else pure (some (swNames sc ts))) := by
    rfl
  rw [e, hbk, Bool.or_false, isStar_eq]
  simp only [sw] at h
  split at h
  · rename_i c; rw [if_pos c]; cases h; rfl
  rename_i c; rw [if_neg c]
  split at h
  · rename_i c; rw [if_pos c]; cases h; rfl
  rename_i c; rw [if_neg c]
  split at h
  · rename_i c; rw [if_pos c]; cases h; rfl
  rename_i c; rw [if_neg c]
  split at h
  · rename_i c; rw [if_pos c]; cases h; rfl
  rename_i c; rw [if_neg c]
  split at h
  · cases h
  · rename_i c; rw [if_neg c]; cases h; rfl

section
variable (us : Us) (N : List Str) (sc : Scope)
noncomputable def noComp : Expr → Bool
  | .ListComp .. | .SetComp .. | .DictComp .. => false
  | _ => true
noncomputable def notSet : Expr → Bool
  | .Set .. => false
  | _ => true
/-! what a statement is made of -/
noncomputable def dsAsg : Stmt → Option (List Expr × Expr)
  | .Assign ts v _ => some (ts, v)
  | _ => none
noncomputable def dsAug : Stmt → Option (Expr × Operator × Expr)
  | .AugAssign t o v _ => some (t, o, v)
  | _ => none
noncomputable def dsIfS : Stmt → Option (Expr × List Stmt × List Stmt)
  | .If t b o _ => some (t, b, o)
  | _ => none
noncomputable def dsWh : Stmt → Option (Expr × List Stmt × List Stmt)
  | .While t b o _ => some (t, b, o)
  | _ => none
noncomputable def dsFor : Stmt → Option (Expr × Expr × List Stmt × List Stmt)
  | .For t i b o _ => some (t, i, b, o)
  | _ => none
noncomputable def dsRet : Stmt → Option (Option Expr)
  | .Return e _ => some e
  | _ => none
noncomputable def isRaise : Stmt → Bool
  | .Raise .. => true
  | _ => false
noncomputable def dsAsg1 (st : Stmt) : Option (Expr × Expr) := (dsAsg st).bind fun t => if t.1.length == 1 then t.1.head?.map fun x => (x, t.2) else none
noncomputable def chkS : S → List Stmt → Bool
  | .nil, l => l.isEmpty
  | .rais, l => l.head?.any isRaise
  | .ret e, l => l.head?.any fun st => (dsRet st).any fun o => o.any fun x => chkE us N sc e x
  | .set i e r, l => l.head?.any fun st => (dsAsg1 st).any fun t => (dsN t.1).any (fun x => N[i]? == some x) && noComp t.2 && chkE us N sc e t.2 && chkS r l.tail
  | .set2 i j e r, l => l.head?.any fun st => (dsAsg1 st).any fun t => (dsTup t.1).any fun es => es.length == 2 && es.head?.any fun a => es.tail.head?.any fun b => (dsN a).any fun x => (dsN b).any fun y =>
    i != j && N[i]? == some x && N[j]? == some y && noComp t.2 && (sw sc es t.2).isSome && swNames sc es == [x, y] && chkE us N sc e t.2 && chkS r l.tail
  | .aug i op e r, l => l.head?.any fun st => (dsAug st).any fun t => (dsN t.1).any (fun x => N[i]? == some x) && op == t.2.1 && chkE us N sc e t.2.2 && chkS r l.tail
  | .ite c t e r, l => l.head?.any fun st => (dsIfS st).any fun u => chkE us N sc c u.1 && chkS t u.2.1 && chkS e u.2.2 && chkS r l.tail
  | .whl c b r, l => l.head?.any fun st => (dsWh st).any fun u => chkE us N sc c u.1 && chkS b u.2.1 && u.2.2.isEmpty && chkS r l.tail
  | .forR i l b r, ls => ls.head?.any fun st => (dsFor st).any fun u => (dsN u.1).any (fun x => N[i]? == some x) && us.l.contains .range && u.2.2.2.isEmpty && (dsCallN sc u.2.1).any (fun t => B.range.name == t.1 && chkEs us N sc l t.2) && chkS b u.2.2.1 && chkS r ls.tail
  | .forL i e b r, ls => ls.head?.any fun st => (dsFor st).any fun u => (dsN u.1).any (fun x => N[i]? == some x) && notSet u.2.1 && u.2.2.2.isEmpty && chkE us N sc e u.2.1 && chkS b u.2.2.1 && chkS r ls.tail
end

section inv
variable {us : Us} {N : List Str} {sc : Scope} {st : Stmt}
theorem iAsg {t : List Expr × Expr} (h : dsAsg st = some t) : ∃ p, st = .Assign t.1 t.2 p := by cases st <;> first | (cases h; exact ⟨_, rfl⟩) | cases h
theorem iAug {t : Expr × Operator × Expr} (h : dsAug st = some t) : ∃ p, st = .AugAssign t.1 t.2.1 t.2.2 p := by cases st <;> first | (cases h; exact ⟨_, rfl⟩) | cases h
theorem iIfS {t : Expr × List Stmt × List Stmt} (h : dsIfS st = some t) : ∃ p, st = .If t.1 t.2.1 t.2.2 p := by cases st <;> first | (cases h; exact ⟨_, rfl⟩) | cases h
theorem iWh {t : Expr × List Stmt × List Stmt} (h : dsWh st = some t) : ∃ p, st = .While t.1 t.2.1 t.2.2 p := by cases st <;> first | (cases h; exact ⟨_, rfl⟩) | cases h
theorem iFor {t : Expr × Expr × List Stmt × List Stmt} (h : dsFor st = some t) : ∃ p, st = .For t.1 t.2.1 t.2.2.1 t.2.2.2 p := by cases st <;> first | (cases h; exact ⟨_, rfl⟩) | cases h
theorem iRet {t : Option Expr} (h : dsRet st = some t) : ∃ p, st = .Return t p := by cases st <;> first | (cases h; exact ⟨_, rfl⟩) | cases h
theorem iAsg1 {t : Expr × Expr} (h : dsAsg1 st = some t) : ∃ p, st = .Assign [t.1] t.2 p := by
  unfold dsAsg1 at h
  obtain ⟨u, hu, h1⟩ := Option.bind_eq_some_iff.mp h
  obtain ⟨p, rfl⟩ := iAsg hu
  split at h1
  · rename_i hl
    obtain ⟨x, hx, rfl⟩ := Option.map_eq_some_iff.mp h1
    rw [one_of hx (by simpa using hl)]
    exact ⟨p, rfl⟩
  · cases h1
theorem inv_Nil {l : List Stmt} (h : chkS us N sc .nil l = true) : l = [] := by simpa [chkS] using h
theorem inv_ret {e : E} {l : List Stmt} (h : chkS us N sc (.ret e) l = true) : ∃ x p rest, l = .Return (some x) p :: rest ∧ chkE us N sc e x = true := by
  simp only [chkS, Option.any_eq_true] at h
  obtain ⟨st, hs, o, ho, x, rfl, h⟩ := h
  obtain ⟨p, rfl⟩ := iRet ho
  exact ⟨x, p, l.tail, head_cons hs, h⟩
theorem inv_set {i : Nat} {e : E} {r : S} {l : List Stmt} (h : chkS us N sc (.set i e r) l = true) : ∃ x q v p rest, l = .Assign [.Name x q] v p :: rest ∧ N[i]? = some x ∧ noComp v = true ∧ chkE us N sc e v = true ∧ chkS us N sc r rest = true := by
  simp only [chkS, Option.any_eq_true, Bool.and_eq_true, beq_iff_eq] at h
  obtain ⟨st, hs, t, ht, ⟨⟨⟨x, hx, h1⟩, h2⟩, h3⟩, h4⟩ := h
  obtain ⟨p, rfl⟩ := iAsg1 ht
  obtain ⟨a, v⟩ := t
  obtain ⟨q, rfl⟩ := iN hx
  exact ⟨x, q, v, p, l.tail, head_cons hs, h1, h2, h3, h4⟩
theorem inv_set2 {i j : Nat} {e : E} {r : S} {l : List Stmt} (h : chkS us N sc (.set2 i j e r) l = true) : ∃ x p y q k tp v pos rest, l = .Assign [.Tuple [.Name x p, .Name y q] k tp] v pos :: rest ∧ i ≠ j ∧ N[i]? = some x ∧ N[j]? = some y ∧ noComp v = true ∧
    (sw sc [.Name x p, .Name y q] v).isSome = true ∧ swNames sc [.Name x p, .Name y q] = [x, y] ∧ chkE us N sc e v = true ∧ chkS us N sc r rest = true := by
  simp only [chkS, Option.any_eq_true, Bool.and_eq_true, beq_iff_eq, bne_iff_ne, ne_eq] at h
  obtain ⟨st, hs, ⟨tg, v⟩, ht, es, hes, hl, a, ha, b, hb, x, hx, y, hy, ⟨⟨⟨⟨⟨⟨h0, h1⟩, h2⟩, h3⟩, h4⟩, h5⟩, h6⟩, h7⟩ := h
  obtain ⟨pos, rfl⟩ := iAsg1 ht
  obtain ⟨k, tp, rfl⟩ := iTup hes
  have e1 := two_of ha hb hl
  subst e1
  obtain ⟨p, rfl⟩ := iN hx
  obtain ⟨q, rfl⟩ := iN hy
  exact ⟨x, p, y, q, k, tp, v, pos, l.tail, head_cons hs, h0, h1, h2, h3, h4, h5, h6, h7⟩
theorem inv_aug {i : Nat} {op : Operator} {e : E} {r : S} {l : List Stmt} (h : chkS us N sc (.aug i op e r) l = true) : ∃ x q v p rest, l = .AugAssign (.Name x q) op v p :: rest ∧ N[i]? = some x ∧ chkE us N sc e v = true ∧ chkS us N sc r rest = true := by
  simp only [chkS, Option.any_eq_true, Bool.and_eq_true, beq_iff_eq] at h
  obtain ⟨st, hs, ⟨a, o, v⟩, ht, ⟨⟨⟨x, hx, h1⟩, h2⟩, h3⟩, h4⟩ := h
  obtain ⟨p, rfl⟩ := iAug ht
  dsimp only at hx h2 h3
  subst h2
  obtain ⟨q, rfl⟩ := iN hx
  exact ⟨x, q, v, p, l.tail, head_cons hs, h1, h3, h4⟩
theorem inv_iteS {c : E} {t e r : S} {l : List Stmt} (h : chkS us N sc (.ite c t e r) l = true) : ∃ x b o p rest, l = .If x b o p :: rest ∧ chkE us N sc c x = true ∧ chkS us N sc t b = true ∧ chkS us N sc e o = true ∧ chkS us N sc r rest = true := by
  simp only [chkS, Option.any_eq_true, Bool.and_eq_true] at h
  obtain ⟨st, hs, u, hu, ⟨⟨h1, h2⟩, h3⟩, h4⟩ := h
  obtain ⟨p, rfl⟩ := iIfS hu
  exact ⟨_, _, _, p, l.tail, head_cons hs, h1, h2, h3, h4⟩
theorem inv_whl {c : E} {b r : S} {l : List Stmt} (h : chkS us N sc (.whl c b r) l = true) : ∃ x body p rest, l = .While x body [] p :: rest ∧ chkE us N sc c x = true ∧ chkS us N sc b body = true ∧ chkS us N sc r rest = true := by
  simp only [chkS, Option.any_eq_true, Bool.and_eq_true, List.isEmpty_iff] at h
  obtain ⟨st, hs, ⟨x, b, o⟩, hu, ⟨⟨h1, h2⟩, h3⟩, h4⟩ := h
  obtain ⟨p, rfl⟩ := iWh hu
  dsimp only at h3; subst h3
  exact ⟨_, _, p, l.tail, head_cons hs, h1, h2, h4⟩
theorem inv_forR {i : Nat} {l : E} {b r : S} {ls : List Stmt} (h : chkS us N sc (.forR i l b r) ls = true) : ∃ x q g gq e es cp body p rest, ls = .For (.Name x q) (.Call (.Name g gq) (e :: es) [] cp) body [] p :: rest ∧ N[i]? = some x ∧ us.l.contains .range = true ∧ (B.range.name == g) = true ∧ glb sc g = true ∧
    chkEs us N sc l (e :: es) = true ∧ chkS us N sc b body = true ∧ chkS us N sc r rest = true := by
  simp only [chkS, Option.any_eq_true, Bool.and_eq_true, List.isEmpty_iff] at h
  obtain ⟨st, hs, ⟨tg, it, body, o⟩, hu, ⟨⟨⟨⟨⟨x, hx, h1⟩, h2⟩, h3⟩, t, ht, h4, h5⟩, h6⟩, h7⟩ := h
  obtain ⟨p, rfl⟩ := iFor hu
  dsimp only at hx h3 ht h6; subst h3
  obtain ⟨q, rfl⟩ := iN hx
  obtain ⟨gq, e, es, cp, rfl, h8, h9⟩ := iCallN ht
  exact ⟨x, q, _, gq, e, es, cp, body, p, ls.tail, head_cons hs, by simpa using h1, h2, h4, h9, h8 ▸ h5, h6, h7⟩
theorem inv_forL {i : Nat} {e : E} {b r : S} {ls : List Stmt} (h : chkS us N sc (.forL i e b r) ls = true) : ∃ x q it body p rest, ls = .For (.Name x q) it body [] p :: rest ∧ N[i]? = some x ∧ notSet it = true ∧
    chkE us N sc e it = true ∧ chkS us N sc b body = true ∧ chkS us N sc r rest = true := by
  simp only [chkS, Option.any_eq_true, Bool.and_eq_true, List.isEmpty_iff] at h
  obtain ⟨st, hs, ⟨tg, it, body, o⟩, hu, ⟨⟨⟨⟨⟨x, hx, h1⟩, h2⟩, h3⟩, h5⟩, h6⟩, h7⟩ := h
  obtain ⟨p, rfl⟩ := iFor hu
  dsimp only at hx h3 h2 h5 h6; subst h3
  obtain ⟨q, rfl⟩ := iN hx
  exact ⟨x, q, it, body, p, ls.tail, head_cons hs, by simpa using h1, h2, h5, h6, h7⟩
theorem tP_inv {P : List D → Prop} {d : D} (h : tP P d) : ∃ i, d = .tup i ∧ P i := by cases d <;> first | exact ⟨_, rfl, h⟩ | exact h.elim
theorem l3_inv {k : D → D → D → Prop} {ds : List D} (h : l3 k ds) : ∃ x y z, ds = [x, y, z] ∧ k x y z := by
  cases ds with
  | nil => exact h.elim
  | cons x r => obtain ⟨y, z, rfl, h⟩ := l2_inv h; exact ⟨x, y, z, rfl, h⟩
theorem rngP_inv {P : Int → Int → Int → Prop} {ds : List D} (h : rngP P ds) : (∃ z, ds = [.int z] ∧ P 0 z 1) ∨ (∃ a z, ds = [.int a, .int z] ∧ P a z 1) ∨ (∃ a z c, ds = [.int a, .int z, .int c] ∧ P a z c) := by
  unfold rngP at h
  split at h
  · obtain ⟨x, rfl, h⟩ := l1_inv h
    obtain ⟨z, rfl, h⟩ := intP_inv h
    exact .inl ⟨z, rfl, h⟩
  · split at h
    · obtain ⟨x, y, rfl, h⟩ := l2_inv h
      obtain ⟨a, z, rfl, rfl, h⟩ := ii_inv h
      exact .inr (.inl ⟨a, z, rfl, h⟩)
    · obtain ⟨x, y, u, rfl, h⟩ := l3_inv h
      obtain ⟨a, z, rfl, rfl, h⟩ := ii_inv h
      obtain ⟨c, rfl, h⟩ := intP_inv h
      exact .inr (.inr ⟨a, z, c, rfl, h⟩)
end inv


section sound
variable {prog : Program} {w : World} {hB h₀ : Heap} {mg mb : Str → Option Value} {us : Us} {N : List Str} {sc : Scope} {Γ : Str → List D → D → Prop} {n : Nat} {name : Str} {L : Addr} {a : Option Addr × Option Addr} {cd : Value} {cs : List (Str × Addr)}

noncomputable def FlowIs (h : Heap) : Flow → Option D → Prop
  | .next, none => True
  | .ret v, some d => RV h v d
  | _, _ => False
/-- how a block ends -/
noncomputable def PostS (h₀ : Heap) (L : Addr) (N : List Str) (s : Shared) (Q : Option D → List D → Prop) (f : Flow) (s' : Shared) : Prop :=
  Tr L s s' ∧ ∃ o ρ', St h₀ L N ρ' s' ∧ FlowIs s'.heap f o ∧ Q o ρ'
theorem PostS.tr {s s₁ s' : Shared} {Q : Option D → List D → Prop} {f : Flow} (t : Tr L s s₁) (p : PostS h₀ L N s₁ Q f s') : PostS h₀ L N s Q f s' := ⟨t.trans p.1, p.2⟩

theorem aug_ok {A : Around} {s : Shared} {op : Operator} {v u : Value} {x y : D} {P : D → Prop} (r1 : RV s.heap v x) (r2 : RV s.heap u y) (h : augW op x y P) :
    wpAny (model prog w) A (inplaceOp op v u) (fun v s' => Keeps s s' ∧ ∃ d, RV s'.heap v d ∧ P d) Fls s := by
  cases op with
  | Add => exact ii_ok (t := inplaceOp .Add) r1 r2 h fun _ _ _ _ h => PySem.P.iadd_int (tok_ok h)
  | Sub => exact ii_ok (t := inplaceOp .Sub) r1 r2 h fun _ _ _ _ h => PySem.P.isub_int (tok_ok h)
  | Mult => exact ii_ok (t := inplaceOp .Mult) r1 r2 h fun _ _ _ _ h => PySem.P.imul_int (tok_ok h.2) h.1
  | FloorDiv => exact ii_ok (t := inplaceOp .FloorDiv) r1 r2 h fun _ _ _ _ h => ifloordiv_int h.1 (tok_ok h.2.2) (Or.inl (PyProof.noPylong_of_log2 h.2.1))
  | _ => exact h.elim

/-- a name's store -/
theorem sto_ok (C : Cx prog w hB h₀ mg mb us N sc Γ n name L a cd cs) {A : Around} {s : Shared} {ρ : List D} {i : Nat} {x : Str} {v : Value} {d : D} {Q : Unit → Shared → Prop} (S : St h₀ L N ρ s) (hx : N[i]? = some x) (r : RV s.heap v d)
    (h : ∀ s', St h₀ L N (ρ.set i d) s' → Tr L s s' → Q () s') : wpAny (model prog w) A (storeName (eOf name sc L a cd cs) x v) Q Fls s :=
  S.store hx C.nd r h C.hk (C.loc x (List.mem_of_getElem? hx)).1

theorem st_frL {ρ : List D} {s : Shared} (S : St h₀ L N ρ s) : ∃ o, s.heap.get? L = some o ∧ ∀ items k, o.data ≠ .seq items k := by
  obtain ⟨m, F, _⟩ := S
  obtain ⟨oL, es, ep, hL, r⟩ := id F.ns
  exact ⟨oL, hL, ns_notSeq F.ns hL⟩
theorem st_seq {ρ : List D} {s s' : Shared} (S : St h₀ L N ρ s) (t : Tr L s s') : SeqK s.heap s'.heap := by
  obtain ⟨m, F, _⟩ := S
  exact seqK_of_but F.ns t.all

theorem extBut_keeps {s : Shared} {h' : Heap} (e : Heap.ExtBut s.heap.objs.size s.heap h') : Keeps s { s with heap := h' } :=
  ⟨h', s.toks, rfl, fun b o eb => e b o (Nat.ne_of_lt (Heap.lt_size eb)) eb⟩

theorem swN {v : Expr} {k : Nat} {p : Pos} {ts : List Expr} (C : Cx prog w hB h₀ mg mb us N sc Γ n name L a cd cs) (hs : (sw sc ts v).isSome = true) :
    swappedStores [.Tuple ts k p] v (eOf name sc L a cd cs) = pure none ∨ swappedStores [.Tuple ts k p] v (eOf name sc L a cd cs) = pure (some (swNames sc ts)) := by
  obtain ⟨b, hb⟩ := Option.isSome_iff_exists.mp hs
  have := sw_pure (name := name) (L := L) (a := a) (cd := cd) (cs := cs) (k := k) (p := p) C.hk hb
  cases b with
  | true => exact .inr (by simpa using this)
  | false => exact .inl (by simpa using this)
theorem noComp_swaps {v : Expr} {t : Option Expr} {l : Nat} {env : Env} (h : noComp v = true) : swapsWith v t l env = pure false := by
  cases v <;> first | rfl | simp [noComp] at h
theorem noComp_sole {v : Expr} {t : Expr} {l : Nat} {env : Env} (h : noComp v = true) : swapsWithSole [t] v l env = pure false := noComp_swaps h

/-- a tuple of two into two names -/
theorem asg2_ok (C : Cx prog w hB h₀ mg mb us N sc Γ n name L a cd cs) {A : Around} {s : Shared} {ρ : List D} {i j : Nat} {x y : Str} {p q tp pos : Pos} {k : Nat} {v : Expr} {Q : Flow → Shared → Prop} {P : D → D → Prop} (hA : A.handled = none)
    (hij : i ≠ j) (hx : N[i]? = some x) (hy : N[j]? = some y) (hc : noComp v = true) (hsw : (sw sc [.Name x p, .Name y q] v).isSome = true) (hnm : swNames sc [.Name x p, .Name y q] = [x, y]) (S : St h₀ L N ρ s)
    (h : wpAny (model prog w) A (eval v (eOf name sc L a cd cs)) (fun v s' => Keeps s s' ∧ ∃ d, RV s'.heap v d ∧ t2P P d) Fls s)
    (go : ∀ s' d1 d2, P d1 d2 → St h₀ L N ((ρ.set i d1).set j d2) s' → Tr L s s' → Q .next s') :
    wpAny (model prog w) A (exec (.Assign [.Tuple [.Name x p, .Name y q] k tp] v pos) (eOf name sc L a cd cs)) Q Fls s := by
  have pairs : ∀ u s', Keeps s s' ∧ (∃ d, RV s'.heap u d ∧ t2P P d) → ∃ t v1 v2 d1 d2, u = .ref t ∧ IsTup s'.heap t #[v1, v2] ∧ RV s'.heap v1 d1 ∧ RV s'.heap v2 d2 ∧ P d1 d2 ∧ Keeps s s' := by
    rintro u s' ⟨kk, d, r, hp⟩
    obtain ⟨ds, rfl, hp⟩ := tP_inv hp
    obtain ⟨d1, d2, rfl, hp⟩ := l2_inv hp
    obtain ⟨t, vs, rfl, hl, hv⟩ := r.inv_tup
    obtain ⟨v1, vs, rfl, r1, hv⟩ := hv.inv_cons
    obtain ⟨v2, vs, rfl, r2, hv⟩ := hv.inv_cons
    obtain rfl := hv.inv_nil
    exact ⟨t, v1, v2, _, _, rfl, hl, r1, r2, hp, kk⟩
  rcases swN (name := name) (L := L) (a := a) (cd := cd) (cs := cs) (k := k) (p := tp) C hsw with hw | hw
  · refine Assign_Tuple (wpAny_mono h (fun u s₁ h₁ => ?_) fun _ _ x => x) (noComp_sole hc) hw
    obtain ⟨t, v1, v2, d1, d2, rfl, ht, r1, r2, hp, kk⟩ := pairs u s₁ h₁
    refine assign_Tuple_tuple hA ht rfl rfl fun h' he => ?_
    have k2 := extBut_keeps he
    have S2 := (S.keeps kk).keeps k2
    refine assignInOrder_cons (PyProof.Rows.assign_Name (sto_ok C S2 hx (r1.keep (kSeq k2)) fun s₃ S₃ t₃ => ?_))
    refine assignInOrder_cons (PyProof.Rows.assign_Name (sto_ok C S₃ hy ((r2.keep (kSeq k2)).keep (st_seq S2 t₃)) fun s₄ S₄ t₄ => ?_))
    exact assignInOrder_nil (go s₄ d1 d2 hp S₄ (((kTr (kTrans kk k2)).trans t₃).trans t₄))
  · rw [hnm] at hw
    refine Assign_Tuple_swapped (wpAny_mono h (fun u s₁ h₁ => ?_) fun _ _ x => x) (noComp_sole hc) hw
    obtain ⟨t, v1, v2, d1, d2, rfl, ht, r1, r2, hp, kk⟩ := pairs u s₁ h₁
    show wpAny (model prog w) A (unpackItems (.ref t) (#[v1, v2] : Array Value).size none) _ _ _
    refine unpackItems_tuple hA ht fun h' he => ?_
    show wpAny (model prog w) A (assignInOrder [fun u => bindName (eOf name sc L a cd cs) y u, fun u => bindName (eOf name sc L a cd cs) x u] [v2, v1]) _ _ _
    have k2 := extBut_keeps he
    have S2 := (S.keeps kk).keeps k2
    refine assignInOrder_cons (bindName_ (sto_ok C S2 hy (r2.keep (kSeq k2)) fun s₃ S₃ t₃ => ?_))
    refine assignInOrder_cons (bindName_ (sto_ok C S₃ hx ((r1.keep (kSeq k2)).keep (st_seq S2 t₃)) fun s₄ S₄ t₄ => ?_))
    rw [List.set_comm _ _ hij.symm] at S₄
    exact assignInOrder_nil (go s₄ d1 d2 hp S₄ (((kTr (kTrans kk k2)).trans t₃).trans t₄))

end sound


section sound
variable {prog : Program} {w : World} {hB h₀ : Heap} {mg mb : Str → Option Value} {us : Us} {N : List Str} {sc : Scope} {Γ : Str → List D → D → Prop} {n : Nat} {name : Str} {L : Addr} {a : Option Addr × Option Addr} {cd : Value} {cs : List (Str × Addr)}

/-- a state in which only an iterator's object has moved -/
theorem St.but {ρ : List D} {s : Shared} {h' : Heap} {tk : Nat} {I : Addr} (S : St h₀ L N ρ s) (hL : L ≠ I) (hI : h₀.get? I = none) (hns : ∀ o, s.heap.get? I = some o → ∀ items k, o.data ≠ .seq items k)
    (hk : ∀ b o, b ≠ I → s.heap.get? b = some o → h'.get? b = some o) : St h₀ L N ρ { s with heap := h', toks := tk } := by
  obtain ⟨m, F, R⟩ := S
  have sk : SeqK s.heap h' := by
    intro b o items k e hd
    by_cases hb : b = I
    · subst hb; exact absurd hd (hns o e items k)
    · exact hk b o hb e
  refine ⟨m, ⟨F.ns.at' fun o e => hk _ o hL e, fun b o hb' e => hk b o (fun hb => ?_) (F.keep b o hb' e)⟩, fun i x d e1 e2 e3 => ?_⟩
  · subst hb; rw [hI] at e; cases e
  · obtain ⟨v, hv, r⟩ := R i x d e1 e2 e3
    exact ⟨v, hv, r.keep sk⟩

/-- a for loop over anything that walks -/
theorem for_ok (C : Cx prog w hB h₀ mg mb us N sc Γ n name L a cd cs) {A : Around} {s s₀ : Shared} {ρ : List D} {i : Nat} {x : Str} {px : Pos} {body : List Stmt} {I : Addr} {fp : List Addr} {m : Nat} {P : Nat → Value → Prop} {SW : Nat → Heap → Prop}
    (hx : N[i]? = some x) (W : Walks prog w A I fp [I] m P SW) (hLI : L ≠ I) (hLf : L ∉ fp) (hI : h₀.get? I = none) (hnsq : ∀ k h o, SW k h → h.get? I = some o → ∀ items j, o.data ≠ .seq items j)
    (hst : SW 0 s.heap) (S : St h₀ L N ρ s) (htr : Tr L s₀ s) (hfresh : s₀.heap.get? I = none)
    (J : Nat → List D → Prop) (h0 : J 0 ρ) {Q : Option D → List D → Prop} {dd : Nat → D → Prop}
    (item : ∀ k v, k < m → P k v → ∃ d, dd k d ∧ ∀ h', SeqK s.heap h' → RV h' v d)
    (turn : ∀ k d ρ' (s₁ : Shared), k < m → dd k d → J k ρ' → St h₀ L N (ρ'.set i d) s₁ →
      wpAny (model prog w) A (execs body (eOf name sc L a cd cs)) (PostS h₀ L N s₁ (onN (fun ρ'' => J (k + 1) ρ'') Q)) Fls s₁)
    {R : Flow → Shared → Prop} (done : ∀ ρ' s', J m ρ' → St h₀ L N ρ' s' → Tr L s₀ s' → R .next s') (ret : ∀ v d ρ' s', Q (some d) ρ' → RV s'.heap v d → St h₀ L N ρ' s' → Tr L s₀ s' → R (.ret v) s')
    {E' : Value → Shared → Prop} :
    codeAny (model prog w) A (.forLoop (.Name x px) (.ref I) body [] (eOf name sc L a cd cs)) (fun r s' => match r with | .ok f => R f s' | .error e => E' e s') s := by
  have hsL : ∀ o, s.heap.get? I = some o → ∀ items k, o.data ≠ .seq items k := fun o e => hnsq 0 _ o hst e
  refine codeAny_forLoop (fun c s' => ∃ h' tk ρ' k, s' = { s with heap := h', toks := tk } ∧ SW k h' ∧ St h₀ L N ρ' s' ∧ J k ρ' ∧ k ≤ m ∧ c = m + 1 - k ∧ (∀ b o, b ≠ L → b ≠ I → s.heap.get? b = some o → h'.get? b = some o)) ?_ (m + 1)
    ⟨s.heap, s.toks, ρ, 0, rfl, hst, S, h0, Nat.zero_le _, rfl, fun _ _ _ _ e => e⟩
  rintro c s' ⟨h', tk, ρ', k, rfl, hst', S', hJ, hk, rfl, hkp⟩
  have trOf : ∀ (h'' : Heap) (tk' : Nat), (∀ b o, b ≠ L → b ≠ I → s.heap.get? b = some o → h''.get? b = some o) → Tr L s₀ { s with heap := h'', toks := tk' } := by
    intro h'' tk' hh
    obtain ⟨h₁, tk₁, rfl, hk₁⟩ := htr
    refine ⟨h'', tk', rfl, fun b o hb e => hh b o hb (fun e' => ?_) (hk₁ b o hb e)⟩
    subst e'; rw [hfresh] at e; cases e
  have seqOf : ∀ (h'' : Heap), (∀ b o, b ≠ L → b ≠ I → s.heap.get? b = some o → h''.get? b = some o) → SeqK s.heap h'' := by
    intro h'' hh b o items j e hd
    by_cases hb : b = I
    · subst hb; exact absurd hd (hsL o e items j)
    · by_cases hb' : b = L
      · subst hb'
        obtain ⟨oL, hoL, hn⟩ := st_frL S
        rw [e] at hoL; cases hoL; exact absurd hd (hn items j)
      · exact hh b o hb' hb e
  by_cases hlt : k < m
  · refine W.item k _ _ _ hlt hst' fun v h₁ tk₁ hP hst₁ hk₁ => ?_
    have S₁ : St h₀ L N ρ' { s with heap := h₁, toks := tk₁ } := S'.but hLI hI (fun o e => hnsq k _ o hst' e) fun b o hb e => hk₁ b o (by simpa using hb) e
    have kp₁ : ∀ b o, b ≠ L → b ≠ I → s.heap.get? b = some o → h₁.get? b = some o := fun b o h1 h2 e => hk₁ b o (by simpa using h2) (hkp b o h1 h2 e)
    obtain ⟨d, hd, hrv⟩ := item k v hlt hP
    refine PySem.wpAny_assign_Name (wpAny_mono (sto_ok (Q := fun _ s₂ => St h₀ L N (ρ'.set i d) s₂ ∧ Tr L { s with heap := h₁, toks := tk₁ } s₂) C S₁ hx (hrv h₁ (seqOf h₁ kp₁)) (fun s₂ S₂ t₂ => ⟨S₂, t₂⟩)) (fun _ s₂ h₂ => ?_) fun _ _ x => x.elim)
    obtain ⟨S₂, t₂⟩ := h₂
    refine wpAny_mono (turn k d ρ' s₂ hlt hd hJ S₂) (fun f s₃ h₃ => ?_) fun _ _ x => x.elim
    obtain ⟨t₃, o, ρ'', S₃, hf, hq⟩ := h₃
    have t13 := t₂.trans t₃
    obtain ⟨h₄, tk₄, rfl, kp₄⟩ := t13
    have kp : ∀ b o, b ≠ L → b ≠ I → s.heap.get? b = some o → h₄.get? b = some o := fun b o h1 h2 e => kp₄ b o h1 (kp₁ b o h1 h2 e)
    cases f with
    | next =>
      cases o with
      | none =>
        refine ⟨m + 1 - (k + 1), by omega, h₄, tk₄, ρ'', k + 1, rfl, ?_, S₃, hq, hlt, rfl, kp⟩
        exact W.frame _ _ _ hst₁ fun b hb o e => kp₄ b o (fun e' => hLf (e' ▸ hb)) e
      | some d => exact hf.elim
    | ret v =>
      cases o with
      | none => exact hf.elim
      | some d => exact ret v d ρ'' _ hq hf S₃ (trOf h₄ tk₄ kp)
    | brk => cases o <;> exact hf.elim
    | cont => cases o <;> exact hf.elim
  · have hkm : k = m := by omega
    subst hkm
    refine W.done _ _ _ hst' fun h₁ tk₁ hk₁ => wpAny_execs_nil ?_
    have S₁ : St h₀ L N ρ' { s with heap := h₁, toks := tk₁ } := S'.but hLI hI (fun o e => hnsq k _ o hst' e) fun b o hb e => hk₁ b o (by simpa using hb) e
    exact done ρ' _ hJ S₁ (trOf h₁ tk₁ fun b o h1 h2 e => hk₁ b o (by simpa using h2) (hkp b o h1 h2 e))
end sound


section sound
variable {prog : Program} {w : World} {hB h₀ : Heap} {mg mb : Str → Option Value} {us : Us} {N : List Str} {sc : Scope} {Γ : Str → List D → D → Prop} {n : Nat} {name : Str} {L : Addr} {a : Option Addr × Option Addr} {cd : Value} {cs : List (Str × Addr)}

theorem lt_of_fr {ρ : List D} {s : Shared} (S : St h₀ L N ρ s) : L < s.heap.objs.size ∧ h₀.get? s.heap.objs.size = none := by
  obtain ⟨m, F, _⟩ := S
  refine ⟨F.ns.lt, ?_⟩
  cases e : h₀.get? s.heap.objs.size with
  | none => rfl
  | some o => exact absurd (Heap.lt_size (F.keep _ o (fun h => Nat.lt_irrefl _ (h ▸ F.ns.lt)) e)) (Nat.lt_irrefl _)
theorem fresh_of {s s₂ : Shared} (k : Keeps s s₂) : s.heap.get? s₂.heap.objs.size = none := by
  cases e : s.heap.get? s₂.heap.objs.size with
  | none => rfl
  | some o => exact absurd (Heap.lt_size (kAll k _ _ e)) (Nat.lt_irrefl _)
theorem rng_call {A : Around} {s : Shared} {vs : List Value} {ds : List D} {P : Int → Int → Int → Prop} (r : RVs s.heap vs ds) (h : rngP (fun a z c => c ≠ 0 ∧ c.natAbs < 2 ^ 30 ∧ P a z c) ds) :
    wpAny (model prog w) A (call (.type "range") vs) (fun v s' => Keeps s s' ∧ ∃ ad a z c t u v', v = .ref ad ∧ IsRange s'.heap ad a z c t u v' ∧ P a z c) Fls s := by
  rcases rngP_inv h with ⟨z, rfl, h⟩ | ⟨a, z, rfl, h⟩ | ⟨a, z, c, rfl, h⟩
  · obtain ⟨v, vs, rfl, r1, r⟩ := r.inv_cons; obtain rfl := r.inv_nil; obtain ⟨t, rfl⟩ := r1.inv_int
    exact call_range_1 ⟨⟨_, _, rfl, fun _ _ e => Heap.get?_push_of_some _ e⟩, _, _, _, _, _, _, _, rfl, IsRange.new .., h.2.2⟩
  · obtain ⟨v, vs, rfl, r1, r⟩ := r.inv_cons; obtain ⟨v2, vs, rfl, r2, r⟩ := r.inv_cons; obtain rfl := r.inv_nil; obtain ⟨t, rfl⟩ := r1.inv_int; obtain ⟨t2, rfl⟩ := r2.inv_int
    exact call_range_2 ⟨⟨_, _, rfl, fun _ _ e => Heap.get?_push_of_some _ e⟩, _, _, _, _, _, _, _, rfl, IsRange.new .., h.2.2⟩
  · obtain ⟨v, vs, rfl, r1, r⟩ := r.inv_cons; obtain ⟨v2, vs, rfl, r2, r⟩ := r.inv_cons; obtain ⟨v3, vs, rfl, r3, r⟩ := r.inv_cons; obtain rfl := r.inv_nil
    obtain ⟨t, rfl⟩ := r1.inv_int; obtain ⟨t2, rfl⟩ := r2.inv_int; obtain ⟨t3, rfl⟩ := r3.inv_int
    exact call_range_3 h.1 ⟨⟨_, _, rfl, fun _ _ e => Heap.get?_push_of_some _ e⟩, _, _, _, _, _, _, _, rfl, IsRange.new .., h.2.2⟩ (Or.inl (PyProof.noPylong_small (by have := h.2.1; omega)))

theorem notSet_fold {it : Expr} {env : Env} (h : notSet it = true) : ∀ x, foldedSetIterable it env x = pure x := by
  intro x; cases it <;> first | rfl | simp [notSet] at h

theorem rangeSize_nonneg (a z c : Int) : 0 ≤ Builtin.Range.rangeSize a z c := by
  unfold Builtin.Range.rangeSize
  split
  · split
    · rename_i h1 h2
      have := Int.ediv_nonneg (a := z - a - 1) (b := c) (by first | with_reducible assumption | with_reducible exact Int.le_of_lt (by assumption) | with_reducible exact Nat.le_of_lt (by assumption) | omega) (by first | with_reducible assumption | with_reducible exact Int.le_of_lt (by assumption) | with_reducible exact Nat.le_of_lt (by assumption) | omega)
      omega
    · omega
  · split
    · rename_i h1 h2
      have := Int.ediv_nonneg (a := a - z - 1) (b := -c) (by first | with_reducible assumption | with_reducible exact Int.le_of_lt (by assumption) | with_reducible exact Nat.le_of_lt (by assumption) | omega) (by first | with_reducible assumption | with_reducible exact Int.le_of_lt (by assumption) | with_reducible exact Nat.le_of_lt (by assumption) | omega)
      omega
    · omega

theorem post_next {s s' : Shared} {Q : Option D → List D → Prop} {ρ : List D} (S : St h₀ L N ρ s') (t : Tr L s s') (h : Q none ρ) : PostS h₀ L N s Q .next s' := ⟨t, none, ρ, S, trivial, h⟩

/-- on behind a block that falls through -/
theorem then_rest {A : Around} {s s₁ : Shared} {rest : List Stmt} {Q : Option D → List D → Prop} {r : S}
    (ih : ∀ (s : Shared) (ρ : List D), St h₀ L N ρ s → wpS0 Γ r ρ Q → wpAny (model prog w) A (execs rest (eOf name sc L a cd cs)) (PostS h₀ L N s Q) Fls s)
    (t : Tr L s s₁) : ∀ (f : Flow) (s' : Shared), PostS h₀ L N s₁ (onN (fun ρ' => wpS0 Γ r ρ' Q) Q) f s' →
    match f with | .next => wpAny (model prog w) A (execs rest (eOf name sc L a cd cs)) (PostS h₀ L N s Q) Fls s' | f => PostS h₀ L N s Q f s' := by
  intro f s' h
  obtain ⟨t', o, ρ', S', hf, hq⟩ := h
  cases f with
  | next =>
    cases o with
    | none => exact wpAny_mono (ih s' ρ' S' hq) (fun _ _ x => x.tr (t.trans t')) fun _ _ x => x
    | some d => exact hf.elim
  | ret v =>
    cases o with
    | none => exact hf.elim
    | some d => exact ⟨t.trans t', some d, ρ', S', hf, hq⟩
  | brk => cases o <;> exact hf.elim
  | cont => cases o <;> exact hf.elim

theorem soundS (C : Cx prog w hB h₀ mg mb us N sc Γ n name L a cd cs) : ∀ (c : S) (stmts : List Stmt), chkS us N sc c stmts = true → ∀ (A : Around) (s : Shared) (ρ : List D) (Q : Option D → List D → Prop), (AOk n A ∧ us.k A) → St h₀ L N ρ s → wpS0 Γ c ρ Q →
    wpAny (model prog w) A (execs stmts (eOf name sc L a cd cs)) (PostS h₀ L N s Q) Fls s := by
  intro c
  induction c with
  | nil =>
    intro stmts hc A s ρ Q hA' S h
    have hA := hA'.1
    obtain rfl := inv_Nil hc
    simp only [wpS0] at h
    exact wpAny_execs_nil (post_next S (.refl L s) h)
  | rais => intro stmts hc A s ρ Q hA' S h; simp only [wpS0] at h
  | ret e =>
    intro stmts hc A s ρ Q hA' S h
    have hA := hA'.1
    obtain ⟨x, p, rest, rfl, hc⟩ := inv_ret hc
    simp only [wpS0] at h
    refine wpAny_execs_cons (wpAny_Return_some (wpAny_mono ((sound C e).val _ hc A s ρ _ hA S h) (fun v s' h' => ?_) fun _ _ x => x))
    obtain ⟨k, d, r, hp⟩ := h'
    exact ⟨kTr k, some d, ρ, S.keeps k, r, hp⟩
  | set i e r ih =>
    intro stmts hc A s ρ Q hA' S h
    have hA := hA'.1
    obtain ⟨x, q, v, p, rest, rfl, h1, h2, h3, h4⟩ := inv_set hc
    simp only [wpS0] at h
    refine wpAny_execs_cons (wpAny_Assign_Name (wpAny_mono ((sound C e).val _ h3 A s ρ _ hA S h) (fun v s' h' => ?_) fun _ _ x => x) (noComp_swaps h2))
    obtain ⟨k, d, rv, hp⟩ := h'
    refine sto_ok C (S.keeps k) h1 rv fun s₂ S₂ t₂ => ?_
    exact wpAny_mono (ih _ h4 A s₂ _ Q hA' S₂ hp) (fun _ _ x => x.tr ((kTr k).trans t₂)) fun _ _ x => x
  | set2 i j e r ih =>
    intro stmts hc A s ρ Q hA' S h
    have hA := hA'.1
    obtain ⟨x, p, y, q, kk, tp, v, pos, rest, rfl, h0, h1, h2, h3, h4, h5, h6, h7⟩ := inv_set2 hc
    simp only [wpS0] at h
    refine wpAny_execs_cons (asg2_ok C hA.1 h0 h1 h2 h3 h4 h5 S ((sound C e).val _ h6 A s ρ _ hA S h) fun s₂ d1 d2 hp S₂ t₂ => ?_)
    exact wpAny_mono (ih _ h7 A s₂ _ Q hA' S₂ hp) (fun _ _ x => x.tr t₂) fun _ _ x => x
  | aug i op e r ih =>
    intro stmts hc A s ρ Q hA' S h
    have hA := hA'.1
    obtain ⟨x, q, v, p, rest, rfl, h1, h3, h4⟩ := inv_aug hc
    simp only [wpS0] at h
    obtain ⟨m, F, R⟩ := id S
    obtain ⟨v, hv, r1⟩ := R i _ _ h1 (get_eq rfl h.1) h.1
    refine wpAny_execs_cons (wpAny_AugAssign_Name (wpAny_loadName_local C.hk (C.loc _ (List.mem_of_getElem? h1)).1 F.ns hv ?_))
    refine wpAny_mono ((sound C e).val _ h3 A s ρ _ hA S h.2) (fun u s' h' => ?_) fun _ _ x => x
    obtain ⟨k, d, r2, hp⟩ := h'
    refine wpAny_mono (aug_ok (r1.keep (kSeq k)) r2 hp) (fun z s₂ h₂ => ?_) fun _ _ x => x
    obtain ⟨k2, d2, r3, hp2⟩ := h₂
    refine sto_ok C ((S.keeps k).keeps k2) h1 r3 fun s₃ S₃ t₃ => ?_
    exact wpAny_mono (ih _ h4 A s₃ _ Q hA' S₃ hp2) (fun _ _ x => x.tr ((kTr (kTrans k k2)).trans t₃)) fun _ _ x => x
  | ite c t e r iht ihe ihr =>
    intro stmts hc A s ρ Q hA' S h
    have hA := hA'.1
    obtain ⟨x, b, o, p, rest, rfl, h1, h2, h3, h4⟩ := inv_iteS hc
    simp only [wpS0] at h
    refine wpAny_execs_cons (wpAny_If (wpAny_mono ((sound C c).tst _ h1 A s ρ (fun b => if b = true then wpS0 Γ t ρ (onN (fun ρ' => wpS0 Γ r ρ' Q) Q) else wpS0 Γ e ρ (onN (fun ρ' => wpS0 Γ r ρ' Q) Q)) hA S h) (fun b s' h' => ?_) fun _ _ x => x))
    obtain ⟨k, hp⟩ := h'
    cases b with
    | true =>
      simp only [if_true] at hp ⊢
      exact wpAny_mono (iht _ h2 A s' ρ _ hA' (S.keeps k) hp) (then_rest (fun s ρ S h => ihr _ h4 A s ρ Q hA' S h) (kTr k)) fun _ _ x => x
    | false =>
      simp only [Bool.false_eq_true, if_false] at hp ⊢
      exact wpAny_mono (ihe _ h3 A s' ρ _ hA' (S.keeps k) hp) (then_rest (fun s ρ S h => ihr _ h4 A s ρ Q hA' S h) (kTr k)) fun _ _ x => x
  | whl c b r ihb ihr =>
    intro stmts hc A s ρ Q hA' S h
    have hA := hA'.1
    obtain ⟨x, body, p, rest, rfl, h1, h2, h3⟩ := inv_whl hc
    simp only [wpS0] at h
    obtain ⟨I, n₀, hI0, hI⟩ := h
    refine wpAny_execs_cons (wpAny_While (codeAny_whileLoop (fun k s' => Tr L s s' ∧ ∃ ρ', St h₀ L N ρ' s' ∧ I k ρ') ?_ n₀ ⟨.refl L s, ρ, S, hI0⟩))
    rintro k s' ⟨t', ρ', S', hk⟩
    refine wpAny_mono ((sound C c).tst _ h1 A s' ρ' (fun t => if t = true then wpS0 Γ b ρ' (onN (fun ρ'' => ∃ m, m < k ∧ I m ρ'') Q) else wpS0 Γ r ρ' Q) hA S' (hI k ρ' hk)) (fun t s₂ h₂ => ?_) fun _ _ x => x.elim
    obtain ⟨k2, hp⟩ := h₂
    have S₂ := S'.keeps k2
    have t₂ := t'.trans (kTr k2)
    cases t with
    | true =>
      simp only [if_true] at hp ⊢
      refine wpAny_mono (ihb _ h2 A s₂ ρ' _ hA' S₂ hp) (fun f s₃ h₃ => ?_) fun _ _ x => x.elim
      obtain ⟨t₃, o, ρ'', S₃, hf, hq⟩ := h₃
      cases f with
      | next =>
        cases o with
        | none => obtain ⟨m, hm, hIm⟩ := hq; exact ⟨m, hm, t₂.trans t₃, ρ'', S₃, hIm⟩
        | some d => exact hf.elim
      | ret v =>
        cases o with
        | none => exact hf.elim
        | some d => exact ⟨t₂.trans t₃, some d, ρ'', S₃, hf, hq⟩
      | brk => cases o <;> exact hf.elim
      | cont => cases o <;> exact hf.elim
    | false =>
      simp only [Bool.false_eq_true, if_false] at hp ⊢
      exact wpAny_execs_nil (wpAny_mono (ihr _ h3 A s₂ ρ' Q hA' S₂ hp) (fun _ _ x => x.tr t₂) fun _ _ x => x)
  | forR i l b r ihb ihr =>
    intro stmts hc A s ρ Q hA' S h
    have hA := hA'.1
    obtain ⟨xn, q, g, gq, e, es, cp, body, p, rest, rfl, h1, h2, h3, h4, h5, h6, h7⟩ := inv_forR hc
    simp only [wpS0] at h
    have ne := cons_of h5
    obtain ⟨x, rr, rfl⟩ := ne
    obtain ⟨e', es', e1, hs, _, _⟩ := inv_cons h5
    cases e1
    refine wpAny_execs_cons (wpAny_For (Call_ (bi_name C S h2 rfl h3 h4 (callB hs (chkEs_stars h5) (val_cases .range rfl) (wpAny_mono ((sound C (.cons x rr)).lst _ _ h5 A s ρ _ hA S h) (fun vs s₁ h₁ => ?_) fun _ _ x => x)))) (fun _ => rfl))
    obtain ⟨k, ds, rs, hp⟩ := h₁
    refine wpAny_mono (rng_call rs hp) (fun v s₂ h₂ => ?_) fun _ _ x => x
    obtain ⟨k2, ad, a₀, z, c, t, u, v', rfl, hr, hsm, I, hI0, hturn, hdone⟩ := h₂
    refine wpAny_pyIter_range hr hsm ?_
    have k12 := kTrans k k2
    have S₂ := (S.keeps k12)
    obtain ⟨hLs, hLh⟩ := lt_of_fr S₂
    have k3 : Keeps s₂ { s₂ with heap := s₂.heap.push { cls := .type "range_iterator", data := .fields #[rawInt a₀, rawInt (Builtin.Range.rangeSize a₀ z c), rawInt c] } } := push_keeps _
    have hcnt : ((cnt a₀ z c : Nat) : Int) = Builtin.Range.rangeSize a₀ z c := by unfold cnt; exact Int.toNat_of_nonneg (rangeSize_nonneg a₀ z c)
    refine for_ok (s₀ := s) C h1 (Walks.range hA.1 s₂.heap.objs.size a₀ c (cnt a₀ z c)) (Nat.ne_of_lt hLs) (by simpa using Nat.ne_of_lt hLs) hLh ?_ ?_ (S₂.keeps k3) (kTr (kTrans k12 k3)) ?_ I hI0
      (dd := fun k d => d = .int (a₀ + k * c)) (Q := Q) ?_ ?_ ?_ ?_
    · intro j h o hst ho items q
      rw [hst] at ho; cases ho; simp
    · show IsRangeIter _ _ _ _ _
      rw [hcnt]
      simpa using Heap.get?_push_size _ rfl
    · exact fresh_of k12
    · rintro j v hj ⟨t, rfl⟩
      exact ⟨_, rfl, fun h' _ => .int _ _⟩
    · rintro j d ρ' s₁ hj rfl hJ S₁
      exact ihb _ h6 A s₁ _ _ hA' S₁ (hturn j ρ' hj hJ)
    · intro ρ' s' hJ S' t'
      exact wpAny_mono (ihr _ h7 A s' ρ' Q hA' S' (hdone ρ' hJ)) (fun _ _ x => x.tr t') fun _ _ x => x
    · intro v d ρ' s' hq hrv S' t'
      exact ⟨t', some d, ρ', S', hrv, hq⟩
  | forL i e b r ihb ihr =>
    intro stmts hc A s ρ Q hA' S h
    have hA := hA'.1
    obtain ⟨xn, q, it, body, p, rest, rfl, h1, h2, h5, h6, h7⟩ := inv_forL hc
    simp only [wpS0] at h
    refine wpAny_execs_cons (wpAny_For (wpAny_mono ((sound C e).val _ h5 A s ρ _ hA S h) (fun v s₂ h₂ => ?_) fun _ _ x => x) (notSet_fold h2))
    obtain ⟨k12, d, rv, hp⟩ := h₂
    obtain ⟨ds, rfl, hp⟩ := lP_inv hp
    obtain ⟨ad, vs, rfl, hl, hv⟩ := rv.inv_list
    obtain ⟨I, hI0, hturn, hdone⟩ := hp
    refine wpAny_pyIter_list hl ?_
    have S₂ := (S.keeps k12)
    obtain ⟨hLs, hLh⟩ := lt_of_fr S₂
    have k3 : Keeps s₂ { s₂ with heap := s₂.heap.push { cls := .type "list_iterator", data := .fields #[.ref ad, .int 0 0] } } := push_keeps _
    have hne : ad ≠ s₂.heap.objs.size := by obtain ⟨o, ho, _⟩ := hl; exact Nat.ne_of_lt (Heap.lt_size ho)
    have hLad : L ≠ ad := by
      intro e; subst e
      obtain ⟨oL, hoL, hn⟩ := st_frL S₂
      obtain ⟨o, ho, _, q, hd⟩ := hl
      rw [hoL] at ho; cases ho; exact hn _ _ hd
    have hsz : vs.toArray.size = ds.length := by rw [List.size_toArray, hv.1]
    have W := Walks.list (prog := prog) (w := w) hA.1 s₂.heap.objs.size ad hne vs.toArray
    rw [hsz] at W
    refine for_ok (s₀ := s) C h1 W (Nat.ne_of_lt hLs) (by simp [Nat.ne_of_lt hLs, hLad]) hLh ?_ ?_ (S₂.keeps k3) (kTr (kTrans k12 k3)) ?_ I hI0
      (dd := fun k d => ds[k]? = some d) (Q := Q) ?_ ?_ ?_ ?_
    · intro j h o hst ho items q
      obtain ⟨⟨o', ho', _, hd'⟩, _⟩ := hst
      rw [ho'] at ho; cases ho; rw [hd']; simp
    · exact ⟨⟨_, Heap.get?_push_size _ rfl, rfl, rfl⟩, hl.at fun o e => Heap.get?_push_of_some _ e⟩
    · exact fresh_of k12
    · intro j v hj hP
      have hP : vs[j]? = some v := by simpa using hP
      have hjv : j < ds.length := hj
      refine ⟨ds[j], List.getElem?_eq_getElem hjv, fun h' sk => ?_⟩
      exact ((hv.2 j v _ hP (List.getElem?_eq_getElem hjv)).keep (kSeq k3)).keep sk
    · intro j d ρ' s₁ hj hd hJ S₁
      exact ihb _ h6 A s₁ _ _ hA' S₁ (hturn j d ρ' hd hJ)
    · intro ρ' s' hJ S' t'
      exact wpAny_mono (ihr _ h7 A s' ρ' Q hA' S' (hdone ρ' hJ)) (fun _ _ x => x.tr t') fun _ _ x => x
    · intro v d ρ' s' hq hrv S' t'
      exact ⟨t', some d, ρ', S', hrv, hq⟩
end sound


noncomputable def chkFn (us : List B) (N names : List Str) (c : S) (fd : FuncData) : Bool :=
  (match fd.body with | .stmts body => chkS (pl us) N fd.scope c body | _ => false) && fd.globals == mainGlobals && fd.builtins == builtinsNs && fd.closure.isEmpty && fd.scope.kind == .function && !fd.scope.isCoroutine && !fd.scope.isGenerator &&
    fd.scope.names.all (fun x => x.2 != .cell) && N.all (fun x => fd.scope.names.lookup x == some .local && x != "__debug__") && decide N.Nodup && names.isPrefixOf N

noncomputable def fnAt (K : Frag) (f : Str) : Option (Addr × FuncData) :=
  match nsIn K mainGlobals f with
  | some (some (.ref a)) => (match K.lookup a with
      | some o => (match o.data with
          | .func fd => if codeIn K fd.code fd.qualname then some (a, fd) else none
          | _ => none)
      | _ => none)
  | _ => none

theorem fnAt_spec {K : Frag} {f : Str} {a : Addr} {fd : FuncData} (h : fnAt K f = some (a, fd)) :
    nsIn K mainGlobals f = some (some (.ref a)) ∧ (∃ o, K.lookup a = some o ∧ o.data = .func fd) ∧ codeIn K fd.code fd.qualname = true := by
  unfold fnAt at h
  split at h
  · rename_i a' hn
    split at h
    · rename_i o ho
      split at h
      · rename_i fd' hd
        split at h
        · rename_i hc
          cases h
          exact ⟨hn, ⟨o, ho, hd⟩, hc⟩
        · cases h
      · cases h
    · cases h
  · cases h

theorem lookup_zip {names : List Str} {vs : List Value} {i : Nat} {x : Str} {v : Value} (hnd : names.Nodup) (hx : names[i]? = some x) (hv : vs[i]? = some v) : (names.zip vs).reverse.lookup x = some v := by
  induction names generalizing vs i with
  | nil => simp at hx
  | cons y names ih =>
    cases vs with
    | nil => simp at hv
    | cons u vs =>
      rw [List.zip_cons_cons, List.reverse_cons, List.lookup_append]
      rw [List.nodup_cons] at hnd
      cases i with
      | zero =>
        simp at hx hv
        subst hx; subst hv
        have : (names.zip vs).reverse.lookup y = none := by
          rw [List.lookup_eq_none_iff]
          intro p hp
          have hp := List.mem_reverse.mp hp
          have := (List.of_mem_zip hp).1
          exact bne_iff_ne.mpr fun e => hnd.1 (e ▸ this)
        rw [this]; simp
      | succ i =>
        simp at hx hv
        rw [ih hnd.2 hx hv]; rfl

theorem callsTo_of {prog : Program} {w : World} {hB : Heap} {mg mb : Str → Option Value} {us : List B} {N names : List Str} {Γ : Str → List D → D → Prop} {n : Nat} {f : Str} {a : Addr} {fd : FuncData} {K : Frag} {c : S} {ds : List D} {r : D}
    (KX : K.In hB) (W : Wd hB mg mb us) (hf : fnAt K f = some (a, fd)) (hchk : chkFn us N names c fd = true) (hG : ∀ f ds r, Γ f ds r → CallsTo prog w hB mg n f ds r)
    (hbind : ∀ (s : Shared) (vs : List Value), Kp hB s.heap → vs.length = names.length → BindsTo s fd ⟨vs, []⟩ (names.zip vs)) (hlen : ds.length = names.length)
    (hsp : wpS0 Γ c (ds ++ List.replicate (N.length - names.length) .undef) (fun o _ => o = some r)) : CallsTo prog w hB mg (n + 1) f ds r := by
  obtain ⟨hn, ⟨o, ho, hd⟩, hcd⟩ := fnAt_spec hf
  have hmg := mg_of KX W.g hn
  refine ⟨a, o, fd, hmg, KX _ _ ho, hd, fun A s vs hA hk rs => ?_⟩
  unfold chkFn at hchk
  simp only [Bool.and_eq_true, beq_iff_eq, Bool.not_eq_true', decide_eq_true_eq, List.all_eq_true, bne_iff_ne, ne_eq, List.isEmpty_iff] at hchk
  obtain ⟨⟨⟨⟨⟨⟨⟨⟨⟨⟨h1, hg⟩, hb⟩, hcl⟩, hkd⟩, hco⟩, hge⟩, hce⟩, hlo⟩, hnd⟩, hpf⟩ := hchk
  obtain ⟨rest, rfl⟩ := List.isPrefixOf_iff_prefix.mp hpf
  split at h1
  · rename_i body hbody
    refine wpAny_call (codeAny_call_def (fd := fd) (binds := names.zip vs) (by have := hA.2; omega) (hk _ _ (KX _ _ ho)) hd (W.nl.keeps hk) (codeRec_of (KX.keeps hk) hcd) hbody
      (hbind s vs hk (by rw [rs.1, hlen])) hce ?_ ?_ hco hge hkd)
    · intro x hx
      have := (List.of_mem_zip (a := x.1) (b := x.2) hx).1
      exact (hlo x.1 (List.mem_append_left _ this)).1
    · intro h₁ hns hk₁
      have henv : callEnv fd s.heap.objs.size a = eOf (fd.qualname ++ ".<locals>.") fd.scope s.heap.objs.size (some a, some s.heap.objs.size) fd.code [] := by
        unfold callEnv eOf newEnv
        rw [hg, hb, hcl]
      rw [henv]
      have F : Fm s.heap s.heap.objs.size h₁ (fun x => (names.zip vs).reverse.lookup x) := ⟨hns, fun b o _ e => hk₁ b o e⟩
      have C : Cx prog w hB s.heap mg mb (pl us) (names ++ rest) fd.scope Γ n (fd.qualname ++ ".<locals>.") s.heap.objs.size (some a, some s.heap.objs.size) fd.code [] := ⟨W, fun f ds r _ h => hG f ds r h, hkd, fun x hx => ⟨(hlo x hx).1, beq_eq_false_iff_ne.mpr (hlo x hx).2⟩, hnd,
        fun b o e => ⟨Nat.ne_of_lt (Heap.lt_size (hk b o e)), hk b o e⟩, fun _ _ _ _ _ _ h => (by cases h), fun _ _ _ _ _ h => (by cases h), fun _ _ _ _ _ h => (by cases h)⟩
      have S₁ : St s.heap s.heap.objs.size (names ++ rest) (ds ++ List.replicate ((names ++ rest).length - names.length) .undef) { s with heap := h₁, toks := s.toks + (names.zip vs).length } := by
        refine ⟨_, F, fun i x d e1 e2 e3 => ?_⟩
        have hi : i < ds.length := by
          refine Nat.not_le.mp fun hle => e3 ?_
          rw [List.getElem?_append_right hle, List.getElem?_replicate] at e2
          split at e2
          · exact (Option.some.inj e2).symm
          · cases e2
        rw [List.getElem?_append_left hi] at e2
        rw [List.getElem?_append_left (by first | with_reducible assumption | with_reducible exact Int.le_of_lt (by assumption) | with_reducible exact Nat.le_of_lt (by assumption) | omega)] at e1
        obtain ⟨v, hv, rv⟩ := getElem_to rs e2
        exact ⟨v, lookup_zip (List.nodup_append.mp hnd).1 e1 hv, rv.keep (SeqK.of hk₁)⟩
      refine wpAny_mono (soundS C c body h1 (A.deeper (eOf (fd.qualname ++ ".<locals>.") fd.scope s.heap.objs.size (some a, some s.heap.objs.size) fd.code [])) _ _ _ ⟨⟨hA.1, by show A.depth + 1 + n < recursionLimit ∧ A.units + 3 + 3 * n + 200 < cLine; have := hA.2; omega⟩, trivial⟩ S₁ hsp) (fun fl s' h' => ?_) fun _ _ x => x.elim
      obtain ⟨t, o', ρ', S', hf, rfl⟩ := h'
      cases fl with
      | ret v =>
        refine ⟨?_, hf⟩
        obtain ⟨m, F', _⟩ := S'
        obtain ⟨h₂, tk, rfl, _⟩ := t
        exact ⟨h₂, tk, rfl, fun b o e => F'.keep b o (Nat.ne_of_lt (Heap.lt_size e)) e⟩
      | next => exact hf.elim
      | brk => exact hf.elim
      | cont => exact hf.elim
  · cases h1


noncomputable def chkB (K : Frag) : B → Bool
  | .fn x => (fnAt K x).isSome
  | f => (nsIn K mainGlobals f.name == some none && bootBuiltins f.name == some f.val && f.name != "__name__") || nsIn K mainGlobals f.name == some (some f.val)

theorem wd_of {K : Frag} {hB : Heap} {p : Program} {loose : List Str} {mean : ExcName → Option Value} {mg mb : Str → Option Value} {us : List B} (KX : K.In hB) (T : Top p loose mean mg mb hB) (h : us.all (chkB K) = true) : Wd hB mg mb us := by
  rw [List.all_eq_true] at h
  refine ⟨T.g, T.b, T.nolimit, fun x hx => ?_, fun f hf hpl => ?_⟩
  · have := h _ hx
    simp only [chkB] at this
    obtain ⟨⟨a, fd⟩, e⟩ := Option.isSome_iff_exists.mp this
    obtain ⟨hn, ⟨o, ho, hd⟩, _⟩ := fnAt_spec e
    exact ⟨a, o, fd, mg_of KX T.g hn, KX _ _ ho, hd⟩
  · have h' := h _ hf
    have e : chkB K f = ((nsIn K mainGlobals f.name == some none && bootBuiltins f.name == some f.val && f.name != "__name__") || nsIn K mainGlobals f.name == some (some f.val)) := by
      cases f <;> first | rfl | cases hpl
    rw [e] at h'
    simp only [Bool.or_eq_true, Bool.and_eq_true, beq_iff_eq, bne_iff_ne, ne_eq] at h'
    rcases h' with ⟨⟨h1, h2⟩, h3⟩ | h1
    · exact .inl ⟨mg_none_of KX T.g h1, (T.builtins _ h3).trans h2⟩
    · exact .inr (mg_of KX T.g h1)

theorem ints_rv {h : Heap} {vs : List Value} {ns : List Int} (hi : IntsAre vs ns) : RVs h vs (ns.map .int) := by
  induction hi with
  | nil => exact RVs.nil
  | cons n t _ ih => exact RVs.cons (.int n t) ih

noncomputable def chkLaw (us : List B) (N : List Str) (sc : Scope) (c : S) (body : List Stmt) : Bool :=
  chkS (pl us) N sc c body && sc.kind == .function && N.all (fun x => sc.names.lookup x == some .local && x != "__debug__") && decide N.Nodup

theorem law_run {prog : Program} {w : World} {hB h₁ : Heap} {mg mb : Str → Option Value} {us : List B} {N : List Str} {sc : Scope} {Γ : Str → List D → D → Prop} {n : Nat} {name : Str} {L a : Addr} {cd : Value} {A : Around} {x : Str} {l : Addr} {vs : List Value} {ns : List Int}
    {body : List Stmt} {c : S} {s : Shared} (W : Wd hB mg mb us) (hG : ∀ f ds r, Γ f ds r → CallsTo prog w hB mg n f ds r) (hchk : chkLaw us (x :: N) sc c body = true)
    (F : Fr hB L h₁ (fun y => List.lookup y [(x, Value.ref l)].reverse)) (hl : hB.IsList l vs.toArray) (hi : IntsAre vs ns) (hA : AOk n A) (hs : s.heap = h₁)
    (hsp : wpS0 Γ c (.list (ns.map .int) :: List.replicate N.length .undef) (fun o _ => o = some (.bool true))) :
    wpAny (model prog w) A (execs body (envOf name sc L a cd)) (fun f s' => f = .ret (.bool true) ∧ ∃ m h' tk, s' = { s with heap := h', toks := tk } ∧ Fr hB L h' m) Fls s := by
  subst hs
  simp only [chkLaw, Bool.and_eq_true, beq_iff_eq, decide_eq_true_eq, List.all_eq_true, bne_iff_ne, ne_eq] at hchk
  obtain ⟨⟨⟨h1, h2⟩, h3⟩, h4⟩ := hchk
  have hL : ∀ b o, hB.get? b = some o → b ≠ L := fun b o e => Nat.ne_of_lt (Nat.lt_of_lt_of_le (Heap.lt_size e) F.above)
  have C : Cx prog w hB hB mg mb (pl us) (x :: N) sc Γ n (name ++ ".<locals>.") L (some a, some L) cd [] := ⟨W, fun f ds r _ h => hG f ds r h, h2, fun y hy => ⟨(h3 y hy).1, beq_eq_false_iff_ne.mpr (h3 y hy).2⟩, h4, fun b o e => ⟨hL b o e, e⟩,
    fun _ _ _ _ _ _ h => (by cases h), fun _ _ _ _ _ h => (by cases h), fun _ _ _ _ _ h => (by cases h)⟩
  have hr : RV s.heap (.ref l) (.list (ns.map .int)) := by
    have r := ints_rv (h := s.heap) hi
    obtain ⟨o, ho, hc, k, hd⟩ := hl
    exact .list ⟨o, F.keep _ _ ho, hc, k, hd⟩ r.1 r.2
  have S₁ : St hB L (x :: N) (.list (ns.map .int) :: List.replicate N.length .undef) s := by
    refine ⟨_, ⟨F.ns, fun b o _ e => F.keep b o e⟩, fun i y d e1 e2 e3 => ?_⟩
    cases i with
    | zero =>
      simp at e1 e2
      subst e1; subst e2
      exact ⟨_, by simp [List.lookup], hr⟩
    | succ i =>
      simp only [List.getElem?_cons_succ, List.getElem?_replicate] at e2
      split at e2
      · exact absurd (Option.some.inj e2).symm e3
      · cases e2
  refine wpAny_mono (soundS C c body h1 A s _ _ ⟨hA, trivial⟩ S₁ hsp) (fun f s' h' => ?_) fun _ _ x => x
  obtain ⟨⟨h₂, tk, rfl, _⟩, o, ρ', ⟨m, F', _⟩, hf, rfl⟩ := h'
  cases f with
  | ret v =>
    obtain rfl := RV.inv_bool hf
    exact ⟨rfl, m, h₂, tk, rfl, ⟨F'.ns, fun b o e => F'.keep b o (hL b o e) e, F.above⟩⟩
  | next => exact hf.elim
  | brk => exact hf.elim
  | cont => exact hf.elim


/-! the same functions, sealed: known by their equations alone -/
abbrev WP : Type := E → List D → (D → Prop) → Prop
abbrev WPL : Type := E → List D → (List D → Prop) → Prop
noncomputable def sl (Γ : Str → List D → D → Prop) : { t : WP × WP × WP × WPL // t = (wp0 Γ, wpAnd0 Γ, wpOr0 Γ, wpL0 Γ) } := Classical.choice ⟨⟨_, rfl⟩⟩
noncomputable def slS (Γ : Str → List D → D → Prop) : { t : S → List D → (Option D → List D → Prop) → Prop // t = wpS0 Γ } := Classical.choice ⟨⟨_, rfl⟩⟩
section
variable (Γ : Str → List D → D → Prop)
noncomputable def wp : WP := (sl Γ).1.1
noncomputable def wpAnd : WP := (sl Γ).1.2.1
noncomputable def wpOr : WP := (sl Γ).1.2.2.1
noncomputable def wpL : WPL := (sl Γ).1.2.2.2
noncomputable def wpS : S → List D → (Option D → List D → Prop) → Prop := (slS Γ).1
theorem rw1 : wp Γ = wp0 Γ := by unfold wp; rw [(sl Γ).2]
theorem rw2 : wpAnd Γ = wpAnd0 Γ := by unfold wpAnd; rw [(sl Γ).2]
theorem rw3 : wpOr Γ = wpOr0 Γ := by unfold wpOr; rw [(sl Γ).2]
theorem rw4 : wpL Γ = wpL0 Γ := by unfold wpL; rw [(sl Γ).2]
theorem rw5 : wpS Γ = wpS0 Γ := by unfold wpS; rw [(slS Γ).2]
end
section
variable {Γ : Str → List D → D → Prop} {ρ : List D} {P : D → Prop} {Q : Option D → List D → Prop} {a b c l r lo hi : E} {t e s : S} {op : Operator} {o o1 o2 : CmpOp} {i j k : Nat}
@[simp] theorem wlit {i : Int} : wp Γ (.lit i) ρ P = P (.int i) := by rw [rw1]; rfl
@[simp] theorem wbo {i : Bool} : wp Γ (.bo i) ρ P = P (.bool i) := by rw [rw1]; rfl
@[simp] theorem wvar : wp Γ (.var i) ρ P = (get ρ i ≠ .undef ∧ P (get ρ i)) := by rw [rw1]; rfl
@[simp] theorem wbin : wp Γ (.bin op a b) ρ P = wp Γ a ρ fun x => wp Γ b ρ fun y => binW op x y P := by rw [rw1]; rfl
@[simp] theorem wneg : wp Γ (.neg a) ρ P = wp Γ a ρ (intP fun i => P (.int (-i))) := by rw [rw1]; rfl
@[simp] theorem wnot : wp Γ (.not a) ρ P = wp Γ a ρ fun x => ∃ b, truth x = some b ∧ P (.bool !b) := by rw [rw1]; rfl
@[simp] theorem wcmp : wp Γ (.cmp o a b) ρ P = wp Γ a ρ fun x => wp Γ b ρ fun y => cmpW o x y fun c => P (.bool c) := by rw [rw1]; rfl
@[simp] theorem wcmp2 : wp Γ (.cmp2 a o1 b o2 c) ρ P = wp Γ a ρ fun x => wp Γ b ρ fun y => cmpW o1 x y fun t => if t = true then wp Γ c ρ fun z => cmpW o2 y z fun u => P (.bool u) else P (.bool false) := by rw [rw1]; rfl
@[simp] theorem wany : wp Γ (.any l) ρ P = wpOr Γ l ρ P := by rw [rw1, rw3]; rfl
@[simp] theorem wite : wp Γ (.ite c a b) ρ P = wp Γ c ρ fun x => ∃ t, truth x = some t ∧ if t = true then wp Γ a ρ P else wp Γ b ρ P := by rw [rw1]; rfl
@[simp] theorem wcall {f : Str} : wp Γ (.call f l) ρ P = wpL Γ l ρ fun ds => ∃ r, Γ f ds r ∧ P r := by rw [rw1, rw4]; rfl
@[simp] theorem wbi {f : B} : wp Γ (.bi f l) ρ P = wpL Γ l ρ fun ds => biW f ds P := by rw [rw1, rw4]; rfl
@[simp] theorem wisI : wp Γ (.isI a) ρ P = wp Γ a ρ (isIP P) := by rw [rw1]; rfl
@[simp] theorem wisB : wp Γ (.isB a) ρ P = wp Γ a ρ (isBP P) := by rw [rw1]; rfl
@[simp] theorem wlst : wp Γ (.lst l) ρ P = wpL Γ l ρ fun ds => ds.length ≤ 2 ^ 20 ∧ P (.list ds) := by rw [rw1, rw4]; rfl
@[simp] theorem wtup : wp Γ (.tup l) ρ P = wpL Γ l ρ fun ds => ds.length ≤ 2 ^ 20 ∧ P (.tup ds) := by rw [rw1, rw4]; rfl
@[simp] theorem widx : wp Γ (.idx a b) ρ P = wp Γ a ρ fun x => wp Γ b ρ fun k => idxW x k P := by rw [rw1]; rfl
@[simp] theorem wslc : wp Γ (.slc a lo hi) ρ P = wp Γ a ρ fun x => partP lo.isNil (wp Γ lo ρ) fun i => partP hi.isNil (wp Γ hi ρ) fun j => cutP i j P x := by rw [rw1]; rfl
@[simp] theorem wand : wpAnd Γ (.cons a r) ρ P = wp Γ a ρ fun d => if r.isNil = true then P d else ∃ b, truth d = some b ∧ if b = true then wpAnd Γ r ρ P else P d := by rw [rw1, rw2]; rfl
@[simp] theorem wor : wpOr Γ (.cons a r) ρ P = wp Γ a ρ fun d => if r.isNil = true then P d else ∃ b, truth d = some b ∧ if b = true then P d else wpOr Γ r ρ P := by rw [rw1, rw3]; rfl
@[simp] theorem wnil {P : List D → Prop} : wpL Γ .nil ρ P = P [] := by rw [rw4]; rfl
@[simp] theorem wcons {P : List D → Prop} : wpL Γ (.cons a r) ρ P = wp Γ a ρ fun d => wpL Γ r ρ fun ds => P (d :: ds) := by rw [rw1, rw4]; rfl
@[simp] theorem snil : wpS Γ .nil ρ Q = Q none ρ := by rw [rw5]; rfl
@[simp] theorem srais : wpS Γ .rais ρ Q = False := by rw [rw5]; rfl
@[simp] theorem sret : wpS Γ (.ret a) ρ Q = wp Γ a ρ fun d => Q (some d) ρ := by rw [rw1, rw5]; rfl
@[simp] theorem sset : wpS Γ (.set i a s) ρ Q = wp Γ a ρ fun d => wpS Γ s (ρ.set i d) Q := by rw [rw1, rw5]; rfl
@[simp] theorem sset2 : wpS Γ (.set2 i j a s) ρ Q = wp Γ a ρ (t2P fun x y => wpS Γ s ((ρ.set i x).set j y) Q) := by rw [rw1, rw5]; rfl
@[simp] theorem saug : wpS Γ (.aug i op a s) ρ Q = (get ρ i ≠ .undef ∧ wp Γ a ρ fun d => augW op (get ρ i) d fun x => wpS Γ s (ρ.set i x) Q) := by rw [rw1, rw5]; rfl
@[simp] theorem site : wpS Γ (.ite a t e s) ρ Q = wp Γ a ρ fun d => ∃ b, truth d = some b ∧ if b = true then wpS Γ t ρ (onN (fun ρ' => wpS Γ s ρ' Q) Q) else wpS Γ e ρ (onN (fun ρ' => wpS Γ s ρ' Q) Q) := by rw [rw1, rw5]; rfl
theorem whl_ok (I : Nat → List D → Prop) (n₀ : Nat) (h0 : I n₀ ρ)
    (h : ∀ n ρ', I n ρ' → wp Γ c ρ' fun d => ∃ t, truth d = some t ∧ if t = true then wpS Γ e ρ' (onN (fun ρ'' => ∃ m, m < n ∧ I m ρ'') Q) else wpS Γ s ρ' Q) : wpS Γ (.whl c e s) ρ Q := by
  rw [rw1, rw5] at *
  exact ⟨I, n₀, h0, h⟩
theorem forR_ok (a z c : Int) (hl : wpL Γ l ρ fun ds => ds = [.int z] ∧ a = 0 ∧ c = 1 ∨ ds = [.int a, .int z] ∧ c = 1 ∨ ds = [.int a, .int z, .int c])
    (hc : c ≠ 0) (hc2 : c.natAbs < 2 ^ 30) (hsm : Builtin.Range.small a z c = true) (I : Nat → List D → Prop) (h0 : I 0 ρ)
    (h : ∀ k ρ', k < cnt a z c → I k ρ' → wpS Γ e (ρ'.set i (.int (a + k * c))) (onN (fun ρ'' => I (k + 1) ρ'') Q)) (hr : ∀ ρ', I (cnt a z c) ρ' → wpS Γ s ρ' Q) : wpS Γ (.forR i l e s) ρ Q := by
  rw [rw4] at hl
  rw [rw5] at *
  refine (mono l).l ρ _ _ (fun ds hd => ?_) hl
  rcases hd with ⟨rfl, rfl, rfl⟩ | ⟨rfl, rfl⟩ | rfl <;> exact ⟨hc, hc2, hsm, I, h0, h, hr⟩
theorem forL_ok (ds : List D) (hl : wp Γ a ρ fun d => d = .list ds) (I : Nat → List D → Prop) (h0 : I 0 ρ)
    (h : ∀ (k : Nat) x ρ', ds[k]? = some x → I k ρ' → wpS Γ e (ρ'.set i x) (onN (fun ρ'' => I (k + 1) ρ'') Q)) (hr : ∀ ρ', I ds.length ρ' → wpS Γ s ρ' Q) : wpS Γ (.forL i a e s) ρ Q := by
  rw [rw1] at hl
  rw [rw5] at *
  refine wp_mono hl fun d hd => ?_
  subst hd
  exact ⟨I, h0, h, hr⟩
end

theorem callsTo_ok {prog : Program} {w : World} {hB : Heap} {mg mb : Str → Option Value} {us : List B} {N names : List Str} {Γ : Str → List D → D → Prop} {n : Nat} {f : Str} {a : Addr} {fd : FuncData} {K : Frag} {c : S} {ds : List D} {r : D}
    (KX : K.In hB) (W : Wd hB mg mb us) (hf : fnAt K f = some (a, fd)) (hchk : chkFn us N names c fd = true) (hG : ∀ f ds r, Γ f ds r → CallsTo prog w hB mg n f ds r)
    (hbind : ∀ (s : Shared) (vs : List Value), Kp hB s.heap → vs.length = names.length → BindsTo s fd ⟨vs, []⟩ (names.zip vs)) (hlen : ds.length = names.length)
    (hsp : wpS Γ c (ds ++ List.replicate (N.length - names.length) .undef) (fun o _ => o = some r)) : CallsTo prog w hB mg (n + 1) f ds r :=
  callsTo_of KX W hf hchk hG hbind hlen (by rw [rw5] at hsp; exact hsp)
theorem law_ok {prog : Program} {w : World} {hB h₁ : Heap} {mg mb : Str → Option Value} {us : List B} {N : List Str} {sc : Scope} {Γ : Str → List D → D → Prop} {n : Nat} {name : Str} {L a : Addr} {cd : Value} {A : Around} {x : Str} {l : Addr} {vs : List Value} {ns : List Int}
    {body : List Stmt} {c : S} {s : Shared} (W : Wd hB mg mb us) (hG : ∀ f ds r, Γ f ds r → CallsTo prog w hB mg n f ds r) (hchk : chkLaw us (x :: N) sc c body = true)
    (F : Fr hB L h₁ (fun y => List.lookup y [(x, Value.ref l)].reverse)) (hl : hB.IsList l vs.toArray) (hi : IntsAre vs ns) (hA : AOk n A) (hs : s.heap = h₁)
    (hsp : wpS Γ c (.list (ns.map .int) :: List.replicate N.length .undef) (fun o _ => o = some (.bool true))) :
    wpAny (model prog w) A (execs body (envOf name sc L a cd)) (fun f s' => f = .ret (.bool true) ∧ ∃ m h' tk, s' = { s with heap := h', toks := tk } ∧ Fr hB L h' m) Fls s :=
  law_run W hG hchk F hl hi hA hs (by rw [rw5] at hsp; exact hsp)
theorem two_zip {names : List Str} {fd : FuncData} {x y : Str} (hn : names = [x, y]) (hb : ∀ a b, bindArgs fd ⟨[a, b], []⟩ = pure [(x, a), (y, b)]) (s : Shared) (vs : List Value) (hl : vs.length = names.length) : BindsTo s fd ⟨vs, []⟩ (names.zip vs) := by
  subst hn
  match vs, hl with
  | [a, b], _ => exact BindsTo.of_eq (hb a b)
theorem three_zip {names : List Str} {fd : FuncData} {x y z : Str} (hn : names = [x, y, z]) (hb : ∀ a b c, bindArgs fd ⟨[a, b, c], []⟩ = pure [(x, a), (y, b), (z, c)]) (s : Shared) (vs : List Value) (hl : vs.length = names.length) : BindsTo s fd ⟨vs, []⟩ (names.zip vs) := by
  subst hn
  match vs, hl with
  | [a, b, c], _ => exact BindsTo.of_eq (hb a b c)
theorem aok_law (env : Env) : AOk 20 (callerA.deeper env) := ⟨rfl, by show 1 + claimMargin + 1 + 20 < recursionLimit ∧ 4 + 3 + 3 * 20 + 200 < cLine; decide⟩
theorem AOk.le {n m : Nat} {A : Around} (h : AOk m A) (hn : n ≤ m) : AOk n A := ⟨h.1, by have := h.2; omega⟩


/-! plain facts about whole numbers -/
theorem sqn (x : Int) : 0 ≤ x * x := by
  rcases Int.le_total 0 x with h | h
  · exact Int.mul_nonneg h h
  · exact Int.mul_nonneg_of_nonpos_of_nonpos h h

/-- the nearest whole number to a / b, of two as near the even one -/
noncomputable def divN (a b : Int) : Int := a.fdiv b + if 2 * a.fmod b + Builtin.bitAnd (a.fdiv b) 1 > b then 1 else 0

theorem divN_spec (a b : Int) (hb : 0 < b) : ∃ e, a = divN a b * b + e ∧ -b ≤ 2 * e ∧ 2 * e ≤ b ∧ (2 * e = b → divN a b % 2 = 0) ∧ (2 * e = -b → divN a b % 2 = 0) := by
  obtain ⟨h1, _, h3, _⟩ := fdiv_fmod_facts a b
  obtain ⟨h4, h5⟩ := h3 hb
  unfold divN
  rw [PyProof.Rows.bitAnd_m1]
  generalize hq : a.fdiv b = q at *
  generalize hr : a.fmod b = r at *
  split
  · refine ⟨r - b, by grind, by omega, by omega, by omega, by omega⟩
  · refine ⟨r, by grind, by omega, by omega, by omega, by omega⟩


/-- small enough to be a factor -/
noncomputable def Sm (a : Int) : Prop := Builtin.Int.intBits a ≤ 60000000
theorem Sm.mul {a b : Int} (ha : Sm a) (hb : Sm b) : IntMulOk a b := mulOk_of_bits ha hb (by decide)
theorem Sm.of {a : Int} (k : Nat) (h : a.natAbs < 2 ^ k) (hk : k ≤ 60000000 := by decide) : Sm a := Nat.le_trans (intBits_le h) hk
theorem lg {b : Int} (k : Nat) (h : b.natAbs < 2 ^ k) (hk : k ≤ 9000 := by decide) : b.natAbs.log2 < 9000 := by
  by_cases h0 : b.natAbs = 0
  · rw [h0]; decide
  · exact Nat.lt_of_lt_of_le ((Nat.log2_lt h0).mpr h) hk
theorem mul2 {a : Int} : IntMulOk 2 a := .of_left (by decide)
theorem bigger {x : Nat} (k m : Nat) (h : x < 2 ^ k) (hk : k ≤ m := by decide) : x < 2 ^ m := Nat.lt_of_lt_of_le h (Nat.pow_le_pow_right (by decide) hk)

noncomputable def n_divnearest : List Str := ["a", "b", "q", "r"]
noncomputable def p_divnearest : List Str := ["a", "b"]
noncomputable def u_divnearest : List B := [.divmod]
noncomputable def s_divnearest : S :=
  (.set2 2 3 (.bi .divmod (.cons (.var 0) (.cons (.var 1) .nil)))
  (.ret (.bin .Add (.var 2) (.cmp .Gt (.bin .Add (.bin .Mult (.lit 2) (.var 3)) (.bin .BitAnd (.var 2) (.lit 1))) (.var 1)))))

theorem div_body {Γ : Str → List D → D → Prop} (a b : Int) (hb : 0 < b) (hs : b.natAbs.log2 < 9000) :
    wpS Γ s_divnearest [.int a, .int b, .undef, .undef] (fun o _ => o = some (.int (divN a b))) := by
  have hb0 : b ≠ 0 := by omega
  simp [s_divnearest, hb0, hs, mul2, divN]

theorem cut_both (l : List D) (j k : Nat) (hjk : j ≤ k) : cut l (some (j : Int)) (some (k : Int)) = (l.drop j).take (k - j) := by
  unfold cut
  simp only [Option.elim, clipAt_nat]
  rcases Nat.le_total j l.length with h | h
  · rw [Nat.min_eq_left h]
    rcases Nat.le_total k l.length with h2 | h2
    · rw [Nat.min_eq_left h2]
    · rw [Nat.min_eq_right h2, List.take_of_length_le (by rw [List.length_drop]; exact Nat.le_refl _), List.take_of_length_le (by rw [List.length_drop]; exact Nat.sub_le_sub_right h2 _)]
  · rw [Nat.min_eq_right h, Nat.min_eq_right (Nat.le_trans h hjk), List.drop_length, List.drop_of_length_le h, List.take_nil, List.take_nil]
theorem idxI {row : List Int} {k : Int} {P : D → Prop} (h0 : 0 ≤ k) (h1 : k < row.length) (hl : row.length < 2 ^ 60) (h : P (.int (row.getD k.toNat 0))) : idxW (.list (row.map .int)) (.int k) P := by
  have hk : ¬ k < 0 := by omega
  have hlt : k.toNat < row.length := by omega
  unfold idxW
  simp only [intP, tlP]
  refine ⟨by omega, by omega, .int (row.getD k.toNat 0), ?_, ?_, h⟩
  · rw [if_neg hk]; simp [List.getD, hlt]
  · rw [if_neg hk]; exact h0
theorem small_gen {a z c : Int} (ha : -(2 ^ 60) ≤ a) (ha' : a ≤ 2 ^ 60) (hz : -(2 ^ 60) ≤ z) (hz' : z ≤ 2 ^ 60) (hc : c ≠ 0) (hc2 : c.natAbs < 2 ^ 30) : Builtin.Range.small a z c = true := by
  have hs : Builtin.Range.rangeSize a z c ≤ 2 ^ 62 := by
    unfold Builtin.Range.rangeSize
    split
    · split
      · have := Int.ediv_le_self (a := z - a - 1) c (by first | with_reducible assumption | with_reducible exact Int.le_of_lt (by assumption) | with_reducible exact Nat.le_of_lt (by assumption) | omega)
        omega
      · decide
    · split
      · have := Int.ediv_le_self (a := a - z - 1) (-c) (by first | with_reducible assumption | with_reducible exact Int.le_of_lt (by assumption) | with_reducible exact Nat.le_of_lt (by assumption) | omega)
        omega
      · decide
  have hs0 := rangeSize_nonneg a z c
  unfold Builtin.Range.small Builtin.Range.rangeFitsLong
  generalize Builtin.Range.rangeSize a z c = q at *
  simp only [Bool.and_eq_true, Bool.or_eq_true, decide_eq_true_eq, beq_iff_eq]
  refine ⟨⟨⟨⟨by omega, by omega⟩, by omega⟩, by omega⟩, .inr ?_⟩
  split <;> simp only [Bool.and_eq_true, decide_eq_true_eq] <;> omega
theorem ipow_le {c : Int} (hc : 1 ≤ c) {a b : Nat} (h : a ≤ b) : c ^ a ≤ c ^ b := by
  obtain ⟨d, rfl⟩ := Nat.exists_eq_add_of_le h
  rw [Int.pow_add]
  have h1 : 0 < c ^ a := Int.pow_pos (by first | with_reducible assumption | with_reducible exact Int.le_of_lt (by assumption) | with_reducible exact Nat.le_of_lt (by assumption) | omega)
  have h2 : 0 < c ^ d := Int.pow_pos (by first | with_reducible assumption | with_reducible exact Int.le_of_lt (by assumption) | with_reducible exact Nat.le_of_lt (by assumption) | omega)
  have := Int.mul_le_mul_of_nonneg_left (show 1 ≤ c ^ d by omega) (show 0 ≤ c ^ a by omega)
  omega
/-! what _iexp computes -/
noncomputable def figs (M : Int) : Nat := (Str.ofString (toString M)).length
theorem figs_of {c e : Nat} (h1 : 10 ^ e ≤ c) (h2 : c < 10 ^ (e + 1)) : figs (c : Int) = e + 1 := by
  unfold figs
  have : Str.ofString (toString (c : Int)) = ⟨((Nat.toDigits 10 c).map Char.toNat).toArray⟩ := text_ofNat c
  rw [this]
  show (((Nat.toDigits 10 c).map Char.toNat).toArray).size = e + 1
  rw [List.size_toArray, List.length_map]
  exact Nat.le_antisymm (digits10_le (by first | with_reducible assumption | with_reducible exact Int.le_of_lt (by assumption) | with_reducible exact Nat.le_of_lt (by assumption) | omega) h2) (digits10_ge h1)
theorem pow10_ex (c : Nat) (hc : 0 < c) : ∃ e, 10 ^ e ≤ c ∧ c < 10 ^ (e + 1) := by
  induction c using Nat.strongRecOn with
  | _ c ih =>
    by_cases h : c < 10
    · exact ⟨0, by simp; omega, by simpa using h⟩
    · obtain ⟨e, h1, h2⟩ := ih (c / 10) (by first | with_reducible assumption | with_reducible exact Int.le_of_lt (by assumption) | with_reducible exact Nat.le_of_lt (by assumption) | omega) (by first | with_reducible assumption | with_reducible exact Int.le_of_lt (by assumption) | with_reducible exact Nat.le_of_lt (by assumption) | omega)
      refine ⟨e + 1, ?_, ?_⟩
      · rw [Nat.pow_succ]; omega
      · rw [Nat.pow_succ]; omega
theorem figs_ex {M : Int} (hM : 0 < M) : ∃ e : Nat, figs M = e + 1 ∧ (10 : Int) ^ e ≤ M ∧ M < 10 ^ (e + 1) := by
  obtain ⟨c, rfl⟩ := Int.eq_ofNat_of_zero_le (show 0 ≤ M by omega)
  obtain ⟨e, h1, h2⟩ := pow10_ex c (by first | with_reducible assumption | with_reducible exact Int.le_of_lt (by assumption) | with_reducible exact Nat.le_of_lt (by assumption) | omega)
  refine ⟨e, figs_of h1 h2, ?_, ?_⟩
  · exact_mod_cast h1
  · exact_mod_cast h2
theorem figs_le {M : Int} {k : Nat} (hM : 0 < M) (h : M < 10 ^ k) : figs M ≤ k := by
  obtain ⟨e, h1, h2, _⟩ := figs_ex hM
  rw [h1]
  refine Nat.not_lt.mp fun hlt => ?_
  have : (10 : Int) ^ k ≤ 10 ^ e := ipow_le (by decide) (by first | with_reducible assumption | with_reducible exact Int.le_of_lt (by assumption) | with_reducible exact Nat.le_of_lt (by assumption) | omega)
  omega

noncomputable def nR (x M L : Int) : Nat := Builtin.Int.intBits ((x * 2 ^ L.toNat).fdiv M)
noncomputable def nT (M L : Int) : Int := -((-10 * (figs M : Int)).fdiv (3 * L))
noncomputable def ser (x S : Int) : Nat → Int → Int
  | 0, y => y
  | n + 1, y => ser x S n (divN (x * (S + y)) (S * ((n : Int) + 1)))
noncomputable def dbl (M : Int) : Nat → Int → Int
  | 0, y => y
  | n + 1, y => dbl M n (divN (y * (y + M * 2 ^ (n + 2))) (M * 2 ^ (n + 2)))
noncomputable def iexp (x M L : Int) : Int := M + dbl M (nR x M L) (ser x (M * 2 ^ nR x M L) (nT M L - 1).toNat (divN x (nT M L)))

theorem p2pos (n : Nat) : (0 : Int) < 2 ^ n := Int.pow_pos (by decide)

theorem nT_facts {M L : Int} (hM : 0 < M) (hL : 1 ≤ L) : 1 ≤ nT M L ∧ 10 * (figs M : Int) ≤ nT M L * (3 * L) ∧ (nT M L - 1) * (3 * L) < 10 * (figs M : Int) := by
  obtain ⟨h1, _, h3, _⟩ := fdiv_fmod_facts (-10 * (figs M : Int)) (3 * L)
  obtain ⟨h4, h5⟩ := h3 (by first | with_reducible assumption | with_reducible exact Int.le_of_lt (by assumption) | with_reducible exact Nat.le_of_lt (by assumption) | omega)
  obtain ⟨e, he, _, _⟩ := figs_ex hM
  unfold nT
  generalize (-10 * (figs M : Int)).fdiv (3 * L) = q at *
  generalize (-10 * (figs M : Int)).fmod (3 * L) = r at *
  have hq : -q * (3 * L) = 10 * (figs M : Int) + r := by grind
  refine ⟨?_, by omega, by grind⟩
  refine Int.not_lt.mp fun hlt => ?_
  have : -q * (3 * L) ≤ 0 := Int.mul_nonpos_of_nonpos_of_nonneg (by first | with_reducible assumption | with_reducible exact Int.le_of_lt (by assumption) | with_reducible exact Nat.le_of_lt (by assumption) | omega) (by first | with_reducible assumption | with_reducible exact Int.le_of_lt (by assumption) | with_reducible exact Nat.le_of_lt (by assumption) | omega)
  omega
theorem nT_le {M L : Int} {k : Nat} (hM : 0 < M) (hL : 1 ≤ L) (hk : M < 10 ^ k) : nT M L ≤ 4 * k + 1 := by
  obtain ⟨h1, h2, h3⟩ := nT_facts hM hL
  have := figs_le hM hk
  have h4 : (nT M L - 1) * 3 ≤ (nT M L - 1) * (3 * L) := Int.mul_le_mul_of_nonneg_left (by first | with_reducible assumption | with_reducible exact Int.le_of_lt (by assumption) | with_reducible exact Nat.le_of_lt (by assumption) | omega) (by first | with_reducible assumption | with_reducible exact Int.le_of_lt (by assumption) | with_reducible exact Nat.le_of_lt (by assumption) | omega)
  omega

/-- the doublings' number: from where on the scale is great enough -/
theorem nR_facts {x M L : Int} (hM : 0 < M) :
    x.natAbs * 2 ^ L.toNat + (if x < 0 then M else 1) ≤ M * 2 ^ nR x M L ∧ ∀ j < nR x M L, M * 2 ^ j < x.natAbs * 2 ^ L.toNat + (if x < 0 then M else 1) := by
  obtain ⟨h1, _, h3, _⟩ := fdiv_fmod_facts (x * 2 ^ L.toNat) M
  obtain ⟨h4, h5⟩ := h3 hM
  have hp := p2pos L.toNat
  have hr : ∀ m, nR x M L ≤ m ↔ ((x * 2 ^ L.toNat).fdiv M).natAbs < 2 ^ m := fun m => intBits_le_iff
  have key : ∀ m : Nat, ((x * 2 ^ L.toNat).fdiv M).natAbs < 2 ^ m ↔ x.natAbs * 2 ^ L.toNat + (if x < 0 then M else 1) ≤ M * 2 ^ m := by
    intro m
    generalize (x * 2 ^ L.toNat).fdiv M = q at *
    generalize (x * 2 ^ L.toNat).fmod M = r at *
    generalize (2 : Int) ^ L.toNat = p at *
    have e2 : ((2 ^ m : Nat) : Int) = 2 ^ m := by norm_cast
    have hlt : q.natAbs < 2 ^ m ↔ (q.natAbs : Int) < 2 ^ m := by rw [← e2]; omega
    rw [hlt]
    have hpm := p2pos m
    generalize (2 : Int) ^ m = P at *
    by_cases hx : x < 0
    · rw [if_pos hx]
      have e1 : (x.natAbs : Int) = -x := by omega
      rw [e1]
      have hq : q ≤ 0 := by
        refine Int.not_lt.mp fun hlt => ?_
        have : 0 < q * M := Int.mul_pos hlt hM
        have : x * p < 0 := Int.mul_neg_of_neg_of_pos hx hp
        omega
      have e3 : (q.natAbs : Int) = -q := by omega
      rw [e3]
      have e4 : -x * p = -q * M - r := by grind
      rw [e4]
      constructor
      · intro h
        have : (-q + 1) * M ≤ P * M := Int.mul_le_mul_of_nonneg_right (by first | with_reducible assumption | with_reducible exact Int.le_of_lt (by assumption) | with_reducible exact Nat.le_of_lt (by assumption) | omega) (by first | with_reducible assumption | with_reducible exact Int.le_of_lt (by assumption) | with_reducible exact Nat.le_of_lt (by assumption) | omega)
        grind
      · intro h
        refine Int.not_le.mp fun hle => ?_
        have : P * M ≤ -q * M := Int.mul_le_mul_of_nonneg_right hle (by first | with_reducible assumption | with_reducible exact Int.le_of_lt (by assumption) | with_reducible exact Nat.le_of_lt (by assumption) | omega)
        grind
    · rw [if_neg hx]
      have e1 : (x.natAbs : Int) = x := by omega
      rw [e1]
      have hq : 0 ≤ q := by
        refine Int.not_lt.mp fun hlt => ?_
        have : (q + 1) * M ≤ 0 := Int.mul_nonpos_of_nonpos_of_nonneg (by first | with_reducible assumption | with_reducible exact Int.le_of_lt (by assumption) | with_reducible exact Nat.le_of_lt (by assumption) | omega) (by first | with_reducible assumption | with_reducible exact Int.le_of_lt (by assumption) | with_reducible exact Nat.le_of_lt (by assumption) | omega)
        have : 0 ≤ x * p := Int.mul_nonneg (by first | with_reducible assumption | with_reducible exact Int.le_of_lt (by assumption) | with_reducible exact Nat.le_of_lt (by assumption) | omega) (by first | with_reducible assumption | with_reducible exact Int.le_of_lt (by assumption) | with_reducible exact Nat.le_of_lt (by assumption) | omega)
        grind
      have e3 : (q.natAbs : Int) = q := by omega
      rw [e3]
      constructor
      · intro h
        have : (q + 1) * M ≤ P * M := Int.mul_le_mul_of_nonneg_right (by first | with_reducible assumption | with_reducible exact Int.le_of_lt (by assumption) | with_reducible exact Nat.le_of_lt (by assumption) | omega) (by first | with_reducible assumption | with_reducible exact Int.le_of_lt (by assumption) | with_reducible exact Nat.le_of_lt (by assumption) | omega)
        grind
      · intro h
        refine Int.not_le.mp fun hle => ?_
        have : P * M ≤ q * M := Int.mul_le_mul_of_nonneg_right hle (by first | with_reducible assumption | with_reducible exact Int.le_of_lt (by assumption) | with_reducible exact Nat.le_of_lt (by assumption) | omega)
        grind
  refine ⟨(key _).mp ((hr _).mp (Nat.le_refl _)), fun j hj => ?_⟩
  refine Int.not_le.mp fun hle => ?_
  have := (hr j).mpr ((key j).mpr hle)
  omega
theorem nR_le {x M L : Int} (hM : 0 < M) (hx : x.natAbs ≤ 64 * M) (hL : L ≤ 64) : nR x M L ≤ 72 := by
  obtain ⟨_, h⟩ := nR_facts (x := x) (L := L) hM
  refine Nat.not_lt.mp fun hlt => ?_
  have h1 := h 72 hlt
  have h2 : (2 : Int) ^ L.toNat ≤ 2 ^ 64 := ipow_le (by decide) (by first | with_reducible assumption | with_reducible exact Int.le_of_lt (by assumption) | with_reducible exact Nat.le_of_lt (by assumption) | omega)
  have h3 : (x.natAbs : Int) * 2 ^ L.toNat ≤ 64 * M * 2 ^ 64 := Int.mul_le_mul hx h2 (Int.le_of_lt (p2pos _)) (by first | with_reducible assumption | with_reducible exact Int.le_of_lt (by assumption) | with_reducible exact Nat.le_of_lt (by assumption) | omega)
  have h4 : (if x < 0 then M else 1) ≤ M := by split <;> omega
  omega

/-- a lies within b of nought -/
noncomputable def Wi (a b : Rat) : Prop := -b ≤ a ∧ a ≤ b
theorem Wi.mul {a b c e : Rat} (h : Wi a b) (k : Wi c e) : Wi (a * c) (b * e) := by
  obtain ⟨h1, h2⟩ := h
  obtain ⟨k1, k2⟩ := k
  have x1 := Rat.mul_nonneg (show 0 ≤ b - a by grind) (show 0 ≤ e - c by grind)
  have x2 := Rat.mul_nonneg (show 0 ≤ b + a by grind) (show 0 ≤ e + c by grind)
  have x3 := Rat.mul_nonneg (show 0 ≤ b - a by grind) (show 0 ≤ e + c by grind)
  have x4 := Rat.mul_nonneg (show 0 ≤ b + a by grind) (show 0 ≤ e - c by grind)
  constructor <;> grind
theorem Wi.add {a b c e : Rat} (h : Wi a b) (k : Wi c e) : Wi (a + c) (b + e) := by
  obtain ⟨h1, h2⟩ := h
  obtain ⟨k1, k2⟩ := k
  constructor <;> grind
theorem Wi.le {a b c : Rat} (h : Wi a b) (k : b ≤ c) : Wi a c := by
  obtain ⟨h1, h2⟩ := h
  constructor <;> grind
/-- dividing by something positive -/
theorem Wi.div {a b c : Rat} (hc : 0 < c) (h : Wi (c * a) (c * b)) : Wi a b := by
  obtain ⟨h1, h2⟩ := h
  exact ⟨div_le' hc (by first | with_reducible assumption | with_reducible exact Rat.le_of_lt (by assumption) | grind), div_le' hc h2⟩
theorem rdiv_nonneg {a b : Rat} (ha : 0 ≤ a) (hb : 0 < b) : 0 ≤ a / b := by
  refine div_le' hb ?_
  rw [Rat.mul_zero, Rat.mul_comm, Rat.div_mul_cancel (by first | with_reducible assumption | with_reducible exact Rat.le_of_lt (by assumption) | grind)]
  exact ha
theorem rdiv_anti {a b c : Rat} (ha : 0 ≤ a) (hb : 0 < b) (h : b ≤ c) : a / c ≤ a / b := by
  refine div_le' (Rat.mul_pos hb (show 0 < c by grind)) ?_
  have := Rat.mul_le_mul_of_nonneg_left h ha
  have e1 : b * c * (a / c) = a * b := by grind
  have e2 : b * c * (a / b) = a * c := by grind
  rw [e1, e2]; exact this
theorem half_split {b m : Rat} (hm : 0 < m) : b / (2 * m) = b / (4 * m) + b / (4 * m) ∧ b / (2 * (m * 2)) = b / (4 * m) := by
  constructor <;> grind
theorem ipos {a : Int} (h : 0 < a) : (0 : Rat) < (a : Rat) := Rat.intCast_pos.mpr h
theorem divN_rat {a b : Int} (hb : 0 < b) : Wi ((b : Rat) * (divN a b : Int) - (a : Rat)) ((b : Rat) / 2) := by
  obtain ⟨e, h1, h2, h3, _⟩ := divN_spec a b hb
  have e1 : (a : Rat) = (divN a b : Int) * (b : Rat) + (e : Rat) := by
    rw [← Rat.intCast_mul, ← Rat.intCast_add, ← h1]
  have h2' : ((-b : Int) : Rat) ≤ ((2 * e : Int) : Rat) := Rat.intCast_le_intCast.mpr h2
  have h3' : ((2 * e : Int) : Rat) ≤ (b : Rat) := Rat.intCast_le_intCast.mpr h3
  rw [Rat.intCast_mul] at h2' h3'
  rw [Rat.intCast_neg] at h2'
  rw [show ((2 : Int) : Rat) = 2 from rfl] at h2' h3'
  constructor <;> grind
/-- the rows by Horner, each row rounded -/
theorem ser_err {x S : Int} {t u : Rat} (hS : 0 < S) (ht : (x : Rat) = (S : Rat) * t) (hu : Wi t u) : ∀ (n : Nat) (y : Int) (h a : Rat), Wi ((y : Rat) - (S : Rat) * h) (a / 2) →
    Wi ((ser x S n y : Int) - (S : Rat) * (sm n t + tm n t * h - 1)) ((sm n u - tm n u + tm n u * a) / 2)
  | 0, y, h, a, hy => by
    show Wi ((y : Rat) - (S : Rat) * (1 + 1 * h - 1)) ((1 - 1 + 1 * a) / 2)
    rw [show (1 + 1 * h - 1 : Rat) = h by grind, show ((1 - 1 + 1 * a) / 2 : Rat) = a / 2 by grind]
    exact hy
  | n + 1, y, h, a, hy => by
    have hS' := ipos hS
    have hn := npos n
    have hi : 0 < S * ((n : Int) + 1) := Int.mul_pos hS (by first | with_reducible assumption | with_reducible exact Int.le_of_lt (by assumption) | with_reducible exact Nat.le_of_lt (by assumption) | omega)
    have hq := divN_rat (a := x * (S + y)) hi
    have ec : (((S * ((n : Int) + 1) : Int)) : Rat) = (S : Rat) * ((n : Rat) + 1) := by rw [Rat.intCast_mul, Rat.intCast_add, Rat.intCast_natCast]; rfl
    have ex' : ((x * (S + y) : Int) : Rat) = (S : Rat) * t * ((S : Rat) + (y : Rat)) := by rw [Rat.intCast_mul, Rat.intCast_add, ht]
    rw [ec, ex'] at hq
    have ih := ser_err hS ht hu n (divN (x * (S + y)) (S * ((n : Int) + 1))) (t / ((n : Rat) + 1) * (1 + h)) (1 + u / ((n : Rat) + 1) * a)
    show Wi ((ser x S n (divN (x * (S + y)) (S * ((n : Int) + 1))) : Int) - (S : Rat) * (sm n t + tm n t * t / ((n : Rat) + 1) + tm n t * t / ((n : Rat) + 1) * h - 1)) ((sm n u + tm n u * u / ((n : Rat) + 1) - tm n u * u / ((n : Rat) + 1) + tm n u * u / ((n : Rat) + 1) * a) / 2)
    have e1 : sm n t + tm n t * t / ((n : Rat) + 1) + tm n t * t / ((n : Rat) + 1) * h - 1 = sm n t + tm n t * (t / ((n : Rat) + 1) * (1 + h)) - 1 := by grind
    have e2 : (sm n u + tm n u * u / ((n : Rat) + 1) - tm n u * u / ((n : Rat) + 1) + tm n u * u / ((n : Rat) + 1) * a) / 2 = (sm n u - tm n u + tm n u * (1 + u / ((n : Rat) + 1) * a)) / 2 := by grind
    rw [e1, e2]
    refine ih ?_
    generalize (((divN (x * (S + y)) (S * ((n : Int) + 1)) : Int)) : Rat) = q at *
    generalize (n : Rat) + 1 = i at *
    have hw := hu.mul hy
    refine Wi.div (Rat.mul_pos hS' hn) ?_
    have e3 : (S : Rat) * i * (q - (S : Rat) * (t / i * (1 + h))) = (S : Rat) * i * q - (S : Rat) * t * ((S : Rat) + (y : Rat)) + (S : Rat) * (t * ((y : Rat) - (S : Rat) * h)) := by grind
    have e4 : (S : Rat) * i * ((1 + u / i * a) / 2) = (S : Rat) * i / 2 + (S : Rat) * (u * (a / 2)) := by grind
    rw [e3, e4]
    refine hq.add ?_
    have := Rat.mul_le_mul_of_nonneg_left hw.1 (Rat.le_of_lt hS')
    have := Rat.mul_le_mul_of_nonneg_left hw.2 (Rat.le_of_lt hS')
    constructor <;> grind
/-- the halves of the doublings, as parts of the answer -/
noncomputable def sE (d : Rat) : Nat → Int → Rat
  | 0, _ => 0
  | n + 1, Q => ex d (-(2 * Q)) / 2 + sE d n (2 * Q)
theorem sE_nonneg {d : Rat} (hd : 0 < d) : ∀ (n : Nat) (Q : Int), 0 ≤ sE d n Q
  | 0, _ => Rat.le_refl
  | n + 1, Q => by
    have := sE_nonneg hd n (2 * Q)
    have := ex_pos hd (-(2 * Q))
    show 0 ≤ ex d (-(2 * Q)) / 2 + sE d n (2 * Q)
    grind
theorem pow2pos (n : Nat) : (0 : Rat) < 2 ^ n := Rat.pow_pos (by decide)
theorem pow2ge (n : Nat) : (1 : Rat) ≤ 2 ^ n := by
  induction n with
  | zero => rw [Rat.pow_zero]; exact Rat.le_refl
  | succ n ih => rw [Rat.pow_succ]; grind
theorem icast_p2 (M : Int) (n : Nat) : ((M * 2 ^ n : Int) : Rat) = (M : Rat) * 2 ^ n := by rw [Rat.intCast_mul, Rat.intCast_pow]; rfl
/-- one doubling -/
theorem dbl_one {M : Int} (hM : 0 < M) (n : Nat) (y : Int) (e D : Rat) (hD : (M : Rat) * 2 ^ n * 2 + (y : Rat) - (M : Rat) * 2 ^ n * 2 * e = D) :
    Wi (4 * ((M : Rat) * 2 ^ n) * ((M : Rat) * 2 ^ n + (divN (y * (y + M * 2 ^ (n + 2))) (M * 2 ^ (n + 2)) : Int) - (M : Rat) * 2 ^ n * (e * e)) - (D * D + 4 * ((M : Rat) * 2 ^ n) * (e * D))) (2 * ((M : Rat) * 2 ^ n)) := by
  have hp : 0 < M * 2 ^ (n + 2) := Int.mul_pos hM (Int.pow_pos (by decide))
  have hq := divN_rat (a := y * (y + M * 2 ^ (n + 2))) hp
  have e1 : ((M * 2 ^ (n + 2) : Int) : Rat) = 4 * ((M : Rat) * 2 ^ n) := by rw [icast_p2, Rat.pow_succ, Rat.pow_succ]; grind
  have e2 : ((y * (y + M * 2 ^ (n + 2)) : Int) : Rat) = (y : Rat) * ((y : Rat) + 4 * ((M : Rat) * 2 ^ n)) := by rw [Rat.intCast_mul, Rat.intCast_add, e1]
  rw [e1, e2] at hq
  generalize (((divN (y * (y + M * 2 ^ (n + 2))) (M * 2 ^ (n + 2)) : Int)) : Rat) = q at *
  generalize (M : Rat) * 2 ^ n = m at *
  subst hD
  obtain ⟨h1, h2⟩ := hq
  constructor <;> grind
theorem dbl_alg {m a b e f : Rat} (hm : 0 < m) : 4 * m * ((a + b / (4 * m) + f / 2) * e) = 4 * m * a * e + b * e + 2 * m * (e * f) := by grind
theorem dbl_rel {d : Rat} (hd : 0 < d) {M : Int} (hM : 0 < M) {B tot : Rat} (hB : tot ≤ B) : ∀ (n : Nat) (y Q : Int) (a : Rat), 0 ≤ a →
    Wi ((M : Rat) * 2 ^ n + (y : Rat) - (M : Rat) * 2 ^ n * ex d Q) (a * ex d Q) → a + sE d n Q + B * B / (2 * (M : Rat)) - B * B / (2 * ((M : Rat) * 2 ^ n)) ≤ tot →
    Wi ((M : Rat) + (dbl M n y : Int) - (M : Rat) * ex d (2 ^ n * Q)) (tot * ex d (2 ^ n * Q))
  | 0, y, Q, a, ha, hy, ht => by
    rw [show (2 : Int) ^ 0 * Q = Q by simp]
    rw [show (M : Rat) * 2 ^ 0 = (M : Rat) by rw [Rat.pow_zero]; grind] at hy ht
    have e : sE d 0 Q = 0 := rfl
    rw [e] at ht
    exact hy.le (Rat.mul_le_mul_of_nonneg_right (by first | with_reducible assumption | with_reducible exact Rat.le_of_lt (by assumption) | grind) (Rat.le_of_lt (ex_pos hd Q)))
  | n + 1, y, Q, a, ha, hy, ht => by
    have hM' := ipos hM
    have hm : 0 < (M : Rat) * 2 ^ n := Rat.mul_pos hM' (pow2pos n)
    have e1 : (M : Rat) * 2 ^ (n + 1) = (M : Rat) * 2 ^ n * 2 := by rw [Rat.pow_succ]; grind
    have e2 : (2 : Int) ^ (n + 1) * Q = 2 ^ n * (2 * Q) := by rw [Int.pow_succ]; grind
    have hs := sE_nonneg hd n (2 * Q)
    have hE : sE d (n + 1) Q = ex d (-(2 * Q)) / 2 + sE d n (2 * Q) := rfl
    have hx := ex_pos hd (-(2 * Q))
    have hge : (M : Rat) ≤ (M : Rat) * 2 ^ n := by
      have := Rat.mul_le_mul_of_nonneg_left (pow2ge n) (Rat.le_of_lt hM')
      grind
    have hBB : 0 ≤ B * B := by
      rcases Rat.le_total (a := 0) (b := B) with h | h
      · exact Rat.mul_nonneg h h
      · have := Rat.mul_nonneg (show 0 ≤ -B by grind) (show 0 ≤ -B by grind); grind
    have hone := dbl_one hM n y (ex d Q) _ rfl
    rw [e1] at hy ht
    rw [e2]
    have ih := dbl_rel hd hM hB n (divN (y * (y + M * 2 ^ (n + 2))) (M * 2 ^ (n + 2))) (2 * Q) (a + B * B / (4 * ((M : Rat) * 2 ^ n)) + ex d (-(2 * Q)) / 2)
    have hinv : 0 ≤ B * B / (4 * ((M : Rat) * 2 ^ n)) := rdiv_nonneg hBB (Rat.mul_pos (by decide) hm)
    obtain ⟨s1, s2⟩ := half_split (b := B * B) hm
    have hdiff : B * B / (2 * ((M : Rat) * 2 ^ n)) ≤ B * B / (2 * (M : Rat)) := rdiv_anti hBB (Rat.mul_pos (by decide) hM') (Rat.mul_le_mul_of_nonneg_left hge (by decide))
    rw [s2] at ht
    rw [hE] at ht
    clear e1 e2
    generalize hb4 : B * B / (4 * ((M : Rat) * 2 ^ n)) = b4 at *
    generalize B * B / (2 * ((M : Rat) * 2 ^ n)) = b2 at *
    generalize B * B / (2 * (M : Rat)) = b0 at *
    have haB : a ≤ B := by clear ih hone hy; grind
    refine ih (by clear ih hone hy; grind) ?_ (by clear ih hone hy; grind)
    clear ih
    · have he := ex_pos hd Q
      subst hb4
      have e3 : ex d (2 * Q) = ex d Q * ex d Q := ex_two hd Q
      have e4 : ex d (2 * Q) * ex d (-(2 * Q)) = 1 := ex_neg hd (2 * Q)
      rw [e3] at e4 ⊢
      have hDD := hy.mul hy
      have haa : a * a ≤ B * B := rmul ha (by first | with_reducible assumption | with_reducible exact Rat.le_of_lt (by assumption) | grind) haB haB
      have hee : 0 < ex d Q * ex d Q := Rat.mul_pos he he
      have h5 := Rat.mul_le_mul_of_nonneg_right haa (Rat.le_of_lt hee)
      have h6 := Rat.mul_le_mul_of_nonneg_left hy.1 (Rat.mul_nonneg (Rat.le_of_lt hm) (Rat.le_of_lt he))
      have h7 := Rat.mul_le_mul_of_nonneg_left hy.2 (Rat.mul_nonneg (Rat.le_of_lt hm) (Rat.le_of_lt he))
      generalize (((divN (y * (y + M * 2 ^ (n + 2))) (M * 2 ^ (n + 2)) : Int)) : Rat) = q at *
      generalize (M : Rat) * 2 ^ n = m at *
      generalize ex d Q = e at *
      generalize ex d (-(2 * Q)) = f at *
      generalize m * 2 + (y : Rat) - m * 2 * e = D at *
      refine Wi.div (c := 4 * m) (by first | with_reducible assumption | with_reducible exact Rat.le_of_lt (by assumption) | grind) ?_
      have e5 : 4 * m * ((a + B * B / (4 * m) + f / 2) * (e * e)) = 4 * m * a * (e * e) + B * B * (e * e) + 2 * m * (e * e * f) := dbl_alg hm
      rw [e5, e4]
      obtain ⟨o1, o2⟩ := hone
      obtain ⟨d1, d2⟩ := hDD
      constructor <;> grind

theorem hor_err {x S : Int} {t u : Rat} (hS : 0 < S) (ht : (x : Rat) = (S : Rat) * t) (hu : Wi t u) (n : Nat) :
    Wi ((ser x S n (divN x ((n : Int) + 1)) : Int) - (S : Rat) * (sm (n + 1) t - 1)) (sm n u / 2) := by
  have hn := npos n
  have hd := divN_rat (a := x) (b := (n : Int) + 1) (by first | with_reducible assumption | with_reducible exact Int.le_of_lt (by assumption) | with_reducible exact Nat.le_of_lt (by assumption) | omega)
  have e0 : (((n : Int) + 1 : Int) : Rat) = (n : Rat) + 1 := by rw [Rat.intCast_add, Rat.intCast_natCast]; rfl
  rw [e0, ht] at hd
  have h1 : Wi ((divN x ((n : Int) + 1) : Int) - (S : Rat) * (t / ((n : Rat) + 1))) (1 / 2) := by
    refine Wi.div hn ?_
    generalize (((divN x ((n : Int) + 1) : Int)) : Rat) = q at *
    generalize (n : Rat) + 1 = i at *
    have e1 : i * (q - (S : Rat) * (t / i)) = i * q - (S : Rat) * t := by grind
    have e2 : i * (1 / 2) = i / 2 := by grind
    rw [e1, e2]; exact hd
  have h2 := ser_err hS ht hu n _ _ 1 h1
  have e1 : sm n t + tm n t * (t / ((n : Rat) + 1)) - 1 = sm (n + 1) t - 1 := by
    show sm n t + tm n t * (t / ((n : Rat) + 1)) - 1 = sm n t + tm n t * t / ((n : Rat) + 1) - 1
    grind
  have e2 : (sm n u - tm n u + tm n u * 1) / 2 = sm n u / 2 := by grind
  rw [e1, e2] at h2
  exact h2
/-- the rows' number -/
noncomputable def nN (M L : Int) : Nat := (nT M L - 1).toNat
theorem nN_eq {M L : Int} (hM : 0 < M) (hL : 1 ≤ L) : nT M L = (nN M L : Int) + 1 := by
  have := (nT_facts hM hL).1
  unfold nN
  omega
noncomputable def iy (x M L : Int) : Int := ser x (M * 2 ^ nR x M L) (nN M L) (divN x ((nN M L : Int) + 1))
theorem iexp_iy {x M L : Int} (hM : 0 < M) (hL : 1 ≤ L) : iexp x M L = M + dbl M (nR x M L) (iy x M L) := by
  unfold iexp iy
  rw [nN_eq hM hL]
  show _ = M + dbl M (nR x M L) (ser x (M * 2 ^ nR x M L) (nN M L) (divN x ((nN M L : Int) + 1)))
  have : ((nN M L : Int) + 1 - 1).toNat = nN M L := by omega
  rw [this]
section
variable {d : Rat} (hd : 0 < d)
include hd
/-- the number at the great scale -/
theorem top_err {x S P : Int} {u mx : Rat} (hS : 0 < S) (hP : (x : Rat) = (S : Rat) * ((P : Rat) * d)) (hu : u = (P.natAbs : Rat) * d) (hu1 : u ≤ 1) (hd1 : d ≤ 1) (hm1 : 1 ≤ mx) (hm2 : ex d P ≤ mx) (n : Nat) :
    Wi ((S : Rat) + (ser x S n (divN x ((n : Int) + 1)) : Int) - (S : Rat) * ex d P) (sm n u / 2 + (S : Rat) * tm (n + 2) u * mx + (4 * (n : Rat) + 7) * ((S : Rat) * d)) := by
  have hS' := ipos hS
  have hu0 : 0 ≤ u := by rw [hu]; exact Rat.mul_nonneg Rat.natCast_nonneg (Rat.le_of_lt hd)
  have hwu : Wi ((P : Rat) * d) u := by
    rw [hu]
    rcases Int.le_total 0 P with h | h
    · obtain ⟨p, rfl⟩ := Int.eq_ofNat_of_zero_le h
      rw [show ((p : Int).natAbs : Rat) = (p : Rat) by simp, Rat.intCast_natCast]
      rw [show ((p : Int).natAbs : Rat) = (p : Rat) by simp] at hu
      constructor <;> grind
    · obtain ⟨p, hp⟩ := Int.eq_ofNat_of_zero_le (show 0 ≤ -P by omega)
      have : P = -(p : Int) := by omega
      subst this
      rw [show ((-(p : Int)).natAbs : Rat) = (p : Rat) by simp, Rat.intCast_neg, Rat.intCast_natCast]
      rw [show ((-(p : Int)).natAbs : Rat) = (p : Rat) by simp] at hu
      constructor <;> grind
  have h1 := hor_err hS hP hwu n
  have hT := tm_nonneg hu0 (n + 2)
  have key : Wi (sm (n + 1) ((P : Rat) * d) - ex d P) (tm (n + 2) u * mx + (4 * (n : Rat) + 7) * d) := by
    have hn : (0 : Rat) ≤ (n : Rat) := Rat.natCast_nonneg
    have hnd := Rat.mul_nonneg hn (Rat.le_of_lt hd)
    have hmx := Rat.mul_le_mul_of_nonneg_left hm1 hT
    have hmx2 := Rat.mul_le_mul_of_nonneg_left hm2 hT
    rcases Int.le_total 0 P with h | h
    · obtain ⟨p, rfl⟩ := Int.eq_ofNat_of_zero_le h
      rw [show ((p : Int).natAbs : Rat) = (p : Rat) by simp] at hu
      rw [Rat.intCast_natCast]
      rw [← hu]
      have h2 := ex_up hd (n + 1) p
      have hdd : (p : Rat) * d * d ≤ 1 := by rw [← hu]; exact Rat.le_trans (rmul hu0 (by decide) hu1 hd1) (by first | with_reducible assumption | with_reducible exact Rat.le_of_lt (by assumption) | grind)
      have h3 := ex_dn hd (n + 1) p hdd
      rw [← hu] at h2 h3
      have h4 := Rat.le_trans (sm_mono hu0 hu1 (n + 1)) (sm_one_le (n + 1))
      have h5 := rmul (sm_ge_one hu0 (n + 1) |> fun h => Rat.le_trans (by decide) h) (Rat.le_of_lt hd) h4 (show u * d ≤ d by have := Rat.mul_le_mul_of_nonneg_right hu1 (Rat.le_of_lt hd); grind)
      rw [show n + 1 + 1 = n + 2 from rfl] at h2
      generalize tm (n + 2) u = tt at *
      generalize sm (n + 1) u = ss at *
      generalize ex d (p : Int) = e at *
      constructor <;> grind
    · obtain ⟨p, hp⟩ := Int.eq_ofNat_of_zero_le (show 0 ≤ -P by omega)
      have : P = -(p : Int) := by omega
      subst this
      rw [show ((-(p : Int)).natAbs : Rat) = (p : Rat) by simp] at hu
      rw [Rat.intCast_neg, Rat.intCast_natCast]
      have h2 := ex_alt hd (n + 1) p (by rw [← hu]; exact hu1)
      rw [show -(p : Rat) * d = -((p : Rat) * d) by grind]
      rw [← hu] at h2 ⊢
      have h3 := Rat.mul_le_mul_of_nonneg_left hu1 (show 0 ≤ 4 * ((n : Rat) + 1) * d by grind)
      rw [cast_succ] at h2
      rw [show n + 1 + 1 = n + 2 from rfl] at h2
      generalize tm (n + 2) u = tt at *
      generalize sm (n + 1) (-u) = ss at *
      generalize ex d (-(p : Int)) = e at *
      obtain ⟨h21, h22⟩ := h2
      constructor <;> grind
  have h6 := Rat.mul_le_mul_of_nonneg_left key.1 (Rat.le_of_lt hS')
  have h7 := Rat.mul_le_mul_of_nonneg_left key.2 (Rat.le_of_lt hS')
  obtain ⟨h8, h9⟩ := h1
  generalize (((ser x S n (divN x ((n : Int) + 1)) : Int)) : Rat) = y at *
  generalize tm (n + 2) u = tt at *
  generalize sm (n + 1) ((P : Rat) * d) = ss at *
  generalize ex d P = e at *
  generalize sm n u = sn at *
  constructor <;> grind
end

theorem rpow_add (a : Rat) (m n : Nat) : a ^ (m + n) = a ^ m * a ^ n := by
  induction n with
  | zero => rw [Nat.add_zero, Rat.pow_zero]; grind
  | succ n ih => rw [← Nat.add_assoc, Rat.pow_succ, ih, Rat.pow_succ]; grind
theorem rpow_mul (a : Rat) (m n : Nat) : a ^ (m * n) = (a ^ m) ^ n := by
  induction n with
  | zero => rw [Nat.mul_zero, Rat.pow_zero, Rat.pow_zero]
  | succ n ih => rw [Nat.mul_succ, rpow_add, ih, Rat.pow_succ]
/-- the great scale -/
noncomputable def sS (x M L : Int) : Int := M * 2 ^ nR x M L
theorem sS_pos {x M L : Int} (hM : 0 < M) : 0 < sS x M L := Int.mul_pos hM (Int.pow_pos (by decide))
/-- the size of x by the great scale, times 2 ^ L, is at most 1 -/
theorem u_le {x M L : Int} {u : Rat} (hM : 0 < M) (hu : (x.natAbs : Rat) = (sS x M L : Rat) * u) : u * 2 ^ L.toNat ≤ 1 := by
  have h := (nR_facts (x := x) (L := L) hM).1
  have hS := ipos (sS_pos (x := x) (L := L) hM)
  have h2 : (x.natAbs : Int) * 2 ^ L.toNat ≤ sS x M L := by
    unfold sS
    split at h <;> omega
  have h3 : (((x.natAbs : Int) * 2 ^ L.toNat : Int) : Rat) ≤ (sS x M L : Rat) := Rat.intCast_le_intCast.mpr h2
  rw [icast_p2, Rat.intCast_natCast, hu] at h3
  refine div_le' hS ?_
  grind
theorem cube_lt {a b : Nat} (h : a ^ 3 < b ^ 3) : a < b := by
  refine Nat.not_le.mp fun hle => ?_
  have := Nat.pow_le_pow_left hle 3
  omega
/-- as many rows as the figures of M want -/
theorem M_lt {M L : Int} (hM : 0 < M) (hL : 1 ≤ L) : M < 2 ^ (L.toNat * (nN M L + 1)) := by
  obtain ⟨_, h2, _⟩ := nT_facts hM hL
  rw [nN_eq hM hL] at h2
  obtain ⟨e, he, _, h3⟩ := figs_ex hM
  rw [← he] at h3
  obtain ⟨l, rfl⟩ := Int.eq_ofNat_of_zero_le (show 0 ≤ L by omega)
  obtain ⟨m, rfl⟩ := Int.eq_ofNat_of_zero_le (show 0 ≤ M by omega)
  have h4 : m < 10 ^ figs (m : Int) := by exact_mod_cast h3
  rw [show ((l : Int)).toNat = l by omega]
  generalize figs (m : Int) = f at *
  generalize nN (m : Int) (l : Int) = n at *
  have h5 : 10 * f ≤ (l * (n + 1)) * 3 := by
    have e1 : ((n : Int) + 1) * (3 * (l : Int)) = (((l * (n + 1)) * 3 : Nat) : Int) := by
      rw [Int.natCast_mul, Int.natCast_mul]; grind
    rw [e1] at h2
    omega
  have key : m < 2 ^ (l * (n + 1)) := by
    refine cube_lt ?_
    rw [← Nat.pow_mul]
    have h6 : m ^ 3 < (10 ^ f) ^ 3 := Nat.pow_lt_pow_left h4 (by decide)
    have h7 : (10 ^ f) ^ 3 ≤ 2 ^ (10 * f) := by
      rw [← Nat.pow_mul, Nat.mul_comm f 3, Nat.pow_mul, Nat.pow_mul]
      exact Nat.pow_le_pow_left (by decide) f
    have h8 : 2 ^ (10 * f) ≤ 2 ^ (l * (n + 1) * 3) := Nat.pow_le_pow_right (by decide) h5
    omega
  exact_mod_cast key
theorem tm_le_pow {u : Rat} (hu : 0 ≤ u) (n : Nat) : tm n u ≤ u ^ n := by
  induction n with
  | zero => rw [Rat.pow_zero]; exact Rat.le_refl
  | succ n ih =>
    have h1 := tm_succ n u
    have h2 := tm_nonneg hu (n + 1)
    have h3 : (0 : Rat) ≤ (n : Rat) := Rat.natCast_nonneg
    have h4 := Rat.mul_nonneg h3 h2
    have h5 := Rat.mul_le_mul_of_nonneg_right ih hu
    rw [Rat.pow_succ]
    grind
theorem tm_le_pow2 {u : Rat} (hu : 0 ≤ u) (n : Nat) (hn : 1 ≤ n) : 2 * tm (n + 1) u ≤ u ^ (n + 1) := by
  have h1 := tm_succ n u
  have h2 := tm_nonneg hu (n + 1)
  have h3 : (1 : Rat) ≤ (n : Rat) := by have : ((1 : Nat) : Rat) ≤ (n : Rat) := Rat.natCast_le_natCast.mpr hn; exact this
  have h4 := Rat.mul_nonneg (show 0 ≤ (n : Rat) - 1 by grind) h2
  have h5 := Rat.mul_le_mul_of_nonneg_right (tm_le_pow hu n) hu
  rw [Rat.pow_succ]
  grind
theorem pow_scale {u p : Rat} (hu : 0 ≤ u) (hp : 0 ≤ p) (h : u * p ≤ 1) (n : Nat) : u ^ n * p ^ n ≤ 1 := by
  induction n with
  | zero => rw [Rat.pow_zero, Rat.pow_zero]; grind
  | succ n ih =>
    rw [Rat.pow_succ, Rat.pow_succ]
    have h1 := rmul (Rat.mul_nonneg hu hp) (show (0 : Rat) ≤ 1 by decide) h ih
    grind
/-- the power that the rows leave out is less than the M-th part -/
theorem u_pow {x M L : Int} {u : Rat} (hM : 0 < M) (hL : 1 ≤ L) (hu0 : 0 ≤ u) (hu : (x.natAbs : Rat) = (sS x M L : Rat) * u) : u ^ (nN M L + 1) * (M : Rat) ≤ 1 := by
  have h1 := u_le hM hu
  have h2 := pow_scale hu0 (Rat.le_of_lt (pow2pos L.toNat)) h1 (nN M L + 1)
  have h3 : (M : Rat) ≤ ((2 ^ (L.toNat * (nN M L + 1)) : Int) : Rat) := Rat.intCast_le_intCast.mpr (Int.le_of_lt (M_lt hM hL))
  have e : ((2 ^ (L.toNat * (nN M L + 1)) : Int) : Rat) = (2 ^ L.toNat) ^ (nN M L + 1) := by
    rw [Rat.intCast_pow]
    exact rpow_mul 2 L.toNat (nN M L + 1)
  rw [e] at h3
  have h4 := Rat.mul_le_mul_of_nonneg_left h3 (Rat.pow_nonneg hu0 (n := nN M L + 1))
  grind
theorem sm_le_inv {u : Rat} (hu : 0 ≤ u) (n : Nat) : sm n u * (1 - u) ≤ 1 := by
  have h := sm_hi' (x := 0) (by decide) hu n
  rw [sm_zero, show (0 : Rat) + u = u by grind] at h
  exact h

theorem rdiv_le {a b c : Rat} (hb : 0 < b) (h : a ≤ c * b) : a / b ≤ c := by
  refine div_le' hb ?_
  have : b * (a / b) = a := by grind
  rw [this]; grind
theorem ncast_le {a b : Nat} (h : a ≤ b) : (a : Rat) ≤ (b : Rat) := Rat.natCast_le_natCast.mpr h
theorem icast_le {a b : Int} (h : a ≤ b) : (a : Rat) ≤ (b : Rat) := Rat.intCast_le_intCast.mpr h
section
variable {d : Rat} (hd : 0 < d)
include hd
theorem iexp_rel {x M L P : Int} {B tot a : Rat} (hM : 0 < M) (hL : 1 ≤ L) (ha : 0 ≤ a) (htop : Wi ((sS x M L : Rat) + (iy x M L : Int) - (sS x M L : Rat) * ex d P) (a * ex d P)) (hB : tot ≤ B)
    (ht : a + sE d (nR x M L) P + B * B / (2 * (M : Rat)) ≤ tot) : Wi ((iexp x M L : Rat) - (M : Rat) * ex d (2 ^ nR x M L * P)) (tot * ex d (2 ^ nR x M L * P)) := by
  rw [iexp_iy hM hL, Rat.intCast_add]
  unfold sS at htop
  rw [icast_p2] at htop
  refine dbl_rel hd hM hB _ _ _ a ha htop ?_
  have hBB : 0 ≤ B * B := by
    rcases Rat.le_total (a := 0) (b := B) with h | h
    · exact Rat.mul_nonneg h h
    · have := Rat.mul_nonneg (show 0 ≤ -B by grind) (show 0 ≤ -B by grind); grind
  have := rdiv_nonneg hBB (Rat.mul_pos (show (0 : Rat) < 2 by decide) (Rat.mul_pos (ipos hM) (pow2pos (nR x M L))))
  grind
theorem iexp_top {x M L P : Int} {u mx : Rat} (hM : 0 < M) (hP : (x : Rat) = (sS x M L : Rat) * ((P : Rat) * d)) (hu : u = (P.natAbs : Rat) * d) (hu1 : u ≤ 1) (hd1 : d ≤ 1) (hm1 : 1 ≤ mx) (hm2 : ex d P ≤ mx) :
    Wi ((sS x M L : Rat) + (iy x M L : Int) - (sS x M L : Rat) * ex d P) (sm (nN M L) u / 2 + (sS x M L : Rat) * tm (nN M L + 2) u * mx + (4 * (nN M L : Rat) + 7) * ((sS x M L : Rat) * d)) :=
  top_err hd (sS_pos hM) hP hu hu1 hd1 hm1 hm2 (nN M L)
theorem sE_pos : ∀ (n : Nat) (Q : Int), 0 ≤ Q → sE d n Q ≤ (n : Rat) / 2
  | 0, _, _ => by show (0 : Rat) ≤ ((0 : Nat) : Rat) / 2; rw [show ((0 : Nat) : Rat) = 0 from rfl]; grind
  | n + 1, Q, h => by
    have h1 := sE_pos n (2 * Q) (by first | with_reducible assumption | with_reducible exact Int.le_of_lt (by assumption) | with_reducible exact Nat.le_of_lt (by assumption) | omega)
    have h2 := ex_le_one hd (show -(2 * Q) ≤ 0 by omega)
    show ex d (-(2 * Q)) / 2 + sE d n (2 * Q) ≤ _
    rw [cast_succ]
    grind
end
/-- the size of x by the step -/
theorem abs_u {d : Rat} (hd : 0 < d) {x S P : Int} (hS' : 0 < S) (hP : (x : Rat) = (S : Rat) * ((P : Rat) * d)) : (x.natAbs : Rat) = (S : Rat) * ((P.natAbs : Rat) * d) := by
  have hS := ipos hS'
  have e1 : (0 : Rat) ≤ (P : Rat) * d ∨ (P : Rat) * d ≤ 0 := Rat.le_total
  rcases Int.le_total 0 P with h | h
  · have hx0 : 0 ≤ x := by
      have : (0 : Rat) ≤ (x : Rat) := by rw [hP]; exact Rat.mul_nonneg (Rat.le_of_lt hS) (Rat.mul_nonneg (Rat.intCast_nonneg.mpr h) (Rat.le_of_lt hd))
      exact Rat.intCast_nonneg.mp this
    obtain ⟨p, rfl⟩ := Int.eq_ofNat_of_zero_le h
    obtain ⟨y, rfl⟩ := Int.eq_ofNat_of_zero_le hx0
    rw [Rat.intCast_natCast, Rat.intCast_natCast] at hP
    simpa using hP
  · obtain ⟨p, hp⟩ := Int.eq_ofNat_of_zero_le (show 0 ≤ -P by omega)
    have : P = -(p : Int) := by omega
    subst this
    have hx0 : 0 ≤ -x := by
      have : (0 : Rat) ≤ ((-x : Int) : Rat) := by
        rw [Rat.intCast_neg, hP, Rat.intCast_neg, Rat.intCast_natCast]
        have := Rat.mul_nonneg (Rat.le_of_lt hS) (Rat.mul_nonneg (show (0 : Rat) ≤ (p : Rat) from Rat.natCast_nonneg) (Rat.le_of_lt hd))
        grind
      exact Rat.intCast_nonneg.mp this
    obtain ⟨y, hy⟩ := Int.eq_ofNat_of_zero_le hx0
    have : x = -(y : Int) := by omega
    subst this
    rw [Rat.intCast_neg, Rat.intCast_neg, Rat.intCast_natCast, Rat.intCast_natCast] at hP
    rw [show (-(y : Int)).natAbs = y by omega, show (-(p : Int)).natAbs = p by omega]
    grind

theorem pow_mono {u v : Rat} (hu : 0 ≤ u) (h : u ≤ v) (m : Nat) : u ^ m ≤ v ^ m := by
  induction m with
  | zero => rw [Rat.pow_zero, Rat.pow_zero]; exact Rat.le_refl
  | succ m ih => rw [Rat.pow_succ, Rat.pow_succ]; exact rmul (Rat.pow_nonneg hu) (by first | with_reducible assumption | with_reducible exact Rat.le_of_lt (by assumption) | grind) ih h
section
variable {d : Rat} (hd : 0 < d)
include hd
end

theorem sm_turnC {x d C : Rat} (hx : 0 ≤ x) (hd : 0 ≤ d) (hC : ∀ T, 1 + sm T (x + d) ≤ C) (T : Nat) :
    -((C - 1) * d * d) ≤ sm (T + 1) (-(x + d)) - sm (T + 1) (-x) + d * sm T (-x) ∧ sm (T + 1) (-(x + d)) - sm (T + 1) (-x) + d * sm T (-x) ≤ (C - 1) * d * d := by
  have hdd := Rat.mul_nonneg hd hd
  cases T with
  | zero =>
    have h0 := hC 0
    have e : ∀ y, sm (0 + 1) y = 1 + y := fun y => by show 1 + tm 1 y = 1 + y; rw [tm_one]
    have e0 : ∀ y, sm 0 y = 1 := fun y => rfl
    rw [e, e, e0]
    rw [e0] at h0
    have := Rat.mul_nonneg (show 0 ≤ C - 1 by grind) hdd
    constructor <;> grind
  | succ T =>
    have h1 := sm_turn hx hd T
    have h2 := Rat.mul_le_mul_of_nonneg_left (hC T) hdd
    constructor <;> grind
section
variable {d : Rat} (hd : 0 < d)
include hd
/-- below nought, for greater numbers -/
theorem ex_altG {X0 C : Rat} (hC : ∀ T, 1 + sm T X0 ≤ C) (T p : Nat) (h : (p : Rat) * d ≤ X0) : Wi (ex d (-(p : Int)) - sm T (-((p : Rat) * d))) (tm (T + 1) ((p : Rat) * d) + C * d * (ex d p - 1)) := by
  have hX0 : 0 ≤ X0 := Rat.le_trans (Rat.mul_nonneg Rat.natCast_nonneg (Rat.le_of_lt hd)) h
  have hC0 : 2 ≤ C := by have := hC 0; have e : sm 0 X0 = 1 := rfl; rw [e] at this; grind
  have hp0 : ∀ p : Nat, 0 ≤ C * d * (ex d p - 1) := fun p => by
    have := ex_one_le hd (show (0 : Int) ≤ p by omega)
    exact Rat.mul_nonneg (Rat.mul_nonneg (by first | with_reducible assumption | with_reducible exact Rat.le_of_lt (by assumption) | grind) (Rat.le_of_lt hd)) (by first | with_reducible assumption | with_reducible exact Rat.le_of_lt (by assumption) | grind)
  induction T generalizing p with
  | zero =>
    have h1 := ex_neg_nat hd p
    have h2 := ex_le_one hd (show -(p : Int) ≤ 0 by omega)
    have hx : 0 ≤ (p : Rat) * d := Rat.mul_nonneg Rat.natCast_nonneg (Rat.le_of_lt hd)
    have e0 : sm 0 (-((p : Rat) * d)) = 1 := rfl
    have := hp0 p
    rw [tm_one, e0]
    constructor <;> grind
  | succ T ih =>
    induction p with
    | zero =>
      have e : ((0 : Nat) : Rat) * d = 0 := by rw [show ((0 : Nat) : Rat) = 0 from rfl]; grind
      rw [e, show (-((0 : Nat) : Int)) = 0 from rfl, ex_zero, show -(0 : Rat) = 0 from rfl, sm_zero, tm_zero, show (((0 : Nat)) : Int) = 0 from rfl, ex_zero]
      constructor <;> grind
    | succ p ihp =>
      have hx : 0 ≤ (p : Rat) * d := Rat.mul_nonneg Rat.natCast_nonneg (Rat.le_of_lt hd)
      have e1 : ex d (-(p : Int)) = ex d (-((p + 1 : Nat) : Int)) * (1 + d) := by rw [← ex_succ hd]; congr 1; omega
      have e2 : ((p + 1 : Nat) : Rat) * d = (p : Rat) * d + d := by rw [cast_succ]; grind
      have e3 : ex d ((p + 1 : Nat) : Int) = ex d p * (1 + d) := by rw [show ((p + 1 : Nat) : Int) = (p : Int) + 1 by omega, ex_succ hd]
      rw [e2] at h ⊢
      have hCx : ∀ T, 1 + sm T ((p : Rat) * d + d) ≤ C := fun T => Rat.le_trans (by have := sm_mono (show 0 ≤ (p : Rat) * d + d by grind) h T; grind) (hC T)
      have h0 := ihp (by first | with_reducible assumption | with_reducible exact Rat.le_of_lt (by assumption) | grind)
      have h1 := ih p (by first | with_reducible assumption | with_reducible exact Rat.le_of_lt (by assumption) | grind)
      have h2 := sm_turnC hx (Rat.le_of_lt hd) hCx T
      have h3 := tm_lo hx (Rat.le_of_lt hd) (T + 1)
      have h4 := ex_pos hd (-((p + 1 : Nat) : Int))
      have h5 := ex_le_one hd (show -((p + 1 : Nat) : Int) ≤ 0 by omega)
      rw [e3]
      rw [e1] at h0 h1
      generalize (p : Rat) * d = x at *
      generalize ex d (-((p + 1 : Nat) : Int)) = e at *
      generalize ex d (p : Int) = f at *
      generalize sm (T + 1) (-(x + d)) = s' at *
      generalize sm (T + 1) (-x) = s1 at *
      generalize sm T (-x) = s0 at *
      generalize tm (T + 1 + 1) (x + d) = t' at *
      generalize tm (T + 1 + 1) x = t2 at *
      generalize tm (T + 1) x = t1 at *
      obtain ⟨h01, h02⟩ := h0
      obtain ⟨h11, h12⟩ := h1
      obtain ⟨h21, h22⟩ := h2
      have hdd : 0 ≤ d * d := Rat.mul_nonneg (Rat.le_of_lt hd) (Rat.le_of_lt hd)
      have h6 := Rat.mul_le_mul_of_nonneg_left h11 (Rat.le_of_lt hd)
      have h7 := Rat.mul_le_mul_of_nonneg_left h12 (Rat.le_of_lt hd)
      have h8 := Rat.mul_le_mul_of_nonneg_left h5 hdd
      have h9 := Rat.mul_nonneg hdd (Rat.le_of_lt h4)
      constructor <;> grind
/-- powers of two above exp: half a unit at a time -/
theorem ex_half {p h : Int} {k : Nat} (hh : (h : Rat) * d = 1 / 2) (hp : p ≤ (k : Int) * h) : ex d p ≤ 2 ^ k := by
  have h3 := ex_le hd h
  rw [hh] at h3
  have h4 := ex_pos hd h
  refine Rat.le_trans (ex_mono hd hp) ?_
  have e : ∀ k : Nat, ex d ((k : Int) * h) = ex d h ^ k := fun k => by
    induction k with
    | zero => rw [show ((0 : Nat) : Int) * h = 0 by simp, ex_zero, Rat.pow_zero]
    | succ k ih => rw [show ((k + 1 : Nat) : Int) * h = (k : Int) * h + h by rw [Int.natCast_add]; grind, ex_add hd, ih, Rat.pow_succ]
  rw [e]
  exact pow_mono (Rat.le_of_lt h4) (by first | with_reducible assumption | with_reducible exact Rat.le_of_lt (by assumption) | grind) k
end
theorem tm_small {z : Rat} (hz : 0 ≤ z) (h : z ≤ 12) (m : Nat) : tm (24 + m) z * 2 ^ m ≤ 2 ^ 87 := by
  induction m with
  | zero =>
    rw [Rat.pow_zero]
    have h1 := tm_le_pow hz 24
    have h2 := pow_mono hz h 24
    have h3 : (12 : Rat) ^ 24 ≤ 2 ^ 87 := by decide
    rw [show 24 + 0 = 24 from rfl]
    grind
  | succ m ih =>
    have h1 := tm_succ (24 + m) z
    have e : ((24 + m : Nat) : Rat) = 24 + (m : Rat) := by norm_cast
    rw [e] at h1
    have hm : (0 : Rat) ≤ (m : Rat) := Rat.natCast_nonneg
    have h2 := tm_nonneg hz (24 + m + 1)
    have h3 := Rat.mul_nonneg hm h2
    have h4 := Rat.mul_le_mul_of_nonneg_left h (tm_nonneg hz (24 + m))
    have h5 : 2 * tm (24 + m + 1) z ≤ tm (24 + m) z := by grind
    have h6 := Rat.mul_le_mul_of_nonneg_right h5 (Rat.le_of_lt (pow2pos m))
    rw [show 24 + (m + 1) = 24 + m + 1 from rfl, Rat.pow_succ]
    grind
theorem tm_tiny {z : Rat} (hz : 0 ≤ z) (h : z ≤ 12) (T : Nat) (hT : 324 ≤ T) : tm T z * 2 ^ 213 ≤ 1 := by
  obtain ⟨m, rfl⟩ : ∃ m, T = 24 + (300 + m) := ⟨T - 324, by omega⟩
  have h1 := tm_small hz h (300 + m)
  rw [rpow_add] at h1
  have h2 := Rat.mul_le_mul_of_nonneg_left (pow2ge m) (Rat.mul_nonneg (tm_nonneg hz (24 + (300 + m))) (Rat.le_of_lt (pow2pos 300)))
  have e : (2 : Rat) ^ 300 = 2 ^ 87 * 2 ^ 213 := by rw [← rpow_add]
  rw [e] at h1 h2
  have hp := pow2pos 87
  refine div_le' hp ?_
  generalize (2 : Rat) ^ 87 = a at *
  generalize (2 : Rat) ^ 213 = b at *
  grind

theorem gg_pos {z : Rat} (j : Nat) : 0 < gg z j 0 := by
  induction j with
  | zero => show (0 : Rat) < 1; decide
  | succ j ih =>
    have h1 := gg_succ z j 0
    have h2 := odd_pos 0 j
    refine Rat.not_le.mp fun hle => ?_
    have := Rat.mul_le_mul_of_nonneg_left hle (Rat.le_of_lt h2)
    grind
theorem hh_pos {z : Rat} (hz : 0 ≤ z) (n f j : Nat) : 0 < hh z (n + 1) f j := by
  have h1 := hh_lo hz (n + 1) f j
  have h2 := GG_mono hz j 1 (n + 1) (by first | with_reducible assumption | with_reducible exact Int.le_of_lt (by assumption) | with_reducible exact Nat.le_of_lt (by assumption) | omega)
  have h3 := gg_pos (z := z) j
  have e : GG z j 1 = gg z j 0 := by show 0 + gg z j 0 = _; grind
  rw [e] at h2
  grind
theorem half_le {d : Rat} (hd : 0 < d) {Z : Nat} {h : Int} (hh2 : (h : Rat) * d = 1 / 2) (h12 : (Z : Rat) * d ≤ 12) : (Z : Int) ≤ ((24 : Nat) : Int) * h := by
  refine Int.not_lt.mp fun hlt => ?_
  have h1 : ((((24 : Nat) : Int) * h : Int) : Rat) < ((Z : Int) : Rat) := Rat.intCast_lt_intCast.mpr hlt
  rw [Rat.intCast_mul, Rat.intCast_natCast, Rat.intCast_natCast, show ((24 : Nat) : Rat) = 24 from rfl] at h1
  have h2 := Rat.mul_lt_mul_of_pos_right h1 hd
  have e : 24 * (h : Rat) * d = 12 := by rw [Rat.mul_assoc, hh2]; grind
  rw [e] at h2
  exact absurd h12 (Rat.not_le.mpr h2)
section
variable {d : Rat} (hd : 0 < d)
include hd
/-- enough rows, for numbers up to 12 -/
theorem rows_tiny {Z : Nat} {z : Rat} {h : Int} (hh2 : (h : Rat) * d = 1 / 2) (hz : z = (Z : Rat) * d) (h12 : z ≤ 12) (hdt : d * 2 ^ 260 ≤ 1) (m : Nat) (hm : 161 ≤ m) :
    Wi ((sm (2 * m + 1) z - ex d Z) * 2 ^ 188) 1 ∧ Wi ((sm (2 * m + 1) (-z) - ex d (-(Z : Int))) * 2 ^ 188) 1 := by
  have h0 : 0 ≤ z := by rw [hz]; exact Rat.mul_nonneg Rat.natCast_nonneg (Rat.le_of_lt hd)
  have hE0 := ex_pos hd Z
  have hZ : (Z : Int) ≤ ((24 : Nat) : Int) * h := half_le hd hh2 (by rw [← hz]; exact h12)
  have hE := ex_half hd hh2 hZ
  have ht := tm_tiny h0 h12 (2 * m + 1 + 1) (by first | with_reducible assumption | with_reducible exact Int.le_of_lt (by assumption) | with_reducible exact Nat.le_of_lt (by assumption) | omega)
  have ht0 := tm_nonneg h0 (2 * m + 1 + 1)
  have p260 : (2 : Rat) ^ 260 = 2 ^ 188 * 2 ^ 72 := by rw [← rpow_add]
  have p213 : (2 : Rat) ^ 213 = 2 ^ 188 * 2 ^ 25 := by rw [← rpow_add]
  have hq := pow2pos 188
  rw [p260] at hdt
  rw [p213] at ht
  have e24 : (2 : Rat) ^ 24 = 16777216 := rfl
  have e25 : (2 : Rat) ^ 25 = 33554432 := rfl
  have e72 : (2 : Rat) ^ 72 = 4722366482869645213696 := rfl
  rw [e24] at hE
  rw [e25] at ht
  rw [e72] at hdt
  have hq1 : (1 : Rat) ≤ 2 ^ 188 := pow2ge 188
  generalize (2 : Rat) ^ 188 = q at *
  have hdq : d * q * 4722366482869645213696 ≤ 1 := by grind
  have hdq0 : 0 < d * q := Rat.mul_pos hd hq
  have hd1 : d ≤ 1 / 100 := by
    have := Rat.mul_le_mul_of_nonneg_left hq1 (Rat.le_of_lt hd)
    grind
  have hzd : z * d ≤ 1 / 2 := by have := Rat.mul_le_mul_of_nonneg_right h12 (Rat.le_of_lt hd); grind
  have hdn : ∀ T, sm T z * (1 - z * d) ≤ ex d Z := fun T => by
    have := ex_dn hd T Z (by rw [← hz]; grind)
    rwa [← hz] at this
  have hsm : ∀ T, sm T z ≤ 33554432 := fun T => by
    have h1 := hdn T
    have h2 := sm_ge_one h0 T
    have h3 := Rat.mul_le_mul_of_nonneg_left (show 1 / 2 ≤ 1 - z * d by grind) (show 0 ≤ sm T z by grind)
    grind
  constructor
  · have h1 := ex_up hd (2 * m + 1) Z
    rw [← hz] at h1
    have h2 := hdn (2 * m + 1)
    have h3 := hsm (2 * m + 1)
    have h4 := rmul ht0 (show (0 : Rat) ≤ 16777216 by decide) Rat.le_refl hE
    have h5 := rmul (show 0 ≤ sm (2 * m + 1) z from Rat.le_trans (by decide) (sm_ge_one h0 _)) (show 0 ≤ 12 * d by grind) h3 (show z * d ≤ 12 * d from Rat.mul_le_mul_of_nonneg_right h12 (Rat.le_of_lt hd))
    generalize tm (2 * m + 1 + 1) z = tt at *
    generalize sm (2 * m + 1) z = ss at *
    generalize ex d Z = E at *
    have u1 : E - ss ≤ tt * 16777216 := by grind
    have u2 : ss - E ≤ 33554432 * (12 * d) := by grind
    have v1 := Rat.mul_le_mul_of_nonneg_right u1 (Rat.le_of_lt hq)
    have v2 := Rat.mul_le_mul_of_nonneg_right u2 (Rat.le_of_lt hq)
    constructor <;> grind
  · have h1 := ex_altG hd (X0 := z) (C := 67108864) (fun T => by have := hsm T; grind) (2 * m + 1) Z (by rw [← hz]; exact Rat.le_refl)
    rw [← hz] at h1
    have h2 : 67108864 * d * (ex d Z - 1) ≤ 67108864 * d * 16777216 := Rat.mul_le_mul_of_nonneg_left (by first | with_reducible assumption | with_reducible exact Rat.le_of_lt (by assumption) | grind) (by first | with_reducible assumption | with_reducible exact Rat.le_of_lt (by assumption) | grind)
    obtain ⟨a1, a2⟩ := h1
    generalize tm (2 * m + 1 + 1) z = tt at *
    generalize sm (2 * m + 1) (-z) = ss at *
    generalize ex d (-(Z : Int)) = E at *
    generalize 67108864 * d * (ex d Z - 1) = c at *
    have u1 : E - ss ≤ tt + 67108864 * d * 16777216 := by grind
    have u2 : ss - E ≤ tt + 67108864 * d * 16777216 := by grind
    have v1 := Rat.mul_le_mul_of_nonneg_right u1 (Rat.le_of_lt hq)
    have v2 := Rat.mul_le_mul_of_nonneg_right u2 (Rat.le_of_lt hq)
    constructor <;> grind
theorem hh_tiny {Z : Nat} {z : Rat} {h : Int} (hh2 : (h : Rat) * d = 1 / 2) (hz : z = (Z : Rat) * d) (h12 : z ≤ 12) (hdt : d * 2 ^ 260 ≤ 1) (f g : Nat) :
    Wi ((hh z 162 f 0 + z * hh z 162 g 1 - ex d Z) * 2 ^ 187) 1 ∧ Wi ((hh z 162 f 0 - z * hh z 162 g 1 - ex d (-(Z : Int))) * 2 ^ 187) 1 := by
  have h0 : 0 ≤ z := by rw [hz]; exact Rat.mul_nonneg Rat.natCast_nonneg (Rat.le_of_lt hd)
  obtain ⟨⟨a1, a2⟩, b1, b2⟩ := rows_tiny hd hh2 hz h12 hdt 161 (by decide)
  obtain ⟨⟨c1, c2⟩, d1, d2⟩ := rows_tiny hd hh2 hz h12 hdt (161 + f) (by first | with_reducible assumption | with_reducible exact Int.le_of_lt (by assumption) | with_reducible exact Nat.le_of_lt (by assumption) | omega)
  obtain ⟨⟨c1', c2'⟩, d1', d2'⟩ := rows_tiny hd hh2 hz h12 hdt (161 + g) (by first | with_reducible assumption | with_reducible exact Int.le_of_lt (by assumption) | with_reducible exact Nat.le_of_lt (by assumption) | omega)
  obtain ⟨g1, g2⟩ := GG_exp z 161
  obtain ⟨g3, g4⟩ := GG_exp z (161 + f)
  obtain ⟨g5, g6⟩ := GG_exp z (161 + g)
  have l0 := hh_lo h0 162 f 0
  have u0 := hh_hi h0 162 f 0
  have l1 := Rat.mul_le_mul_of_nonneg_left (hh_lo h0 162 g 1) h0
  have u1 := Rat.mul_le_mul_of_nonneg_left (hh_hi h0 162 g 1) h0
  rw [show 162 + f = 161 + f + 1 by omega] at u0
  rw [show 162 + g = 161 + g + 1 by omega] at u1
  rw [show (162 : Nat) = 161 + 1 from rfl] at l0 u0 l1 u1 ⊢
  rw [← g1] at a1 a2
  rw [← g2] at b1 b2
  rw [← g3] at c1 c2
  rw [← g4] at d1 d2
  rw [← g5] at c1' c2'
  rw [← g6] at d1' d2'
  clear g1 g2 g3 g4 g5 g6
  have p : (2 : Rat) ^ 188 = 2 ^ 187 * 2 := by rw [← Rat.pow_succ]
  rw [p] at a1 a2 b1 b2 c1 c2 d1 d2 c1' c2' d1' d2'
  have hq := pow2pos 187
  generalize (2 : Rat) ^ 187 = q at *
  generalize z * hh z (161 + 1) g 1 = H1 at *
  generalize hh z (161 + 1) f 0 = H0 at *
  generalize z * GG z 1 (161 + 1) = G1 at *
  generalize z * GG z 1 (161 + f + 1) = G1f at *
  generalize z * GG z 1 (161 + g + 1) = G1g at *
  generalize GG z 0 (161 + 1) = G0 at *
  generalize GG z 0 (161 + f + 1) = G0f at *
  generalize GG z 0 (161 + g + 1) = G0g at *
  generalize ex d Z = E at *
  generalize ex d (-(Z : Int)) = F at *
  -- each of the four numbers, times q
  have x0 := Rat.mul_le_mul_of_nonneg_right l0 (Rat.le_of_lt hq)
  have x1 := Rat.mul_le_mul_of_nonneg_right u0 (Rat.le_of_lt hq)
  have x2 := Rat.mul_le_mul_of_nonneg_right l1 (Rat.le_of_lt hq)
  have x3 := Rat.mul_le_mul_of_nonneg_right u1 (Rat.le_of_lt hq)
  refine ⟨⟨?_, ?_⟩, ?_, ?_⟩ <;> grind
/-- Lambert's fraction and exp -/
theorem lam7 {Z : Nat} {z : Rat} {h : Int} (hh2 : (h : Rat) * d = 1 / 2) (hz : z = (Z : Rat) * d) (h12 : z ≤ 12) (hdt : d * 2 ^ 260 ≤ 1) :
    ∃ f : Nat → Rat, (∀ k, k ≤ 31 → f k * ((4 * (k : Rat) + 2) + f (k + 1)) = 4 * (z * z)) ∧ (∀ k, 0 ≤ f k) ∧ f 32 * 130 ≤ 4 * (z * z) ∧ 0 < 2 + f 1 - 2 * z ∧
      2 + f 1 + 2 * z ≤ (2 + f 1 - 2 * z) * ex d (2 * (Z : Int)) * (1 + 1 / 2 ^ 100) ∧ (2 + f 1 - 2 * z) * ex d (2 * (Z : Int)) ≤ (2 + f 1 + 2 * z) * (1 + 1 / 2 ^ 100) ∧ 1 ≤ ex d (2 * (Z : Int)) * (2 + f 1 - 2 * z) := by
  have h0 : 0 ≤ z := by rw [hz]; exact Rat.mul_nonneg Rat.natCast_nonneg (Rat.le_of_lt hd)
  have hpos : ∀ k, 0 < hh z 162 (40 - k) k := fun k => hh_pos h0 161 _ k
  have hrec : ∀ k, k ≤ 38 → hh z 162 (40 - k) k = (2 * (k : Rat) + 1) * hh z 162 (40 - (k + 1)) (k + 1) + z * z * hh z 162 (40 - (k + 2)) (k + 2) := by
    intro k hk
    obtain ⟨j, hj⟩ : ∃ j, 40 - k = j + 2 := ⟨38 - k, by omega⟩
    rw [hj, show 40 - (k + 1) = j + 1 by omega, show 40 - (k + 2) = j by omega]
    rfl
  obtain ⟨t1, t2⟩ := hh_tiny hd hh2 hz h12 hdt 40 39
  obtain ⟨a, ha⟩ : ∃ a : Nat → Rat, a = fun k => hh z 162 (40 - k) k := ⟨_, rfl⟩
  have hpos : ∀ k, 0 < a k := fun k => by rw [ha]; exact hpos k
  have hrec : ∀ k, k ≤ 38 → a k = (2 * (k : Rat) + 1) * a (k + 1) + z * z * a (k + 2) := fun k hk => by rw [ha]; exact hrec k hk
  have e0 : hh z 162 40 0 = a 0 := by rw [ha]
  have e1 : hh z 162 39 1 = a 1 := by rw [ha]
  rw [e0, e1] at t1 t2
  clear ha e0 e1
  have hzz := Rat.mul_nonneg h0 h0
  have hf1 : a 1 * (2 + 2 * (z * z) * a 2 / a 1) = 2 * a 0 := by
    have := hrec 0 (by decide)
    have hp := hpos 1
    rw [show ((0 : Nat) : Rat) = 0 from rfl] at this
    rw [show 0 + 1 = 1 from rfl, show 0 + 2 = 2 from rfl] at this
    have e : a 1 * (2 + 2 * (z * z) * a 2 / a 1) = 2 * a 1 + 2 * (z * z) * a 2 := by
      have : a 1 ≠ 0 := by grind
      grind
    rw [e, this]
    grind
  refine ⟨fun k => 2 * (z * z) * a (k + 1) / a k, fun k hk => ?_, fun k => ?_, ?_, ?_⟩
  · have h1 := hrec k (by first | with_reducible assumption | with_reducible exact Int.le_of_lt (by assumption) | with_reducible exact Nat.le_of_lt (by assumption) | omega)
    have p0 := hpos k
    have p1 := hpos (k + 1)
    dsimp only
    rw [show k + 1 + 1 = k + 2 from rfl]
    generalize a k = x at *
    generalize a (k + 1) = y at *
    generalize a (k + 2) = w at *
    have e : 2 * (z * z) * y / x * (4 * (k : Rat) + 2 + 2 * (z * z) * w / y) = 4 * (z * z) * ((2 * (k : Rat) + 1) * y + z * z * w) / x := by
      have hx : x ≠ 0 := by grind
      have hy : y ≠ 0 := by grind
      clear h1 p0 p1
      grind
    rw [e, ← h1]
    have hx : x ≠ 0 := by grind
    exact Rat.mul_div_cancel hx
  · exact rdiv_nonneg (Rat.mul_nonneg (Rat.mul_nonneg (by decide) hzz) (Rat.le_of_lt (hpos _))) (hpos _)
  · have h1 := hrec 32 (by decide)
    have p0 := hpos 32
    have p1 := hpos 33
    have p2 := hpos 34
    have e : a 32 * (2 * (z * z) * a 33 / a 32) = 2 * (z * z) * a 33 := by rw [Rat.mul_comm]; exact Rat.div_mul_cancel (by first | with_reducible assumption | with_reducible exact Rat.le_of_lt (by assumption) | grind)
    dsimp only
    rw [show 32 + 1 = 33 from rfl]
    have hq : 0 ≤ 2 * (z * z) * a 33 / a 32 := rdiv_nonneg (Rat.mul_nonneg (Rat.mul_nonneg (by decide) hzz) (Rat.le_of_lt p1)) p0
    have e32 : ((32 : Nat) : Rat) = 32 := rfl
    rw [e32, show 32 + 1 = 33 from rfl, show 32 + 2 = 34 from rfl] at h1
    refine div_le' p1 ?_
    have h2 := Rat.mul_nonneg hzz (Rat.le_of_lt p2)
    have h3 := Rat.mul_le_mul_of_nonneg_right (show 65 * a 33 ≤ a 32 by grind) hq
    grind
  · have hE0 := ex_one_le hd (show (0 : Int) ≤ Z by omega)
    have hF0 := ex_pos hd (-(Z : Int))
    have hEF := ex_neg hd (Z : Int)
    rw [ex_two hd]
    have hZ : (Z : Int) ≤ ((24 : Nat) : Int) * h := half_le hd hh2 (by rw [← hz]; exact h12)
    have hE := ex_half hd hh2 hZ
    have e24 : (2 : Rat) ^ 24 = 16777216 := rfl
    rw [e24] at hE
    have p1 := hpos 1
    dsimp only
    rw [show 1 + 1 = 2 from rfl]
    generalize 2 * (z * z) * a 2 / a 1 = f1 at *
    have hA : a 1 * (2 + f1 + 2 * z) = 2 * (a 0 + z * a 1) := by grind
    have hB : a 1 * (2 + f1 - 2 * z) = 2 * (a 0 - z * a 1) := by grind
    have hA0 : 2 * a 1 ≤ (a 0 + z * a 1) + (a 0 - z * a 1) := by
      have h1 := hrec 0 (by decide)
      rw [show ((0 : Nat) : Rat) = 0 from rfl, show 0 + 1 = 1 from rfl, show 0 + 2 = 2 from rfl] at h1
      have := Rat.mul_nonneg hzz (Rat.le_of_lt (hpos 2))
      grind
    clear hrec
    generalize a 0 + z * a 1 = A at *
    generalize a 0 - z * a 1 = Bm at *
    generalize ex d Z = E at *
    generalize ex d (-(Z : Int)) = F at *
    have p : (2 : Rat) ^ 187 = 2 ^ 100 * 154742504910672534362390528 := by
      have : (2 : Rat) ^ 87 = 154742504910672534362390528 := rfl
      rw [← this, ← rpow_add]
    rw [p] at t1 t2
    have hq : (1 : Rat) ≤ 2 ^ 100 := pow2ge 100
    generalize (2 : Rat) ^ 100 = q at *
    obtain ⟨x1, x2⟩ := t1
    obtain ⟨y1, y2⟩ := t2
    -- by q
    have hF1 : 1 ≤ F * 16777216 := by
      have := Rat.mul_le_mul_of_nonneg_right hE (Rat.le_of_lt hF0)
      grind
    have q0 : 0 < q := by grind
    obtain ⟨e, he⟩ : ∃ e, e = 1 / (q * 154742504910672534362390528) := ⟨_, rfl⟩
    have hqe : q * 154742504910672534362390528 * e = 1 := by rw [he]; grind
    have he0 : 0 < e := by
      refine Rat.not_le.mp fun hle => ?_
      have := Rat.mul_le_mul_of_nonneg_left hle (show 0 ≤ q * 154742504910672534362390528 by grind)
      grind
    have hqp : 0 < q * 154742504910672534362390528 := by grind
    have w1 : A ≤ E + e := div_le' hqp (by first | with_reducible assumption | with_reducible exact Rat.le_of_lt (by assumption) | grind)
    have w2 : E - e ≤ A := div_le' hqp (by first | with_reducible assumption | with_reducible exact Rat.le_of_lt (by assumption) | grind)
    have w3 : Bm ≤ F + e := div_le' hqp (by first | with_reducible assumption | with_reducible exact Rat.le_of_lt (by assumption) | grind)
    have w4 : F - e ≤ Bm := div_le' hqp (by first | with_reducible assumption | with_reducible exact Rat.le_of_lt (by assumption) | grind)
    have hee : e * 154742504910672534362390528 ≤ 1 := by
      have := Rat.mul_le_mul_of_nonneg_right hq (Rat.le_of_lt he0)
      grind
    have hBp : F / 2 ≤ Bm := by grind
    have hq1 : 1 / q = 154742504910672534362390528 * e := by
      have : q ≠ 0 := by grind
      have h9 : q * (1 / q) = q * (154742504910672534362390528 * e) := by grind
      exact Rat.le_antisymm (div_le' q0 (by rw [h9]; exact Rat.le_refl)) (div_le' q0 (by rw [h9]; exact Rat.le_refl))
    rw [hq1]
    -- E E Bm
    have hEE : 0 < E * E := Rat.mul_pos (by first | with_reducible assumption | with_reducible exact Rat.le_of_lt (by assumption) | grind) (by first | with_reducible assumption | with_reducible exact Rat.le_of_lt (by assumption) | grind)
    have hEE2 : E * E ≤ 281474976710656 := by have := rmul (show 0 ≤ E by grind) (show (0 : Rat) ≤ 16777216 by decide) hE hE; grind
    have z1 : E * E * F = E := by
      have : E * E * F = E * (E * F) := by grind
      rw [this, hEF]; grind
    have z2 := Rat.mul_le_mul_of_nonneg_left w3 (Rat.le_of_lt hEE)
    have z3 := Rat.mul_le_mul_of_nonneg_left w4 (Rat.le_of_lt hEE)
    have z4 := Rat.mul_le_mul_of_nonneg_right hEE2 (Rat.le_of_lt he0)
    have z5 := Rat.mul_le_mul_of_nonneg_left hBp (Rat.le_of_lt hEE)
    have z6 : E / 2 ≤ E * E * Bm := by grind
    refine ⟨?_, ?_, ?_, ?_⟩
    · refine Rat.not_le.mp fun hle => ?_
      have := Rat.mul_le_mul_of_nonneg_left hle (Rat.le_of_lt p1)
      grind
    · refine div_le' p1 ?_
      have e1 : a 1 * ((2 + f1 - 2 * z) * (E * E) * (1 + 154742504910672534362390528 * e)) = 2 * (E * E * Bm) * (1 + 154742504910672534362390528 * e) := by
        have : a 1 * ((2 + f1 - 2 * z) * (E * E) * (1 + 154742504910672534362390528 * e)) = a 1 * (2 + f1 - 2 * z) * ((E * E) * (1 + 154742504910672534362390528 * e)) := by grind
        rw [this, hB]; grind
      rw [hA, e1]
      have := Rat.mul_le_mul_of_nonneg_right (show 1 / 2 ≤ E * E * Bm by grind) (Rat.le_of_lt he0)
      grind
    · refine div_le' p1 ?_
      have e1 : a 1 * ((2 + f1 - 2 * z) * (E * E)) = 2 * (E * E * Bm) := by
        have : a 1 * ((2 + f1 - 2 * z) * (E * E)) = a 1 * (2 + f1 - 2 * z) * (E * E) := by grind
        rw [this, hB]; grind
      have e2 : a 1 * ((2 + f1 + 2 * z) * (1 + 154742504910672534362390528 * e)) = 2 * A * (1 + 154742504910672534362390528 * e) := by
        have : a 1 * ((2 + f1 + 2 * z) * (1 + 154742504910672534362390528 * e)) = a 1 * (2 + f1 + 2 * z) * (1 + 154742504910672534362390528 * e) := by grind
        rw [this, hA]
      rw [e1, e2]
      have := Rat.mul_le_mul_of_nonneg_right (show 1 / 2 ≤ A by grind) (Rat.le_of_lt he0)
      grind
    · refine div_le' p1 ?_
      have e1 : a 1 * (E * E * (2 + f1 - 2 * z)) = 2 * (E * E * Bm) := by
        have : a 1 * (E * E * (2 + f1 - 2 * z)) = a 1 * (2 + f1 - 2 * z) * (E * E) := by grind
        rw [this, hB]; grind
      have hFE : F ≤ 1 := by
        have := Rat.mul_le_mul_of_nonneg_right hE0 (Rat.le_of_lt hF0)
        grind
      rw [e1]
      grind
end

theorem nN_ge2 {M L : Int} (hM : 1000 ≤ M) (hL : 1 ≤ L) (hL2 : L ≤ 12) : 1 ≤ nN M L := by
  obtain ⟨h1, h2, h3⟩ := nT_facts (show 0 < M by omega) (show 1 ≤ L by omega)
  obtain ⟨e, he, h4, h5⟩ := figs_ex (show 0 < M by omega)
  have h6 : 3 ≤ e := by
    refine Nat.not_lt.mp fun hlt => ?_
    have : (10 : Int) ^ (e + 1) ≤ 10 ^ 3 := ipow_le (by decide) (by first | with_reducible assumption | with_reducible exact Int.le_of_lt (by assumption) | with_reducible exact Nat.le_of_lt (by assumption) | omega)
    omega
  rw [he] at h2
  unfold nN
  have h7 : 2 ≤ nT M L := by
    refine Int.not_lt.mp fun hlt => ?_
    have : nT M L = 1 := by omega
    rw [this] at h2
    omega
  omega
/-- what the rows leave out, by the scale -/
theorem left_le {x M L : Int} {u : Rat} (hM : 0 < M) (hL : 1 ≤ L) (hn : 1 ≤ nN M L) (hu0 : 0 ≤ u) (hxu : (x.natAbs : Rat) = (sS x M L : Rat) * u) : 6 * (M : Rat) * ((sS x M L : Rat) * tm (nN M L + 2) u) ≤ (x.natAbs : Rat) := by
  have hS := ipos (sS_pos (x := x) (L := L) hM)
  have h1 := u_pow hM hL hu0 hxu
  have h2 := tm_le_pow2 hu0 (nN M L) hn
  have h3 := tm_succ (nN M L + 1) u
  rw [cast_succ] at h3
  have hx0 : (0 : Rat) ≤ (x.natAbs : Rat) := Rat.natCast_nonneg
  have hMr := ipos hM
  have h5 := Rat.mul_le_mul_of_nonneg_right h2 hx0
  have h6 : ((nN M L : Rat) + 1 + 1) * ((sS x M L : Rat) * tm (nN M L + 2) u) = tm (nN M L + 1) u * (x.natAbs : Rat) := by
    rw [hxu]
    rw [show nN M L + 1 + 1 = nN M L + 2 from rfl] at h3
    generalize tm (nN M L + 2) u = a at *
    generalize tm (nN M L + 1) u = b at *
    grind
  have h7 : (1 : Rat) ≤ (nN M L : Rat) := ncast_le hn
  have h8 := Rat.mul_nonneg (Rat.le_of_lt hS) (tm_nonneg hu0 (nN M L + 2))
  have h9 := Rat.mul_nonneg (show 0 ≤ (nN M L : Rat) - 1 by grind) h8
  generalize (sS x M L : Rat) * tm (nN M L + 2) u = a at *
  generalize tm (nN M L + 1) u = b at *
  generalize u ^ (nN M L + 1) = c at *
  generalize (x.natAbs : Rat) = X at *
  have h10 : 3 * a ≤ b * X := by grind
  have h11 : 6 * a ≤ c * X := by grind
  have h12 := Rat.mul_le_mul_of_nonneg_left h11 (Rat.le_of_lt hMr)
  have h13 := Rat.mul_le_mul_of_nonneg_right h1 hx0
  grind
theorem divN_natAbs {a b : Int} (hb : 0 < b) : 2 * ((divN a b).natAbs : Int) * b ≤ 2 * (a.natAbs : Int) + b := by
  obtain ⟨e, he, e1, e2, _, _⟩ := divN_spec a b hb
  generalize divN a b = q at *
  rcases Int.le_total 0 q with h | h
  · have e3 : (q.natAbs : Int) = q := by omega
    rw [e3]
    have : 2 * q * b = 2 * (q * b) := by grind
    omega
  · have e3 : (q.natAbs : Int) = -q := by omega
    rw [e3]
    have : 2 * -q * b = -2 * (q * b) := by grind
    omega
theorem add_sz {a b : Int} {n m : Nat} (hm : m = n + 1) (ha : a.natAbs < 2 ^ n) (hb : b.natAbs < 2 ^ n) : (a + b).natAbs < 2 ^ m := by
  subst hm
  rw [Nat.pow_succ]
  generalize 2 ^ n = v at *
  omega
theorem mul_natAbs_le {x y : Int} {a b : Int} (hx : (x.natAbs : Int) ≤ a) (hy : (y.natAbs : Int) ≤ b) : ((x * y).natAbs : Int) ≤ a * b := by
  rw [Int.natAbs_mul, Int.natCast_mul]
  exact Int.mul_le_mul hx hy (by first | with_reducible assumption | with_reducible exact Int.le_of_lt (by assumption) | with_reducible exact Nat.le_of_lt (by assumption) | omega) (by first | with_reducible assumption | with_reducible exact Int.le_of_lt (by assumption) | with_reducible exact Nat.le_of_lt (by assumption) | omega)

theorem ser_step {x S y i : Int} (hS : 0 < S) (hx : 2 * (x.natAbs : Int) ≤ S) (hi : 1 ≤ i) (hy : (y.natAbs : Int) ≤ 2 * x.natAbs + 1) :
    ((divN (x * (S + y)) (S * i)).natAbs : Int) ≤ 2 * x.natAbs + 1 := by
  have hSi : 0 < S * i := Int.mul_pos hS (by first | with_reducible assumption | with_reducible exact Int.le_of_lt (by assumption) | with_reducible exact Nat.le_of_lt (by assumption) | omega)
  have h1 := divN_natAbs (a := x * (S + y)) hSi
  have h2 : ((x * (S + y)).natAbs : Int) ≤ x.natAbs * (S + (2 * x.natAbs + 1)) := mul_natAbs_le (Int.le_refl _) (by first | with_reducible assumption | with_reducible exact Int.le_of_lt (by assumption) | with_reducible exact Nat.le_of_lt (by assumption) | omega)
  generalize ((divN (x * (S + y)) (S * i)).natAbs : Int) = q at *
  generalize hX : (x.natAbs : Int) = X at *
  have hX0 : 0 ≤ X := by omega
  refine Int.not_lt.mp fun hlt => ?_
  have h3 : 2 * (2 * X + 2) * (S * i) ≤ 2 * q * (S * i) := Int.mul_le_mul_of_nonneg_right (by first | with_reducible assumption | with_reducible exact Int.le_of_lt (by assumption) | with_reducible exact Nat.le_of_lt (by assumption) | omega) (by first | with_reducible assumption | with_reducible exact Int.le_of_lt (by assumption) | with_reducible exact Nat.le_of_lt (by assumption) | omega)
  have h4 : (2 * X) * (2 * X + 1) ≤ S * (2 * X + 1) := Int.mul_le_mul_of_nonneg_right hx (by first | with_reducible assumption | with_reducible exact Int.le_of_lt (by assumption) | with_reducible exact Nat.le_of_lt (by assumption) | omega)
  have h5 : S * 1 ≤ S * i := Int.mul_le_mul_of_nonneg_left hi (by first | with_reducible assumption | with_reducible exact Int.le_of_lt (by assumption) | with_reducible exact Nat.le_of_lt (by assumption) | omega)
  have h6 : X * S ≤ X * (S * i) := Int.mul_le_mul_of_nonneg_left (by first | with_reducible assumption | with_reducible exact Int.le_of_lt (by assumption) | with_reducible exact Nat.le_of_lt (by assumption) | omega) hX0
  generalize hQ : S * i = Q at *
  have e1 : 2 * (2 * X + 2) * Q = 4 * (X * Q) + 4 * Q := by grind
  have e2 : 2 * (X * (S + (2 * X + 1))) = 2 * (X * S) + (2 * X) * (2 * X + 1) := by grind
  have e3 : S * (2 * X + 1) = 2 * (X * S) + S := by grind
  omega

/-- the doublings' bound: n are left -/
noncomputable def Bd (M X R : Int) (n : Nat) (y : Int) : Prop :=
  (11 ≤ n → 2 * (M * 2 ^ n) * (y.natAbs : Int) ≤ 2 * (M * 2 ^ n) * X + 4 * (X * X) + (M * 2 ^ n) * (R - n)) ∧ (n ≤ 11 → (y.natAbs : Int) + 2 ≤ (2 * X + 2) ^ (2 ^ (11 - n)))
theorem bd_le {M X R : Int} {n : Nat} {y : Int} (hM : 0 < M) (hX : 8 * X ≤ M * 2 ^ n) (hX0 : 0 ≤ X) (hR : R ≤ X)
    (h : 2 * (M * 2 ^ n) * (y.natAbs : Int) ≤ 2 * (M * 2 ^ n) * X + 4 * (X * X) + (M * 2 ^ n) * (R - n)) : (y.natAbs : Int) ≤ 2 * X := by
  have hm : 0 < M * 2 ^ n := Int.mul_pos hM (p2pos n)
  generalize M * 2 ^ n = m at *
  generalize (y.natAbs : Int) = a at *
  refine Int.not_lt.mp fun hlt => ?_
  have h1 : 2 * m * (2 * X + 1) ≤ 2 * m * a := Int.mul_le_mul_of_nonneg_left (by first | with_reducible assumption | with_reducible exact Int.le_of_lt (by assumption) | with_reducible exact Nat.le_of_lt (by assumption) | omega) (by first | with_reducible assumption | with_reducible exact Int.le_of_lt (by assumption) | with_reducible exact Nat.le_of_lt (by assumption) | omega)
  have h2 : (8 * X) * X ≤ m * X := Int.mul_le_mul_of_nonneg_right hX hX0
  have h3 : m * (R - n) ≤ m * X := Int.mul_le_mul_of_nonneg_left (by first | with_reducible assumption | with_reducible exact Int.le_of_lt (by assumption) | with_reducible exact Nat.le_of_lt (by assumption) | omega) (by first | with_reducible assumption | with_reducible exact Int.le_of_lt (by assumption) | with_reducible exact Nat.le_of_lt (by assumption) | omega)
  have h4 : 0 ≤ m * X := Int.mul_nonneg (by first | with_reducible assumption | with_reducible exact Int.le_of_lt (by assumption) | with_reducible exact Nat.le_of_lt (by assumption) | omega) hX0
  grind
theorem ipow_one (b : Int) : b ^ 1 = b := by rw [Int.pow_succ, Int.pow_zero, Int.one_mul]
theorem le_pow_self {b : Int} (hb : 1 ≤ b) (j : Nat) : b ≤ b ^ (2 ^ j) := by
  have := ipow_le hb (show 1 ≤ 2 ^ j from Nat.one_le_two_pow)
  rwa [ipow_one] at this
theorem bd_first {M X R : Int} {n : Nat} {y : Int} (hM : 0 < M) (hX0 : 0 ≤ X) (hR : (n : Int) ≤ R) (h : (y.natAbs : Int) ≤ X) : Bd M X R n y := by
  have hm : 0 < M * 2 ^ n := Int.mul_pos hM (p2pos n)
  refine ⟨fun _ => ?_, fun _ => ?_⟩
  · have h1 : 2 * (M * 2 ^ n) * (y.natAbs : Int) ≤ 2 * (M * 2 ^ n) * X := Int.mul_le_mul_of_nonneg_left h (by first | with_reducible assumption | with_reducible exact Int.le_of_lt (by assumption) | with_reducible exact Nat.le_of_lt (by assumption) | omega)
    have h2 : 0 ≤ X * X := Int.mul_nonneg hX0 hX0
    have h3 : 0 ≤ (M * 2 ^ n) * (R - n) := Int.mul_nonneg (by first | with_reducible assumption | with_reducible exact Int.le_of_lt (by assumption) | with_reducible exact Nat.le_of_lt (by assumption) | omega) (by first | with_reducible assumption | with_reducible exact Int.le_of_lt (by assumption) | with_reducible exact Nat.le_of_lt (by assumption) | omega)
    omega
  · have := le_pow_self (show 1 ≤ 2 * X + 2 by omega) (11 - n)
    omega
theorem bd_step {M X R : Int} {n : Nat} {y : Int} (hM : 0 < M) (hX : 8 * X ≤ M * 2 ^ 11) (hX0 : 0 ≤ X) (hR : R ≤ X) (h : Bd M X R (n + 1) y) :
    Bd M X R n (divN (y * (y + M * 2 ^ (n + 2))) (M * 2 ^ (n + 2))) := by
  have e0 : M * 2 ^ (n + 2) = 4 * (M * 2 ^ n) := by rw [Int.pow_succ, Int.pow_succ]; grind
  have e1 : M * 2 ^ (n + 1) = 2 * (M * 2 ^ n) := by rw [Int.pow_succ]; grind
  have hm : 0 < M * 2 ^ n := Int.mul_pos hM (p2pos n)
  have hd := divN_natAbs (a := y * (y + M * 2 ^ (n + 2))) (b := M * 2 ^ (n + 2)) (by first | with_reducible assumption | with_reducible exact Int.le_of_lt (by assumption) | with_reducible exact Nat.le_of_lt (by assumption) | omega)
  have ha : ((y * (y + M * 2 ^ (n + 2))).natAbs : Int) ≤ y.natAbs * (y.natAbs + M * 2 ^ (n + 2)) := mul_natAbs_le (Int.le_refl _) (by first | with_reducible assumption | with_reducible exact Int.le_of_lt (by assumption) | with_reducible exact Nat.le_of_lt (by assumption) | omega)
  rw [e0] at hd ha ⊢
  generalize hq : divN (y * (y + 4 * (M * 2 ^ n))) (4 * (M * 2 ^ n)) = q at *
  by_cases hn : 11 ≤ n
  · have h1 := h.1 (by first | with_reducible assumption | with_reducible exact Int.le_of_lt (by assumption) | with_reducible exact Nat.le_of_lt (by assumption) | omega)
    have hXn : 8 * X ≤ M * 2 ^ n := by
      have : M * 2 ^ 11 ≤ M * 2 ^ n := Int.mul_le_mul_of_nonneg_left (ipow_le (by decide) hn) (by first | with_reducible assumption | with_reducible exact Int.le_of_lt (by assumption) | with_reducible exact Nat.le_of_lt (by assumption) | omega)
      omega
    have hy := bd_le hM (by rw [e1]; omega) hX0 hR h1
    have hf : 2 * (M * 2 ^ n) * (q.natAbs : Int) ≤ 2 * (M * 2 ^ n) * X + 4 * (X * X) + (M * 2 ^ n) * (R - n) := by
      rw [e1] at h1
      generalize M * 2 ^ n = m at *
      have h2 : (y.natAbs : Int) * y.natAbs ≤ (2 * X) * (2 * X) := Int.mul_le_mul hy hy (by first | with_reducible assumption | with_reducible exact Int.le_of_lt (by assumption) | with_reducible exact Nat.le_of_lt (by assumption) | omega) (by first | with_reducible assumption | with_reducible exact Int.le_of_lt (by assumption) | with_reducible exact Nat.le_of_lt (by assumption) | omega)
      have e3 : ((n + 1 : Nat) : Int) = n + 1 := by omega
      rw [e3] at h1
      generalize (y.natAbs : Int) = a at *
      generalize (q.natAbs : Int) = b at *
      generalize ((y * (y + 4 * m)).natAbs : Int) = c at *
      grind
    refine ⟨fun _ => hf, fun hle => ?_⟩
    have : n = 11 := by omega
    subst this
    have := bd_le hM hXn hX0 hR hf
    have e : (2 * X + 2) ^ (2 ^ (11 - 11)) = 2 * X + 2 := by rw [Nat.sub_self, Nat.pow_zero, ipow_one]
    rw [e]; omega
  · refine ⟨fun h => absurd h hn, fun _ => ?_⟩
    have h1 := h.2 (by first | with_reducible assumption | with_reducible exact Int.le_of_lt (by assumption) | with_reducible exact Nat.le_of_lt (by assumption) | omega)
    have e : (2 * X + 2) ^ (2 ^ (11 - n)) = (2 * X + 2) ^ (2 ^ (11 - (n + 1))) * (2 * X + 2) ^ (2 ^ (11 - (n + 1))) := by
      have : 11 - n = (11 - (n + 1)) + 1 := by omega
      rw [this, Nat.pow_succ, Nat.mul_two, Int.pow_add]
    rw [e]
    generalize (2 * X + 2) ^ (2 ^ (11 - (n + 1))) = B at *
    have h2 : ((y.natAbs : Int) + 2) * (y.natAbs + 2) ≤ B * B := Int.mul_le_mul h1 h1 (by first | with_reducible assumption | with_reducible exact Int.le_of_lt (by assumption) | with_reducible exact Nat.le_of_lt (by assumption) | omega) (by first | with_reducible assumption | with_reducible exact Int.le_of_lt (by assumption) | with_reducible exact Nat.le_of_lt (by assumption) | omega)
    generalize M * 2 ^ n = m at *
    generalize ((y * (y + 4 * m)).natAbs : Int) = c at *
    have ha0 : 0 ≤ (y.natAbs : Int) := by omega
    generalize (y.natAbs : Int) = a at *
    generalize (q.natAbs : Int) = b at *
    have h5 : 0 ≤ a * a := Int.mul_nonneg ha0 ha0
    have h3 : b ≤ a * a + a + 1 := by
      refine Int.not_lt.mp fun hlt => ?_
      have h4 : 2 * (a * a + a + 2) * (4 * m) ≤ 2 * b * (4 * m) := Int.mul_le_mul_of_nonneg_right (by first | with_reducible assumption | with_reducible exact Int.le_of_lt (by assumption) | with_reducible exact Nat.le_of_lt (by assumption) | omega) (by first | with_reducible assumption | with_reducible exact Int.le_of_lt (by assumption) | with_reducible exact Nat.le_of_lt (by assumption) | omega)
      have h6 : a * a * 1 ≤ a * a * (4 * m) := Int.mul_le_mul_of_nonneg_left (by first | with_reducible assumption | with_reducible exact Int.le_of_lt (by assumption) | with_reducible exact Nat.le_of_lt (by assumption) | omega) h5
      grind
    grind
set_option exponentiation.threshold 400 in
theorem bd_sm {M X R : Int} {n : Nat} {y : Int} (hM : 0 < M) (hX : 8 * X ≤ M * 2 ^ 11) (hX0 : 0 ≤ X) (hR : R ≤ X) (hX' : 2 * X + 2 ≤ 2 ^ 310) (h : Bd M X R n y) : y.natAbs < 2 ^ 640000 := by
  by_cases hn : 11 ≤ n
  · have hXn : 8 * X ≤ M * 2 ^ n := by
      have : M * 2 ^ 11 ≤ M * 2 ^ n := Int.mul_le_mul_of_nonneg_left (ipow_le (by decide) hn) (by first | with_reducible assumption | with_reducible exact Int.le_of_lt (by assumption) | with_reducible exact Nat.le_of_lt (by assumption) | omega)
      omega
    have h1 := bd_le hM hXn hX0 hR (h.1 hn)
    exact bigger 311 640000 (by first | with_reducible assumption | with_reducible exact Int.le_of_lt (by assumption) | with_reducible exact Nat.le_of_lt (by assumption) | omega)
  · have h1 := h.2 (by first | with_reducible assumption | with_reducible exact Int.le_of_lt (by assumption) | with_reducible exact Nat.le_of_lt (by assumption) | omega)
    obtain ⟨x, rfl⟩ := Int.eq_ofNat_of_zero_le hX0
    have h2 : y.natAbs + 2 ≤ (2 * x + 2) ^ (2 ^ (11 - n)) := by exact_mod_cast h1
    have h3 : 2 * x + 2 ≤ 2 ^ 310 := by exact_mod_cast hX'
    have h4 : (2 * x + 2) ^ (2 ^ (11 - n)) ≤ (2 ^ 310) ^ (2 ^ (11 - n)) := Nat.pow_le_pow_left h3 _
    rw [← Nat.pow_mul] at h4
    have h5 : 2 ^ (11 - n) ≤ 2 ^ 11 := Nat.pow_le_pow_right (by decide) (by first | with_reducible assumption | with_reducible exact Int.le_of_lt (by assumption) | with_reducible exact Nat.le_of_lt (by assumption) | omega)
    have h6 : 310 * 2 ^ (11 - n) < 640000 := by
      generalize 2 ^ (11 - n) = t at *
      omega
    have h7 : 2 ^ (310 * 2 ^ (11 - n)) ≤ 2 ^ 640000 := Nat.pow_le_pow_right (by decide) (by first | with_reducible assumption | with_reducible exact Int.le_of_lt (by assumption) | with_reducible exact Nat.le_of_lt (by assumption) | omega)
    generalize 2 ^ (310 * 2 ^ (11 - n)) = t at *
    generalize (2 * x + 2) ^ (2 ^ (11 - n)) = u at *
    generalize 2 ^ 640000 = v at *
    omega

noncomputable def n_iexp : List Str := ["x", "M", "L", "R", "T", "y", "Mshift", "i", "k"]
noncomputable def p_iexp : List Str := ["x", "M", "L"]
noncomputable def u_iexp : List B := [(.fn "_div_nearest"), .int, .len, .nbits, .range, .str]
noncomputable def s_iexp_1b : S :=
  (.set 5 (.call "_div_nearest" (.cons (.bin .Mult (.var 0) (.bin .Add (.var 6) (.var 5))) (.cons (.bin .Mult (.var 6) (.var 7)) .nil)))
  .nil)
noncomputable def s_iexp_2b : S :=
  (.set 6 (.bin .LShift (.var 1) (.bin .Add (.var 8) (.lit 2)))
  (.set 5 (.call "_div_nearest" (.cons (.bin .Mult (.var 5) (.bin .Add (.var 5) (.var 6))) (.cons (.var 6) .nil)))
  .nil))
noncomputable def s_iexp_2r : S :=
  (.ret (.bin .Add (.var 1) (.var 5)))
noncomputable def s_iexp_2 : S := .forR 8 (.cons (.bin .Sub (.var 3) (.lit 1)) (.cons (.neg (.lit 1)) (.cons (.neg (.lit 1)) .nil))) s_iexp_2b s_iexp_2r
noncomputable def s_iexp_1r : S :=
  s_iexp_2
noncomputable def s_iexp_1 : S := .forR 7 (.cons (.bin .Sub (.var 4) (.lit 1)) (.cons (.lit 0) (.cons (.neg (.lit 1)) .nil))) s_iexp_1b s_iexp_1r
noncomputable def s_iexp : S :=
  (.set 3 (.bi .nbits (.cons (.bin .FloorDiv (.bin .LShift (.var 0) (.var 2)) (.var 1)) .nil))
  (.set 4 (.neg (.bi .int (.cons (.bin .FloorDiv (.bin .Mult (.neg (.lit 10)) (.bi .len (.cons (.bi .str (.cons (.var 1) .nil)) .nil))) (.bin .Mult (.lit 3) (.var 2))) .nil)))
  (.set 5 (.call "_div_nearest" (.cons (.var 0) (.cons (.var 4) .nil)))
  (.set 6 (.bin .LShift (.var 1) (.var 3))
  s_iexp_1))))

inductive GD : Str → List D → D → Prop where
  | div (a b : Int) (hb : 0 < b) (hs : b.natAbs.log2 < 9000) : GD "_div_nearest" [.int a, .int b] (.int (divN a b))

theorem cnt_down (n : Nat) (z : Int) : cnt (z + n) z (-1) = n := by
  unfold cnt Builtin.Range.rangeSize
  rw [if_neg (by decide)]
  split
  · have : z + (n : Int) - z - 1 = n - 1 := by omega
    rw [this]
    have : ((n : Int) - 1) / (-(-1)) = n - 1 := by simp
    rw [this]; omega
  · omega

set_option exponentiation.threshold 400 in
theorem iexp_dbl {x L T : D} {M X : Int} {R : Nat} {y : Int} {d6 d7 d8 : D} (hM : 0 < M) (hM' : M < 2 ^ 300) (hX : 8 * X ≤ M * 2 ^ 11) (hX0 : 0 ≤ X) (hR : (R : Int) ≤ X) (hX' : 2 * X + 2 ≤ 2 ^ 310) (hR' : R ≤ 72) (hy : (y.natAbs : Int) ≤ X) :
    wpS GD s_iexp_2 [x, .int M, L, .int R, T, .int y, d6, d7, d8] (fun o _ => o = some (.int (M + dbl M R y))) := by
  have hc : cnt ((R : Int) - 1) (-1) (-1) = R := by
    have := cnt_down R (-1)
    rwa [show (-1 : Int) + (R : Int) = (R : Int) - 1 by omega] at this
  refine forR_ok ((R : Int) - 1) (-1) (-1) ?_ (by decide) (by decide) (small_gen (by first | with_reducible assumption | with_reducible exact Int.le_of_lt (by assumption) | with_reducible exact Nat.le_of_lt (by assumption) | omega) (by first | with_reducible assumption | with_reducible exact Int.le_of_lt (by assumption) | with_reducible exact Nat.le_of_lt (by assumption) | omega) (by decide) (by decide) (by decide) (by decide))
    (fun k ρ => ∃ y' d6 d8, ρ = [x, .int M, L, .int R, T, .int y', d6, d7, d8] ∧ k ≤ R ∧ dbl M (R - k) y' = dbl M R y ∧ Bd M X R (R - k) y') ⟨y, d6, d8, rfl, Nat.zero_le _, rfl, bd_first hM hX0 (by first | with_reducible assumption | with_reducible exact Int.le_of_lt (by assumption) | with_reducible exact Nat.le_of_lt (by assumption) | omega) hy⟩ ?_ ?_
  · simp only [wlit, wbo, wvar, wbin, wneg, wnot, wcmp, wcmp2, wany, wite, wcall, wbi, wisI, wisB, wlst, wtup, widx, wslc, wand, wor, wnil, wcons, snil, srais, sret, sset, sset2, saug, site, Mine.get, binW, cmpW, biW, truth, isBP, isIP, intP, Mine.ii, ibP, ilP, slP, tlP, lP, tP, Mine.l1, Mine.l2, Mine.l3, t2P, t3P, augW, Mine.onN, cutP, partP, E.isNil, List.isEmpty_nil, List.isEmpty_cons, List.set, ne_eq, reduceCtorEq, not_false_eq_true, true_and, and_true, if_true, if_false, Bool.false_eq_true, Option.some.injEq, exists_eq_left', Bool.not_true, Bool.not_false]
    simp
  · rintro k ρ hk ⟨y', d6, d8, rfl, _, he, hb⟩
    rw [hc] at hk
    obtain ⟨n, hn⟩ : ∃ n, R - k = n + 1 := ⟨R - k - 1, by omega⟩
    rw [hn] at he hb
    have e1 : (R : Int) - 1 + (k : Int) * -1 + 2 = ((n + 2 : Nat) : Int) := by omega
    have hnn : n ≤ 72 := by omega
    have hp : (2 : Int) ^ (n + 2) ≤ 2 ^ 74 := ipow_le (by decide) (by first | with_reducible assumption | with_reducible exact Int.le_of_lt (by assumption) | with_reducible exact Nat.le_of_lt (by assumption) | omega)
    have hp0 := p2pos (n + 2)
    have hM2 : M * 2 ^ (n + 2) ≤ M * 2 ^ 74 := Int.mul_le_mul_of_nonneg_left hp (by first | with_reducible assumption | with_reducible exact Int.le_of_lt (by assumption) | with_reducible exact Nat.le_of_lt (by assumption) | omega)
    have hM3 : 0 < M * 2 ^ (n + 2) := Int.mul_pos hM hp0
    have hbits : (Builtin.Int.intBits M : Int) + ((n + 2 : Nat) : Int) ≤ 2 ^ 27 := by
      have : Builtin.Int.intBits M ≤ 301 := intBits_le (by first | with_reducible assumption | with_reducible exact Int.le_of_lt (by assumption) | with_reducible exact Nat.le_of_lt (by assumption) | omega)
      omega
    have hsm := bd_sm hM hX hX0 hR hX' hb
    have s1 : Sm y' := .of 640000 hsm
    have s2 : Sm (y' + M * 2 ^ (n + 2)) := by
      have h1 : (M * 2 ^ (n + 2)).natAbs < 2 ^ 640000 := bigger 400 640000 (by first | with_reducible assumption | with_reducible exact Int.le_of_lt (by assumption) | with_reducible exact Nat.le_of_lt (by assumption) | omega)
      exact .of 640001 (add_sz (n := 640000) rfl hsm h1)
    unfold s_iexp_2b
    simp only [wlit, wbo, wvar, wbin, wneg, wnot, wcmp, wcmp2, wany, wite, wcall, wbi, wisI, wisB, wlst, wtup, widx, wslc, wand, wor, wnil, wcons, snil, srais, sret, sset, sset2, saug, site, Mine.get, binW, cmpW, biW, truth, isBP, isIP, intP, Mine.ii, ibP, ilP, slP, tlP, lP, tP, Mine.l1, Mine.l2, Mine.l3, t2P, t3P, augW, Mine.onN, cutP, partP, E.isNil, List.isEmpty_nil, List.isEmpty_cons, List.set, ne_eq, reduceCtorEq, not_false_eq_true, true_and, and_true, if_true, if_false, Bool.false_eq_true, Option.some.injEq, exists_eq_left', Bool.not_true, Bool.not_false]
    rw [e1, Int.toNat_natCast]
    refine ⟨by omega, hbits, s1.mul s2, _, .div _ _ hM3 (lg 400 (by first | with_reducible assumption | with_reducible exact Int.le_of_lt (by assumption) | with_reducible exact Nat.le_of_lt (by assumption) | omega)), ?_⟩
    have hn' : R - (k + 1) = n := by omega
    rw [hn']
    exact ⟨_, _, _, rfl, by omega, he, bd_step hM hX hX0 hR hb⟩
  · rintro ρ ⟨y', d6, d8, rfl, _, he, _⟩
    rw [hc, Nat.sub_self] at he
    unfold s_iexp_2r
    simp only [wlit, wbo, wvar, wbin, wneg, wnot, wcmp, wcmp2, wany, wite, wcall, wbi, wisI, wisB, wlst, wtup, widx, wslc, wand, wor, wnil, wcons, snil, srais, sret, sset, sset2, saug, site, Mine.get, binW, cmpW, biW, truth, isBP, isIP, intP, Mine.ii, ibP, ilP, slP, tlP, lP, tP, Mine.l1, Mine.l2, Mine.l3, t2P, t3P, augW, Mine.onN, cutP, partP, E.isNil, List.isEmpty_nil, List.isEmpty_cons, List.set, ne_eq, reduceCtorEq, not_false_eq_true, true_and, and_true, if_true, if_false, Bool.false_eq_true, Option.some.injEq, exists_eq_left', Bool.not_true, Bool.not_false]
    rw [← he]; rfl

theorem nz' {a : Int} (h : 0 < a) : a ≠ 0 := by omega
set_option exponentiation.threshold 400 in
theorem sz300 {x M : Int} (hM : 0 < M) (hM' : M < 10 ^ 90) (hx : x.natAbs ≤ 64 * M) : M.natAbs < 2 ^ 300 ∧ x.natAbs < 2 ^ 306 := by omega
theorem bits_add {a b : Int} {k : Nat} (h : a.natAbs < 2 ^ k) (hk : k ≤ 1000) (hb : b ≤ 1000) : (Builtin.Int.intBits a : Int) + b ≤ 2 ^ 27 := by
  have := intBits_le h
  omega
theorem scale2 {x M L : Int} (hM : 0 < M) (hL : 1 ≤ L) : 2 * (x.natAbs : Int) ≤ M * 2 ^ nR x M L := by
  obtain ⟨hR1, _⟩ := nR_facts (x := x) (L := L) hM
  have hl2 : (2 : Int) ≤ 2 ^ L.toNat := by
    have := ipow_le (c := 2) (by decide) (show 1 ≤ L.toNat by omega)
    rwa [ipow_one] at this
  have : (x.natAbs : Int) * 2 ≤ x.natAbs * 2 ^ L.toNat := Int.mul_le_mul_of_nonneg_left hl2 (by first | with_reducible assumption | with_reducible exact Int.le_of_lt (by assumption) | with_reducible exact Nat.le_of_lt (by assumption) | omega)
  split at hR1 <;> omega
theorem szp2 {M : Int} {R k : Nat} (hM : M.natAbs < 2 ^ 300) (hR : R ≤ k) : (M * 2 ^ R).natAbs < 2 ^ (300 + k) := by
  rw [Int.natAbs_mul, Nat.pow_add, Int.natAbs_pow]
  have h2 : (2 : Int).natAbs ^ R ≤ 2 ^ k := Nat.pow_le_pow_right (by decide) hR
  exact Nat.mul_lt_mul_of_lt_of_le hM h2 (Nat.pow_pos (by decide))
theorem le_sz {a b : Int} {k : Nat} (h : (a.natAbs : Int) ≤ 2 * b.natAbs + 1) (hb : b.natAbs < 2 ^ k) : a.natAbs < 2 ^ (k + 1) := by
  rw [Nat.pow_succ]
  generalize (2 : Nat) ^ k = p at *
  omega
theorem first_le {x T : Int} (hT : 1 ≤ T) : ((divN x T).natAbs : Int) ≤ 2 * x.natAbs + 1 := by
  have h1 := divN_natAbs (a := x) (show 0 < T by omega)
  generalize ((divN x T).natAbs : Int) = q at *
  refine Int.not_lt.mp fun hlt => ?_
  have h2 : 2 * q * 1 ≤ 2 * q * T := Int.mul_le_mul_of_nonneg_left hT (by first | with_reducible assumption | with_reducible exact Int.le_of_lt (by assumption) | with_reducible exact Nat.le_of_lt (by assumption) | omega)
  have h3 : 2 * (2 * (x.natAbs : Int) + 2) * T ≤ 2 * q * T := Int.mul_le_mul_of_nonneg_right (by first | with_reducible assumption | with_reducible exact Int.le_of_lt (by assumption) | with_reducible exact Nat.le_of_lt (by assumption) | omega) (by first | with_reducible assumption | with_reducible exact Int.le_of_lt (by assumption) | with_reducible exact Nat.le_of_lt (by assumption) | omega)
  have h4 : (x.natAbs : Int) * 1 ≤ x.natAbs * T := Int.mul_le_mul_of_nonneg_left hT (by first | with_reducible assumption | with_reducible exact Int.le_of_lt (by assumption) | with_reducible exact Nat.le_of_lt (by assumption) | omega)
  grind
theorem iexp_turn {x S y : Int} {j : Nat} (hx : x.natAbs < 2 ^ 306) (hS : S.natAbs < 2 ^ 372) (hy : (y.natAbs : Int) ≤ 2 * x.natAbs + 1) (hj : j ≤ 1000) :
    IntMulOk x (S + y) ∧ IntMulOk S ((j : Int) + 1) ∧ (S * ((j : Int) + 1)).natAbs.log2 < 9000 := by
  have h1 := add_sz rfl hS (bigger 307 372 (le_sz hy hx))
  have h2 : ((j : Int) + 1).natAbs < 2 ^ 10 := by omega
  refine ⟨Sm.mul (.of _ hx) (.of _ h1), Sm.mul (.of _ hS) (.of _ h2), lg 382 ?_⟩
  rw [Int.natAbs_mul, show 382 = 372 + 10 from rfl, Nat.pow_add]
  exact Nat.mul_lt_mul'' hS h2
set_option exponentiation.threshold 400 in
theorem iexp_end {x M : Int} {R : Nat} (hM : 0 < M) (hx : x.natAbs < 2 ^ 306) (hS : 2 * (x.natAbs : Int) ≤ M * 2 ^ R) (hx64 : x.natAbs ≤ 64 * M) (hR : R ≤ 72) :
    8 * (2 * (x.natAbs : Int) + 74) ≤ M * 2 ^ 11 ∧ 0 ≤ 2 * (x.natAbs : Int) + 74 ∧ (R : Int) ≤ 2 * (x.natAbs : Int) + 74 ∧ 2 * (2 * (x.natAbs : Int) + 74) + 2 ≤ 2 ^ 310 := by
  refine ⟨by omega, by omega, by omega, by omega⟩
set_option exponentiation.threshold 400 in
theorem iexp_body (x M L : Int) (hM : 0 < M) (hM' : M < 10 ^ 90) (hx : x.natAbs ≤ 64 * M) (hL : 1 ≤ L) (hL' : L ≤ 64) :
    wpS GD s_iexp [.int x, .int M, .int L, .undef, .undef, .undef, .undef, .undef, .undef] (fun o _ => o = some (.int (iexp x M L))) := by
  obtain ⟨sM, sx⟩ := sz300 hM hM' hx
  have hR := nR_le (L := L) hM hx hL'
  have hT1 := (nT_facts hM hL).1
  have hT4 := nT_le (k := 90) hM hL hM'
  have hf4 := figs_le (k := 90) hM hM'
  have hS := scale2 (x := x) hM hL
  obtain ⟨g1, g2, g3, g4⟩ := iexp_end hM sx hS hx hR
  have hM2 : M < 2 ^ 300 := by omega
  have hfirst := first_le (x := x) hT1
  have b1 := bits_add (b := L) sx (by decide) (by first | with_reducible assumption | with_reducible exact Int.le_of_lt (by assumption) | with_reducible exact Nat.le_of_lt (by assumption) | omega)
  have b2 := bits_add (b := (nR x M L : Int)) sM (by decide) (by first | with_reducible assumption | with_reducible exact Int.le_of_lt (by assumption) | with_reducible exact Nat.le_of_lt (by assumption) | omega)
  have hT0 : 0 < nT M L := hT1
  have lT : (nT M L).natAbs.log2 < 9000 := lg 10 (by first | with_reducible assumption | with_reducible exact Int.le_of_lt (by assumption) | with_reducible exact Nat.le_of_lt (by assumption) | omega)
  have l3 : (3 * L).natAbs.log2 < 9000 := lg 10 (by first | with_reducible assumption | with_reducible exact Int.le_of_lt (by assumption) | with_reducible exact Nat.le_of_lt (by assumption) | omega)
  have n3 : 3 * L ≠ 0 := by omega
  have hL0 : 0 ≤ L := by omega
  have hfg : figs M < 2 ^ 60 := by omega
  have hstr : M.natAbs.log2 < 1920 := Nat.lt_of_le_of_lt (Nat.le_of_lt_succ (Nat.lt_succ_of_lt ((Nat.log2_lt (by first | with_reducible assumption | with_reducible exact Int.le_of_lt (by assumption) | with_reducible exact Nat.le_of_lt (by assumption) | omega)).mpr sM))) (by decide)
  obtain ⟨n, hn⟩ : ∃ n : Nat, nT M L = n + 1 := ⟨(nT M L - 1).toNat, by omega⟩
  have hn2 : (nT M L - 1).toNat = n := by omega
  have hn1000 : n ≤ 1000 := by omega
  have hsm : Builtin.Range.small (nT M L - 1) 0 (-1) = true := small_gen (by first | with_reducible assumption | with_reducible exact Int.le_of_lt (by assumption) | with_reducible exact Nat.le_of_lt (by assumption) | omega) (by first | with_reducible assumption | with_reducible exact Int.le_of_lt (by assumption) | with_reducible exact Nat.le_of_lt (by assumption) | omega) (by decide) (by decide) (by decide) (by decide)
  have hS0 : 0 < M * 2 ^ nR x M L := Int.mul_pos hM (p2pos _)
  have sS := szp2 (k := 72) sM hR
  clear hL' hM' hf4 hT4
  unfold s_iexp
  simp only [wlit, wbo, wvar, wbin, wneg, wnot, wcmp, wcmp2, wany, wite, wcall, wbi, wisI, wisB, wlst, wtup, widx, wslc, wand, wor, wnil, wcons, snil, srais, sret, sset, sset2, saug, site, Mine.get, binW, cmpW, biW, truth, isBP, isIP, intP, Mine.ii, ibP, ilP, slP, tlP, lP, tP, Mine.l1, Mine.l2, Mine.l3, t2P, t3P, augW, Mine.onN, cutP, partP, E.isNil, List.isEmpty_nil, List.isEmpty_cons, List.set, ne_eq, reduceCtorEq, not_false_eq_true, true_and, and_true, if_true, if_false, Bool.false_eq_true, Option.some.injEq, exists_eq_left', Bool.not_true, Bool.not_false]
  refine ⟨hL0, b1, nz' hM, lg 300 sM, hstr, hfg, IntMulOk.of_left (by decide), IntMulOk.of_left (by decide), n3, l3, ?_⟩
  show ∃ r, GD "_div_nearest" [.int x, .int (nT M L)] r ∧ _
  refine ⟨_, .div _ _ hT0 lT, Int.natCast_nonneg _, b2, ?_⟩
  rw [Int.toNat_natCast]
  show wpS GD s_iexp_1 [.int x, .int M, .int L, .int (nR x M L : Int), .int (nT M L), .int (divN x (nT M L)), .int (M * 2 ^ nR x M L), .undef, .undef] _
  have hc : cnt (nT M L - 1) 0 (-1) = n := by
    have := cnt_down n 0
    rwa [show (0 : Int) + (n : Int) = nT M L - 1 by omega] at this
  have hfin : iexp x M L = M + dbl M (nR x M L) (ser x (M * 2 ^ nR x M L) n (divN x (nT M L))) := by unfold iexp; rw [hn2]
  rw [hfin]
  generalize nR x M L = R at *
  generalize hSg : M * 2 ^ R = S at *
  generalize divN x (nT M L) = y0 at *
  clear hT1 hT0 lT l3 n3 b1 b2 hfg hstr hn2 hL hL0 hfin hSg
  refine forR_ok (nT M L - 1) 0 (-1) ?_ (by decide) (by decide) hsm
    (fun k ρ => ∃ y' d7, ρ = [.int x, .int M, .int L, .int R, .int (nT M L), .int y', .int S, d7, .undef] ∧ k ≤ n ∧ ser x S (n - k) y' = ser x S n y0 ∧ (y'.natAbs : Int) ≤ 2 * x.natAbs + 1) ⟨y0, _, rfl, Nat.zero_le _, rfl, hfirst⟩ ?_ ?_
  · simp only [wlit, wbo, wvar, wbin, wneg, wnot, wcmp, wcmp2, wany, wite, wcall, wbi, wisI, wisB, wlst, wtup, widx, wslc, wand, wor, wnil, wcons, snil, srais, sret, sset, sset2, saug, site, Mine.get, binW, cmpW, biW, truth, isBP, isIP, intP, Mine.ii, ibP, ilP, slP, tlP, lP, tP, Mine.l1, Mine.l2, Mine.l3, t2P, t3P, augW, Mine.onN, cutP, partP, E.isNil, List.isEmpty_nil, List.isEmpty_cons, List.set, ne_eq, reduceCtorEq, not_false_eq_true, true_and, and_true, if_true, if_false, Bool.false_eq_true, Option.some.injEq, exists_eq_left', Bool.not_true, Bool.not_false]
    simp
  · rintro k ρ hk ⟨y', d7, rfl, _, he, hb⟩
    rw [hc] at hk
    clear hM hx hM2 sM g1 g2 g3 g4 hR hsm
    obtain ⟨j, hj⟩ : ∃ j, n - k = j + 1 := ⟨n - k - 1, by omega⟩
    rw [hj] at he
    have e1 : nT M L - 1 + (k : Int) * -1 = (j : Int) + 1 := by omega
    have hn' : n - (k + 1) = j := by omega
    have hk1 : k + 1 ≤ n := hk
    have hj1 : (1 : Int) ≤ (j : Int) + 1 := by omega
    obtain ⟨m1, m2, m3⟩ := iexp_turn sx sS hb (show j ≤ 1000 by omega)
    unfold s_iexp_1b
    simp only [wlit, wbo, wvar, wbin, wneg, wnot, wcmp, wcmp2, wany, wite, wcall, wbi, wisI, wisB, wlst, wtup, widx, wslc, wand, wor, wnil, wcons, snil, srais, sret, sset, sset2, saug, site, Mine.get, binW, cmpW, biW, truth, isBP, isIP, intP, Mine.ii, ibP, ilP, slP, tlP, lP, tP, Mine.l1, Mine.l2, Mine.l3, t2P, t3P, augW, Mine.onN, cutP, partP, E.isNil, List.isEmpty_nil, List.isEmpty_cons, List.set, ne_eq, reduceCtorEq, not_false_eq_true, true_and, and_true, if_true, if_false, Bool.false_eq_true, Option.some.injEq, exists_eq_left', Bool.not_true, Bool.not_false]
    rw [e1]
    refine ⟨m1, m2, _, .div _ _ (Int.mul_pos hS0 hj1) m3, ?_⟩
    rw [hn']
    exact ⟨_, _, rfl, hk1, he, ser_step hS0 hS hj1 hb⟩
  · rintro ρ ⟨y', d7, rfl, _, he, hb⟩
    rw [hc, Nat.sub_self] at he
    rw [← he]
    show wpS GD s_iexp_1r _ _
    unfold s_iexp_1r
    exact iexp_dbl (X := 2 * x.natAbs + 74) hM hM2 g1 g2 g3 g4 hR (by show (y'.natAbs : Int) ≤ _; omega)


/-! the loop of _law_log -/
theorem fdiv_rat {a b : Int} (hb : 0 < b) : ((a.fdiv b : Int) : Rat) * (b : Rat) ≤ (a : Rat) ∧ (a : Rat) < ((a.fdiv b : Int) : Rat) * (b : Rat) + (b : Rat) := by
  rw [Int.fdiv_eq_ediv_of_nonneg _ (by first | with_reducible assumption | with_reducible exact Int.le_of_lt (by assumption) | with_reducible exact Nat.le_of_lt (by assumption) | omega)]
  have h1 := Int.ediv_mul_le a (show b ≠ 0 by omega)
  have h2 := Int.lt_ediv_add_one_mul_self a hb
  have h3 := icast_le h1
  have h4 := Rat.intCast_lt_intCast.mpr h2
  rw [Rat.intCast_mul] at h3
  rw [Rat.intCast_mul, Rat.intCast_add] at h4
  rw [show ((1 : Int) : Rat) = 1 from rfl] at h4
  constructor <;> grind
/-! factorials -/
noncomputable def fct : Nat → Int
  | 0 => 1
  | n + 1 => fct n * ((n : Int) + 1)
theorem fct_pos (n : Nat) : 0 < fct n := by
  induction n with
  | zero => decide
  | succ n ih => exact Int.mul_pos ih (by first | with_reducible assumption | with_reducible exact Int.le_of_lt (by assumption) | with_reducible exact Nat.le_of_lt (by assumption) | omega)
theorem tm_fct (n : Nat) (u : Rat) : tm n u * (fct n : Rat) = u ^ n := by
  induction n with
  | zero => rw [Rat.pow_zero]; show (1 : Rat) * ((1 : Int) : Rat) = 1; rw [show ((1 : Int) : Rat) = 1 from rfl]; grind
  | succ n ih =>
    have h1 := tm_succ n u
    show tm (n + 1) u * ((fct n * ((n : Int) + 1) : Int) : Rat) = _
    rw [Rat.intCast_mul, Rat.intCast_add, Rat.intCast_natCast, show ((1 : Int) : Rat) = 1 from rfl, Rat.pow_succ, ← ih]
    grind
/-- the halves of the doublings below nought, each as small as it has shrunk by the end -/
noncomputable def sG (d : Rat) : Nat → Int → Rat
  | 0, _ => 0
  | n + 1, Q => ex d ((2 ^ n - 1) * (2 * Q)) / 2 + sG d n (2 * Q)
theorem sq_nonneg (B : Rat) : 0 ≤ B * B := by
  rcases Rat.le_total (a := 0) (b := B) with h | h
  · exact Rat.mul_nonneg h h
  · have := Rat.mul_nonneg (show 0 ≤ -B by grind) (show 0 ≤ -B by grind); grind
theorem dbl_abs {d : Rat} (hd : 0 < d) {M : Int} (hM : 0 < M) {B : Rat} : ∀ (n : Nat) (y Q : Int) (a : Rat), Q ≤ 0 → 0 ≤ a →
    Wi ((M : Rat) * 2 ^ n + (y : Rat) - (M : Rat) * 2 ^ n * ex d Q) a → a + (n : Rat) / 2 + B * B / (2 * (M : Rat)) - B * B / (2 * ((M : Rat) * 2 ^ n)) ≤ B →
    Wi ((M : Rat) + (dbl M n y : Int) - (M : Rat) * ex d (2 ^ n * Q)) (a * ex d ((2 ^ n - 1) * Q) + sG d n Q + (B * B / (2 * (M : Rat)) - B * B / (2 * ((M : Rat) * 2 ^ n))))
  | 0, y, Q, a, hQ, ha, hy, ht => by
    rw [show (2 : Int) ^ 0 * Q = Q by simp, show ((2 : Int) ^ 0 - 1) * Q = 0 by simp, ex_zero]
    rw [show (M : Rat) * 2 ^ 0 = (M : Rat) by rw [Rat.pow_zero]; grind] at hy ⊢
    have e : sG d 0 Q = 0 := rfl
    rw [e]
    exact hy.le (by first | with_reducible assumption | with_reducible exact Rat.le_of_lt (by assumption) | grind)
  | n + 1, y, Q, a, hQ, ha, hy, ht => by
    have hM' := ipos hM
    have hm : 0 < (M : Rat) * 2 ^ n := Rat.mul_pos hM' (pow2pos n)
    have e1 : (M : Rat) * 2 ^ (n + 1) = (M : Rat) * 2 ^ n * 2 := by rw [Rat.pow_succ]; grind
    have e2 : (2 : Int) ^ (n + 1) * Q = 2 ^ n * (2 * Q) := by rw [Int.pow_succ]; grind
    have hGE : sG d (n + 1) Q = ex d ((2 ^ n - 1) * (2 * Q)) / 2 + sG d n (2 * Q) := rfl
    have hBB := sq_nonneg B
    have hone := dbl_one hM n y (ex d Q) _ rfl
    rw [e1] at hy ht ⊢
    rw [e2, hGE]
    have ih := dbl_abs hd hM (B := B) n (divN (y * (y + M * 2 ^ (n + 2))) (M * 2 ^ (n + 2))) (2 * Q) (a * ex d Q + B * B / (4 * ((M : Rat) * 2 ^ n)) + 1 / 2) (by first | with_reducible assumption | with_reducible exact Int.le_of_lt (by assumption) | with_reducible exact Nat.le_of_lt (by assumption) | omega)
    have hinv : 0 ≤ B * B / (4 * ((M : Rat) * 2 ^ n)) := rdiv_nonneg hBB (Rat.mul_pos (by decide) hm)
    obtain ⟨s1, s2⟩ := half_split (b := B * B) hm
    have hge : (M : Rat) ≤ (M : Rat) * 2 ^ n := by
      have := Rat.mul_le_mul_of_nonneg_left (pow2ge n) (Rat.le_of_lt hM')
      grind
    have hdiff : B * B / (2 * ((M : Rat) * 2 ^ n)) ≤ B * B / (2 * (M : Rat)) := rdiv_anti hBB (Rat.mul_pos (by decide) hM') (Rat.mul_le_mul_of_nonneg_left hge (by decide))
    rw [s2] at ht ⊢
    rw [cast_succ] at ht
    have he := ex_pos hd Q
    have he1 := ex_le_one hd hQ
    have hae := Rat.mul_le_mul_of_nonneg_left he1 ha
    have hae0 := Rat.mul_nonneg ha (Rat.le_of_lt he)
    have hg0 := ex_pos hd ((2 ^ n - 1) * (2 * Q))
    have hg1 : ex d ((2 ^ n - 1) * (2 * Q)) ≤ 1 := by
      refine ex_le_one hd ?_
      have : (1 : Int) ≤ 2 ^ n := Int.pow_pos (by decide)
      exact Int.mul_nonpos_of_nonneg_of_nonpos (by first | with_reducible assumption | with_reducible exact Int.le_of_lt (by assumption) | with_reducible exact Nat.le_of_lt (by assumption) | omega) (by first | with_reducible assumption | with_reducible exact Int.le_of_lt (by assumption) | with_reducible exact Nat.le_of_lt (by assumption) | omega)
    have hprod : ex d ((2 ^ (n + 1) - 1) * Q) = ex d Q * ex d ((2 ^ n - 1) * (2 * Q)) := by
      rw [← ex_add hd]
      congr 1
      rw [Int.pow_succ]
      grind
    rw [hprod]
    clear e1 e2 hGE hprod
    generalize hb4 : B * B / (4 * ((M : Rat) * 2 ^ n)) = b4 at *
    generalize B * B / (2 * ((M : Rat) * 2 ^ n)) = b2 at *
    generalize B * B / (2 * (M : Rat)) = b0 at *
    have hn0 : (0 : Rat) ≤ (n : Rat) := Rat.natCast_nonneg
    have haB : a ≤ B := by clear ih hone hy; grind
    have ih := ih (by clear ih hone hy; grind) ?_ (by clear ih hone hy; grind)
    · refine ih.le ?_
      clear ih hone hy
      generalize ex d ((2 ^ n - 1) * (2 * Q)) = g at *
      have := Rat.mul_le_mul_of_nonneg_left hg1 hinv
      grind
    · clear ih
      subst hb4
      rw [ex_two hd]
      have hDD := hy.mul hy
      have haa : a * a ≤ B * B := rmul ha (by first | with_reducible assumption | with_reducible exact Rat.le_of_lt (by assumption) | grind) haB haB
      have h6 := Rat.mul_le_mul_of_nonneg_left hy.1 (Rat.mul_nonneg (Rat.le_of_lt hm) (Rat.le_of_lt he))
      have h7 := Rat.mul_le_mul_of_nonneg_left hy.2 (Rat.mul_nonneg (Rat.le_of_lt hm) (Rat.le_of_lt he))
      generalize (((divN (y * (y + M * 2 ^ (n + 2))) (M * 2 ^ (n + 2)) : Int)) : Rat) = q at *
      generalize (M : Rat) * 2 ^ n = m at *
      generalize ex d Q = e at *
      generalize m * 2 + (y : Rat) - m * 2 * e = D at *
      refine Wi.div (c := 4 * m) (by first | with_reducible assumption | with_reducible exact Rat.le_of_lt (by assumption) | grind) ?_
      have e5 : 4 * m * (a * e + B * B / (4 * m) + 1 / 2) = 4 * m * (a * e) + B * B + 2 * m := by grind
      rw [e5]
      obtain ⟨o1, o2⟩ := hone
      obtain ⟨d1, d2⟩ := hDD
      constructor <;> grind
/-! sums -/
noncomputable def sumTo (f : Nat → Int) : Nat → Int
  | 0 => 0
  | n + 1 => sumTo f n + f n
theorem sE_sum {d c : Rat} {f : Nat → Int} : ∀ (n : Nat) (Q : Int), (∀ j < n, c * (ex d (-(2 ^ (n - j) * Q)) / 2) ≤ (f j : Rat)) → c * sE d n Q ≤ (sumTo f n : Rat)
  | 0, _, _ => by show c * 0 ≤ ((0 : Int) : Rat); rw [show ((0 : Int) : Rat) = 0 from rfl]; grind
  | n + 1, Q, h => by
    have ih := sE_sum (d := d) (c := c) (f := f) n (2 * Q) (fun j hj => by
      have := h j (by first | with_reducible assumption | with_reducible exact Int.le_of_lt (by assumption) | with_reducible exact Nat.le_of_lt (by assumption) | omega)
      rw [show n + 1 - j = (n - j) + 1 by omega, Int.pow_succ] at this
      rw [show (2 : Int) ^ (n - j) * (2 * Q) = 2 ^ (n - j) * 2 * Q by grind]
      exact this)
    have h2 := h n (by first | with_reducible assumption | with_reducible exact Int.le_of_lt (by assumption) | with_reducible exact Nat.le_of_lt (by assumption) | omega)
    rw [show n + 1 - n = 1 by omega, show (2 : Int) ^ 1 = 2 from rfl] at h2
    show c * (ex d (-(2 * Q)) / 2 + sE d n (2 * Q)) ≤ ((sumTo f n + f n : Int) : Rat)
    rw [Rat.intCast_add]
    grind
theorem sG_sum {d c : Rat} {f : Nat → Int} : ∀ (n : Nat) (Q : Int), (∀ j < n, c * (ex d ((2 ^ j - 1) * (2 ^ (n - j) * Q)) / 2) ≤ (f j : Rat)) → c * sG d n Q ≤ (sumTo f n : Rat)
  | 0, _, _ => by show c * 0 ≤ ((0 : Int) : Rat); rw [show ((0 : Int) : Rat) = 0 from rfl]; grind
  | n + 1, Q, h => by
    have ih := sG_sum (d := d) (c := c) (f := f) n (2 * Q) (fun j hj => by
      have := h j (by first | with_reducible assumption | with_reducible exact Int.le_of_lt (by assumption) | with_reducible exact Nat.le_of_lt (by assumption) | omega)
      rw [show n + 1 - j = (n - j) + 1 by omega, Int.pow_succ] at this
      rw [show (2 : Int) ^ (n - j) * (2 * Q) = 2 ^ (n - j) * 2 * Q by grind]
      exact this)
    have h2 := h n (by first | with_reducible assumption | with_reducible exact Int.le_of_lt (by assumption) | with_reducible exact Nat.le_of_lt (by assumption) | omega)
    rw [show n + 1 - n = 1 by omega, show (2 : Int) ^ 1 = 2 from rfl] at h2
    show c * (ex d ((2 ^ n - 1) * (2 * Q)) / 2 + sG d n (2 * Q)) ≤ ((sumTo f n + f n : Int) : Rat)
    rw [Rat.intCast_add]
    grind
theorem rmul_pow (a b : Rat) (n : Nat) : (a * b) ^ n = a ^ n * b ^ n := by
  induction n with
  | zero => rw [Rat.pow_zero, Rat.pow_zero, Rat.pow_zero]; grind
  | succ n ih => rw [Rat.pow_succ, Rat.pow_succ, Rat.pow_succ, ih]; grind
theorem ex_mulN' {d : Rat} (hd : 0 < d) (k : Nat) (p : Int) : ex d ((k : Int) * p) = ex d p ^ k := by
  induction k with
  | zero => rw [show ((0 : Nat) : Int) * p = 0 by simp, ex_zero, Rat.pow_zero]
  | succ k ih => rw [show ((k + 1 : Nat) : Int) * p = (k : Int) * p + p by rw [Int.natCast_add]; grind, ex_add hd, ih, Rat.pow_succ]
/-- exp(-t) is no more than 1 by 1 + t / k, k times multiplied by itself -/
theorem ex_pow_le {d : Rat} (hd : 0 < d) (k : Nat) {c m b : Int} (hm : 0 < m) (hmb : 0 < m + b) (h : (m : Rat) * ((c : Rat) * d) = (b : Rat)) : ex d (-((k : Int) * c)) * ((m + b : Int) : Rat) ^ k ≤ (m : Rat) ^ k := by
  have h1 := ex_ge hd c
  have hmr := ipos hm
  have e : ((m + b : Int) : Rat) = (m : Rat) * (1 + (c : Rat) * d) := by rw [Rat.intCast_add, ← h]; grind
  have hp : 0 < 1 + (c : Rat) * d := by
    have := ipos hmb
    rw [e] at this
    refine Rat.not_le.mp fun hle => ?_
    have := Rat.mul_le_mul_of_nonneg_left hle (Rat.le_of_lt hmr)
    grind
  rw [e, rmul_pow]
  have h2 := pow_mono (Rat.le_of_lt hp) h1 k
  have h3 := ex_neg hd ((k : Int) * c)
  rw [ex_mulN' hd k c] at h3
  have h4 := Rat.mul_le_mul_of_nonneg_left h2 (Rat.le_of_lt (Rat.mul_pos (ex_pos hd (-((k : Int) * c))) (Rat.pow_pos hmr (n := k))))
  have e2 : ex d (-((k : Int) * c)) * (m : Rat) ^ k * ex d c ^ k = (m : Rat) ^ k := by
    have : ex d (-((k : Int) * c)) * (m : Rat) ^ k * ex d c ^ k = (m : Rat) ^ k * (ex d c ^ k * ex d (-((k : Int) * c))) := by grind
    rw [this, h3]; grind
  rw [e2] at h4
  grind
theorem floor_pow {d : Rat} (hd : 0 < d) (k : Nat) {s c m b : Int} (hs : 0 ≤ s) (hm : 0 < m) (hmb : 0 < m + b) (h : (m : Rat) * ((c : Rat) * d) = (b : Rat)) : (s : Rat) * ex d (-((k : Int) * c)) ≤ ((s * m ^ k).fdiv ((m + b) ^ k) : Int) + 1 ∧ (s : Rat) * (ex d (-((k : Int) * c)) / 2) ≤ ((s * m ^ k).fdiv (2 * (m + b) ^ k) : Int) + 1 := by
  have h1 := ex_pow_le hd k hm hmb h
  have hq : 0 < (m + b) ^ k := Int.pow_pos hmb
  have hqr := ipos hq
  have hsr : (0 : Rat) ≤ (s : Rat) := Rat.intCast_nonneg.mpr hs
  have h2 := Rat.mul_le_mul_of_nonneg_left h1 hsr
  rw [← Rat.intCast_pow] at h2
  constructor
  · have h3 := (fdiv_rat (a := s * m ^ k) hq).2
    rw [Rat.intCast_mul, Rat.intCast_pow] at h3
    refine div_le' hqr ?_
    generalize (((s * m ^ k).fdiv ((m + b) ^ k) : Int) : Rat) = q at *
    generalize (((m + b) ^ k : Int) : Rat) = w at *
    grind
  · have h3 := (fdiv_rat (a := s * m ^ k) (b := 2 * (m + b) ^ k) (by first | with_reducible assumption | with_reducible exact Int.le_of_lt (by assumption) | with_reducible exact Nat.le_of_lt (by assumption) | omega)).2
    rw [Rat.intCast_mul, Rat.intCast_pow, Rat.intCast_mul, show ((2 : Int) : Rat) = 2 from rfl] at h3
    refine div_le' (show (0 : Rat) < 2 * (((m + b) ^ k : Int) : Rat) by grind) ?_
    generalize (((s * m ^ k).fdiv (2 * (m + b) ^ k) : Int) : Rat) = q at *
    generalize (((m + b) ^ k : Int) : Rat) = w at *
    grind

/-! what _law_bound computes -/
noncomputable def leftB (x M L : Int) : Int := (10 ^ 6 * (x.natAbs : Int) ^ (nN M L + 1 + 1)).fdiv (fct (nN M L + 2) * (M * 2 ^ nR x M L) ^ (nN M L + 1)) + 1
noncomputable def bB (x : Int) (j : Nat) : Int := if x ≥ 0 then (x.natAbs : Int) else (x.natAbs : Int) * (2 ^ j - 1)
noncomputable def termB (x M : Int) (j : Nat) : Int := (10 ^ 6 * (32 * (M * 2 ^ j)) ^ 32).fdiv (2 * (32 * (M * 2 ^ j) + bB x j) ^ 32) + 1
noncomputable def ser0B (x M L : Int) : Int := 500000 + (650000 : Int).fdiv (2 ^ L.toNat) + 1 + leftB x M L
noncomputable def serB (x M L : Int) : Int := if x < 0 then (ser0B x M L * (32 * (M * 2 ^ nR x M L)) ^ 32).fdiv ((32 * (M * 2 ^ nR x M L) + (x.natAbs : Int) * (2 ^ nR x M L - 1)) ^ 32) + 1 else ser0B x M L
noncomputable def mostB (x M L : Int) : Int := 500000 * ((nR x M L : Int) + 5) + leftB x M L
noncomputable def bndB (x M L : Int) : Int := sumTo (termB x M) (nR x M L) + serB x M L + (mostB x M L * mostB x M L).fdiv (2 * M * 10 ^ 6) + 1
theorem left_ge {x M L : Int} {u : Rat} (hM : 0 < M) (hu : (x.natAbs : Rat) = (sS x M L : Rat) * u) : 1000000 * ((sS x M L : Rat) * tm (nN M L + 2) u) ≤ (leftB x M L : Rat) := by
  have hS := ipos (sS_pos (x := x) (L := L) hM)
  have hden : 0 < fct (nN M L + 2) * (sS x M L) ^ (nN M L + 1) := Int.mul_pos (fct_pos _) (Int.pow_pos (sS_pos hM))
  obtain ⟨_, b2⟩ := fdiv_rat (a := 10 ^ 6 * (x.natAbs : Int) ^ (nN M L + 1 + 1)) hden
  have hf := tm_fct (nN M L + 2) u
  have hfp := ipos (fct_pos (nN M L + 2))
  have hSp : (0 : Rat) < (sS x M L : Rat) ^ (nN M L + 1) := Rat.pow_pos hS
  unfold leftB
  show _ ≤ (((10 ^ 6 * (x.natAbs : Int) ^ (nN M L + 1 + 1)).fdiv (fct (nN M L + 2) * (sS x M L) ^ (nN M L + 1)) + 1 : Int) : Rat)
  rw [Rat.intCast_add, show ((1 : Int) : Rat) = 1 from rfl]
  generalize (((10 ^ 6 * (x.natAbs : Int) ^ (nN M L + 1 + 1)).fdiv (fct (nN M L + 2) * (sS x M L) ^ (nN M L + 1)) : Int) : Rat) = q at *
  have e1 : ((10 ^ 6 : Int) : Rat) = 1000000 := rfl
  rw [Rat.intCast_mul, Rat.intCast_mul, e1, Rat.intCast_pow, Rat.intCast_pow, Rat.intCast_natCast, hu] at b2
  have e2 : ((sS x M L : Rat) * u) ^ (nN M L + 1 + 1) = (sS x M L : Rat) ^ (nN M L + 1) * (sS x M L : Rat) * u ^ (nN M L + 2) := by rw [rmul_pow, Rat.pow_succ]
  rw [e2, ← hf] at b2
  refine div_le' (c := (fct (nN M L + 2) : Rat) * (sS x M L : Rat) ^ (nN M L + 1)) (Rat.mul_pos hfp hSp) ?_
  generalize tm (nN M L + 2) u = a at *
  generalize (fct (nN M L + 2) : Rat) = f at *
  generalize (sS x M L : Rat) ^ (nN M L + 1) = s at *
  grind
theorem left_small {x M L : Int} (hM : 1000 ≤ M) (hL : 1 ≤ L) (hL2 : L ≤ 12) (hx : (x.natAbs : Int) ≤ 24 * M) : 1 ≤ leftB x M L ∧ leftB x M L ≤ 4000001 := by
  have hM0 : 0 < M := by omega
  have hS := ipos (sS_pos (x := x) (L := L) hM0)
  have hn := nN_ge2 hM hL hL2
  obtain ⟨u, hu⟩ : ∃ u : Rat, (x.natAbs : Rat) = (sS x M L : Rat) * u := ⟨(x.natAbs : Rat) / (sS x M L : Rat), by grind⟩
  have hx0 : (0 : Rat) ≤ (x.natAbs : Rat) := Rat.natCast_nonneg
  have hu0 : 0 ≤ u := div_le' hS (by rw [← hu]; grind)
  have hl := left_le hM0 hL hn hu0 hu
  have hden : 0 < fct (nN M L + 2) * (sS x M L) ^ (nN M L + 1) := Int.mul_pos (fct_pos _) (Int.pow_pos (sS_pos hM0))
  obtain ⟨b1, _⟩ := fdiv_rat (a := 10 ^ 6 * (x.natAbs : Int) ^ (nN M L + 1 + 1)) hden
  have hf := tm_fct (nN M L + 2) u
  have hfp := ipos (fct_pos (nN M L + 2))
  have hSp : (0 : Rat) < (sS x M L : Rat) ^ (nN M L + 1) := Rat.pow_pos hS
  have hq0 : 0 ≤ (10 ^ 6 * (x.natAbs : Int) ^ (nN M L + 1 + 1)).fdiv (fct (nN M L + 2) * (sS x M L) ^ (nN M L + 1)) := Int.fdiv_nonneg (Int.mul_nonneg (by decide) (Int.pow_nonneg (by first | with_reducible assumption | with_reducible exact Int.le_of_lt (by assumption) | with_reducible exact Nat.le_of_lt (by assumption) | omega))) (by first | with_reducible assumption | with_reducible exact Int.le_of_lt (by assumption) | with_reducible exact Nat.le_of_lt (by assumption) | omega)
  have e1 : ((10 ^ 6 : Int) : Rat) = 1000000 := rfl
  have hxM : (x.natAbs : Rat) ≤ 24 * (M : Rat) := by have := icast_le hx; rwa [Rat.intCast_mul, Rat.intCast_natCast] at this
  have hMr : (1000 : Rat) ≤ (M : Rat) := icast_le hM
  have key : (((10 ^ 6 * (x.natAbs : Int) ^ (nN M L + 1 + 1)).fdiv (fct (nN M L + 2) * (sS x M L) ^ (nN M L + 1)) : Int) : Rat) ≤ ((4000000 : Int) : Rat) := by
    rw [Rat.intCast_mul, Rat.intCast_mul, e1, Rat.intCast_pow, Rat.intCast_pow, Rat.intCast_natCast, hu] at b1
    have e2 : ((sS x M L : Rat) * u) ^ (nN M L + 1 + 1) = (sS x M L : Rat) ^ (nN M L + 1) * (sS x M L : Rat) * u ^ (nN M L + 2) := by rw [rmul_pow, Rat.pow_succ]
    rw [e2, ← hf] at b1
    rw [show ((4000000 : Int) : Rat) = 4000000 from rfl]
    generalize (((10 ^ 6 * (x.natAbs : Int) ^ (nN M L + 1 + 1)).fdiv (fct (nN M L + 2) * (sS x M L) ^ (nN M L + 1)) : Int) : Rat) = q at *
    have hst : (sS x M L : Rat) * tm (nN M L + 2) u ≤ 4 := by
      refine div_le' (show (0 : Rat) < 6 * (M : Rat) by grind) ?_
      grind
    generalize hs : (sS x M L : Rat) * tm (nN M L + 2) u = st at *
    refine div_le' (c := (fct (nN M L + 2) : Rat) * (sS x M L : Rat) ^ (nN M L + 1)) (Rat.mul_pos hfp hSp) ?_
    have h3 := Rat.mul_le_mul_of_nonneg_left hst (Rat.le_of_lt (Rat.mul_pos hfp hSp))
    generalize (fct (nN M L + 2) : Rat) = f at *
    generalize (sS x M L : Rat) ^ (nN M L + 1) = s at *
    generalize tm (nN M L + 2) u = a at *
    subst hs
    grind
  have := Rat.intCast_le_intCast.mp key
  have e : leftB x M L = (10 ^ 6 * (x.natAbs : Int) ^ (nN M L + 1 + 1)).fdiv (fct (nN M L + 2) * (sS x M L) ^ (nN M L + 1)) + 1 := rfl
  omega
/-- the rows of exp up to a small number -/
theorem sm_quad {u : Rat} (hu : 0 ≤ u) (n : Nat) : sm n u ≤ 1 + u + u * u / 2 * sm n u := by
  have key : ∀ n, 2 * tm (n + 2) u ≤ u * u * tm n u := fun n => by
    have h1 := tm_succ (n + 1) u
    have h2 := tm_succ n u
    rw [cast_succ] at h1
    have hn : (0 : Rat) ≤ (n : Rat) := Rat.natCast_nonneg
    have h3 := tm_nonneg hu (n + 1)
    have h4 := tm_nonneg hu (n + 1 + 1)
    have h5 := Rat.mul_nonneg hn h3
    have h6 := Rat.mul_nonneg hn h4
    have h7 := Rat.mul_le_mul_of_nonneg_right (show tm (n + 1) u ≤ tm n u * u by grind) hu
    rw [show n + 2 = n + 1 + 1 from rfl]
    grind
  have hs : ∀ n, sm (n + 2) u ≤ 1 + u + u * u / 2 * sm n u := fun n => by
    induction n with
    | zero =>
      have := key 0
      have e : sm (0 + 2) u = 1 + tm 1 u + tm (0 + 2) u := rfl
      have e0 : sm 0 u = 1 := rfl
      have e1 : tm 0 u = 1 := rfl
      rw [e, tm_one, e0]
      rw [e1] at this
      grind
    | succ n ih =>
      have := key (n + 1)
      rw [show n + 1 + 2 = n + 2 + 1 from rfl] at this ⊢
      rw [sm_succ (n + 2), sm_succ n]
      grind
  have h1 := hs n
  have h2 : sm n u ≤ sm (n + 2) u := by
    have := tm_nonneg hu (n + 1)
    have := tm_nonneg hu (n + 2)
    have e : sm (n + 2) u = sm n u + tm (n + 1) u + tm (n + 2) u := rfl
    grind
  grind

theorem nR_le18 {x M L : Int} (hM : 0 < M) (hx : (x.natAbs : Int) ≤ 24 * M) (hL : L ≤ 12) : nR x M L ≤ 18 := by
  refine Nat.not_lt.mp fun hlt => ?_
  have h := (nR_facts (x := x) (L := L) hM).2 18 hlt
  have h2 : (2 : Int) ^ L.toNat ≤ 2 ^ 12 := ipow_le (by decide) (by first | with_reducible assumption | with_reducible exact Int.le_of_lt (by assumption) | with_reducible exact Nat.le_of_lt (by assumption) | omega)
  have h3 : (x.natAbs : Int) * 2 ^ L.toNat ≤ 24 * M * 2 ^ 12 := Int.mul_le_mul hx h2 (Int.le_of_lt (p2pos _)) (by first | with_reducible assumption | with_reducible exact Int.le_of_lt (by assumption) | with_reducible exact Nat.le_of_lt (by assumption) | omega)
  have h4 : (if x < 0 then M else 1) ≤ M := by split <;> omega
  omega
/-- the common part: what the greatest error on the way is -/
theorem most_facts {x M L : Int} (hM : 1000 ≤ M) (hM' : M ≤ 10 ^ 9) (hL : 2 ≤ L) (hL2 : L ≤ 12) (hx : (x.natAbs : Int) ≤ 24 * M) {B : Rat} (hB : B = (nR x M L : Rat) / 2 + 2 + (leftB x M L : Rat) / 1000000) :
    0 ≤ B ∧ B * B / (2 * (M : Rat)) ≤ 3 / 20 ∧ 1000000 * (B * B / (2 * (M : Rat))) + 1 / 1000 ≤ ((mostB x M L * mostB x M L).fdiv (2 * M * 10 ^ 6) : Int) + 1 := by
  have hM0 : 0 < M := by omega
  obtain ⟨l1, l2⟩ := left_small (x := x) (L := L) hM (by first | with_reducible assumption | with_reducible exact Int.le_of_lt (by assumption) | with_reducible exact Nat.le_of_lt (by assumption) | omega) hL2 hx
  have hR := nR_le18 (x := x) hM0 hx hL2
  have hRr : (nR x M L : Rat) ≤ 18 := ncast_le hR
  have hR0 : (0 : Rat) ≤ (nR x M L : Rat) := Rat.natCast_nonneg
  have l1r : (1 : Rat) ≤ (leftB x M L : Rat) := icast_le l1
  have l2r : (leftB x M L : Rat) ≤ 4000001 := icast_le l2
  have hMr : (1000 : Rat) ≤ (M : Rat) := icast_le hM
  have hMr' : (M : Rat) ≤ 1000000000 := icast_le hM'
  have hB0 : 0 ≤ B := by rw [hB]; grind
  have hB2 : 2 ≤ B := by rw [hB]; grind
  have hB17 : B ≤ 17 := by rw [hB]; grind
  have hBB := rmul hB0 (show (0 : Rat) ≤ 17 by decide) hB17 hB17
  refine ⟨hB0, rdiv_le (by first | with_reducible assumption | with_reducible exact Rat.le_of_lt (by assumption) | grind) (by first | with_reducible assumption | with_reducible exact Rat.le_of_lt (by assumption) | grind), ?_⟩
  have hm : (mostB x M L : Rat) = 1000000 * (B + 1 / 2) := by
    unfold mostB
    rw [hB, Rat.intCast_add, Rat.intCast_mul, Rat.intCast_add, Rat.intCast_natCast, show ((500000 : Int) : Rat) = 500000 from rfl, show ((5 : Int) : Rat) = 5 from rfl]
    grind
  have hden : 0 < 2 * M * 10 ^ 6 := by omega
  have h2 := (fdiv_rat (a := mostB x M L * mostB x M L) hden).2
  rw [Rat.intCast_mul, hm, Rat.intCast_mul, Rat.intCast_mul, show ((10 ^ 6 : Int) : Rat) = 1000000 from rfl, show ((2 : Int) : Rat) = 2 from rfl] at h2
  generalize (((mostB x M L * mostB x M L).fdiv (2 * M * 10 ^ 6) : Int) : Rat) = q at *
  refine div_le' (show (0 : Rat) < 2 * (M : Rat) * 1000000 by grind) ?_
  have e : 2 * (M : Rat) * 1000000 * (1000000 * (B * B / (2 * (M : Rat))) + 1 / 1000) = 1000000 * 1000000 * (B * B) + 2000 * (M : Rat) := by grind
  rw [e]
  grind
/-- the step for law 07 -/
structure Stp (x M L : Int) (d : Rat) (W : Int) : Prop where
  hd : 0 < d
  hW : 1000000000000 ≤ W
  h1 : (sS x M L : Rat) * (32 * (W : Rat)) * d = 1
theorem Stp.facts {x M L W : Int} {d : Rat} (h : Stp x M L d W) (hM : 1000 ≤ M) : (x : Rat) = (sS x M L : Rat) * (((32 * W * x : Int) : Rat) * d) ∧ d ≤ 1 / 1000000 ∧ (sS x M L : Rat) * d * 32000000000000 ≤ 1 ∧ (1000 : Rat) ≤ (sS x M L : Rat) := by
  have hM0 : 0 < M := by omega
  have hS := ipos (sS_pos (x := x) (L := L) hM0)
  have hSM : (M : Rat) ≤ (sS x M L : Rat) := by
    unfold sS
    rw [icast_p2]
    have := Rat.mul_le_mul_of_nonneg_left (pow2ge (nR x M L)) (Rat.le_of_lt (ipos hM0))
    grind
  have hMr : (1000 : Rat) ≤ (M : Rat) := icast_le hM
  have hWr : (1000000000000 : Rat) ≤ (W : Rat) := icast_le h.hW
  have hd := h.hd
  have h1 := h.h1
  have hSd : 0 < (sS x M L : Rat) * d := Rat.mul_pos hS hd
  have hSd2 : (sS x M L : Rat) * d * 32000000000000 ≤ 1 := by
    have := Rat.mul_le_mul_of_nonneg_left hWr (Rat.le_of_lt hSd)
    grind
  refine ⟨?_, ?_, hSd2, by grind⟩
  · rw [Rat.intCast_mul, Rat.intCast_mul, show ((32 : Int) : Rat) = 32 from rfl]
    have : (sS x M L : Rat) * (32 * (W : Rat) * (x : Rat) * d) = (x : Rat) * ((sS x M L : Rat) * (32 * (W : Rat)) * d) := by grind
    rw [this, h1]; grind
  · have := Rat.mul_le_mul_of_nonneg_right (show 1 ≤ (sS x M L : Rat) by grind) (Rat.le_of_lt hd)
    grind
theorem u_quarter {x M L : Int} {u : Rat} (hM : 0 < M) (hL : 2 ≤ L) (hu0 : 0 ≤ u) (hxu : (x.natAbs : Rat) = (sS x M L : Rat) * u) : u ≤ 1 / 4 ∧ u * 2 ^ L.toNat ≤ 1 := by
  have h1 := u_le hM hxu
  have h2 : (4 : Rat) ≤ 2 ^ L.toNat := by
    obtain ⟨l, hl⟩ : ∃ l, L.toNat = 2 + l := ⟨L.toNat - 2, by omega⟩
    rw [hl, rpow_add, show (2 : Rat) ^ 2 = 4 by rw [Rat.pow_succ, Rat.pow_succ, Rat.pow_zero]; grind]
    have := Rat.mul_le_mul_of_nonneg_left (pow2ge l) (show (0 : Rat) ≤ 4 by decide)
    grind
  have := Rat.mul_le_mul_of_nonneg_left h2 hu0
  exact ⟨by grind, h1⟩
theorem nN_le40 {M L : Int} (hM : 1000 ≤ M) (hM' : M ≤ 10 ^ 9) (hL : 1 ≤ L) : nN M L ≤ 40 := by
  have := nT_le (M := M) (L := L) (k := 10) (by first | with_reducible assumption | with_reducible exact Int.le_of_lt (by assumption) | with_reducible exact Nat.le_of_lt (by assumption) | omega) hL (by first | with_reducible assumption | with_reducible exact Int.le_of_lt (by assumption) | with_reducible exact Nat.le_of_lt (by assumption) | omega)
  unfold nN
  omega
theorem pos07 {x M L W : Int} {d : Rat} (h : Stp x M L d W) (hM : 1000 ≤ M) (hM' : M ≤ 10 ^ 9) (hL : 2 ≤ L) (hL2 : L ≤ 12) (hx : 0 ≤ x) (hx8 : x ≤ 8 * M) :
    Wi (1000000 * ((iexp x M L : Rat) - (M : Rat) * ex d (2 ^ nR x M L * (32 * W * x)))) (((bndB x M L : Rat) - 1 / 2) * ex d (2 ^ nR x M L * (32 * W * x))) := by
  have hM0 : 0 < M := by omega
  obtain ⟨hP, hd1, hSd, hS1000⟩ := h.facts hM
  have hd := h.hd
  have hW := h.hW
  have hS := ipos (sS_pos (x := x) (L := L) hM0)
  have hP0 : 0 ≤ 32 * W * x := Int.mul_nonneg (by first | with_reducible assumption | with_reducible exact Int.le_of_lt (by assumption) | with_reducible exact Nat.le_of_lt (by assumption) | omega) hx
  have hxu := abs_u hd (sS_pos (x := x) (L := L) hM0) hP
  obtain ⟨u, hu⟩ : ∃ u, u = ((32 * W * x : Int).natAbs : Rat) * d := ⟨_, rfl⟩
  rw [← hu] at hxu
  have hu0 : 0 ≤ u := by rw [hu]; exact Rat.mul_nonneg Rat.natCast_nonneg (Rat.le_of_lt hd)
  obtain ⟨hu4, _⟩ := u_quarter hM0 hL hu0 hxu
  have hlg := left_ge hM0 hxu
  obtain ⟨B, hB⟩ : ∃ B : Rat, B = (nR x M L : Rat) / 2 + 2 + (leftB x M L : Rat) / 1000000 := ⟨_, rfl⟩
  obtain ⟨m0, m1, m2⟩ := most_facts hM hM' hL hL2 (show (x.natAbs : Int) ≤ 24 * M by omega) hB
  have hE1 := ex_one_le hd hP0
  have hnr : (nN M L : Rat) ≤ 40 := ncast_le (nN_le40 hM hM' (by first | with_reducible assumption | with_reducible exact Int.le_of_lt (by assumption) | with_reducible exact Nat.le_of_lt (by assumption) | omega))
  have top := iexp_top hd hM0 hP hu (by first | with_reducible assumption | with_reducible exact Rat.le_of_lt (by assumption) | grind) (by first | with_reducible assumption | with_reducible exact Rat.le_of_lt (by assumption) | grind) hE1 Rat.le_refl
  have htm0 := Rat.mul_nonneg (Rat.le_of_lt hS) (tm_nonneg hu0 (nN M L + 2))
  obtain ⟨Pn, hPn⟩ := Int.eq_ofNat_of_zero_le hP0
  have huP : u = (Pn : Rat) * d := by rw [hu, hPn]; simp
  have hsmE : sm (nN M L) u ≤ ex d (32 * W * x) * (1 + d) := by
    have hdn := ex_dn hd (nN M L) Pn (by rw [← huP]; have := rmul hu0 (show (0 : Rat) ≤ 1 by decide) (show u ≤ 1 by grind) (show d ≤ 1 by grind); grind)
    rw [← huP, ← hPn] at hdn
    have hud : 0 ≤ u * d := Rat.mul_nonneg hu0 (Rat.le_of_lt hd)
    have hud2 : u * d ≤ d / 4 := by have := Rat.mul_le_mul_of_nonneg_right hu4 (Rat.le_of_lt hd); grind
    have hsm1 := sm_ge_one hu0 (nN M L)
    have h1 := Rat.mul_le_mul_of_nonneg_right hdn (show 0 ≤ 1 + d by grind)
    have h2 : sm (nN M L) u * 1 ≤ sm (nN M L) u * ((1 - u * d) * (1 + d)) := by
      refine Rat.mul_le_mul_of_nonneg_left ?_ (by first | with_reducible assumption | with_reducible exact Rat.le_of_lt (by assumption) | grind)
      have : u * d * d ≤ d * d := by have := Rat.mul_le_mul_of_nonneg_right (show u ≤ 1 by grind) (Rat.mul_nonneg (Rat.le_of_lt hd) (Rat.le_of_lt hd)); grind
      have : d * d ≤ d / 4 := by have := Rat.mul_le_mul_of_nonneg_left (show d ≤ 1 / 4 by grind) (Rat.le_of_lt hd); grind
      grind
    grind
  have top2 : Wi ((sS x M L : Rat) + (iy x M L : Int) - (sS x M L : Rat) * ex d (32 * W * x)) ((1 / 2 + (sS x M L : Rat) * tm (nN M L + 2) u + 1 / 1000000000) * ex d (32 * W * x)) := by
    refine top.le ?_
    have h1 : (4 * (nN M L : Rat) + 7) * ((sS x M L : Rat) * d) ≤ 167 * ((sS x M L : Rat) * d) := Rat.mul_le_mul_of_nonneg_right (by first | with_reducible assumption | with_reducible exact Rat.le_of_lt (by assumption) | grind) (Rat.le_of_lt (Rat.mul_pos hS hd))
    have hdd : d * 32000000000000 ≤ 1 := by
      have := Rat.mul_le_mul_of_nonneg_right (show 1 ≤ (sS x M L : Rat) by grind) (Rat.le_of_lt hd)
      grind
    have h2 := Rat.mul_le_mul_of_nonneg_left hdd (show 0 ≤ ex d (32 * W * x) by grind)
    generalize (sS x M L : Rat) * tm (nN M L + 2) u = st at *
    generalize (sS x M L : Rat) * d = sd at *
    generalize ex d (32 * W * x) = E at *
    grind
  have hs := sE_pos hd (nR x M L) (32 * W * x) hP0
  have hterm : 1000000 * sE d (nR x M L) (32 * W * x) ≤ (sumTo (termB x M) (nR x M L) : Rat) := by
    refine sE_sum _ _ fun j hj => ?_
    have hp := p2pos j
    have hm : 0 < 32 * (M * 2 ^ j) := by have := Int.mul_pos hM0 hp; omega
    have hb : bB x j = x := by unfold bB; rw [if_pos hx]; omega
    have e1 : -(2 ^ (nR x M L - j) * (32 * W * x)) = -(((32 : Nat) : Int) * (2 ^ (nR x M L - j) * W * x)) := by
      show -(2 ^ (nR x M L - j) * (32 * W * x)) = -((32 : Int) * (2 ^ (nR x M L - j) * W * x)); grind
    have hc : ((32 * (M * 2 ^ j) : Int) : Rat) * (((2 ^ (nR x M L - j) * W * x : Int) : Rat) * d) = (x : Rat) := by
      have hpow : (2 : Rat) ^ nR x M L = 2 ^ (nR x M L - j) * 2 ^ j := by rw [← rpow_add]; congr 1; omega
      have hSe : (sS x M L : Rat) = (M : Rat) * 2 ^ nR x M L := by unfold sS; rw [icast_p2]
      rw [Rat.intCast_mul, icast_p2, Rat.intCast_mul, Rat.intCast_mul, Rat.intCast_pow, show ((32 : Int) : Rat) = 32 from rfl, show ((2 : Int) : Rat) = 2 from rfl]
      have h9 := h.h1
      rw [hSe, hpow] at h9
      have : 32 * ((M : Rat) * 2 ^ j) * (2 ^ (nR x M L - j) * (W : Rat) * (x : Rat) * d) = (x : Rat) * ((M : Rat) * (2 ^ (nR x M L - j) * 2 ^ j) * (32 * (W : Rat)) * d) := by grind
      rw [this, h9]; grind
    have hf := (floor_pow hd 32 (s := 10 ^ 6) (c := 2 ^ (nR x M L - j) * W * x) (m := 32 * (M * 2 ^ j)) (b := x) (by decide) hm (by first | with_reducible assumption | with_reducible exact Int.le_of_lt (by assumption) | with_reducible exact Nat.le_of_lt (by assumption) | omega) hc).2
    rw [e1]
    unfold termB
    rw [hb, Rat.intCast_add, show ((1 : Int) : Rat) = 1 from rfl]
    rw [show ((10 ^ 6 : Int) : Rat) = 1000000 from rfl] at hf
    exact hf
  have hser : (serB x M L : Rat) = (ser0B x M L : Rat) := by unfold serB; rw [if_neg (by first | with_reducible assumption | with_reducible exact Int.le_of_lt (by assumption) | with_reducible exact Nat.le_of_lt (by assumption) | omega)]
  have hser0 : 500000 + (leftB x M L : Rat) + 1 ≤ (ser0B x M L : Rat) := by
    have h1 : 500000 + leftB x M L + 1 ≤ ser0B x M L := by
      unfold ser0B
      have : 0 ≤ (650000 : Int).fdiv (2 ^ L.toNat) := Int.fdiv_nonneg (by decide) (Int.le_of_lt (p2pos _))
      omega
    have := icast_le h1
    rw [Rat.intCast_add, Rat.intCast_add] at this
    exact this
  have hRr : (0 : Rat) ≤ (nR x M L : Rat) := Rat.natCast_nonneg
  have w := iexp_rel hd hM0 (show 1 ≤ L by omega) (show (0 : Rat) ≤ 1 / 2 + (sS x M L : Rat) * tm (nN M L + 2) u + 1 / 1000000000 by grind) top2 (B := B) (tot := 1 / 2 + (sS x M L : Rat) * tm (nN M L + 2) u + 1 / 1000000000 + sE d (nR x M L) (32 * W * x) + B * B / (2 * (M : Rat))) (by rw [hB] at *; grind) Rat.le_refl
  have hbnd : (bndB x M L : Rat) = (sumTo (termB x M) (nR x M L) : Rat) + (serB x M L : Rat) + ((mostB x M L * mostB x M L).fdiv (2 * M * 10 ^ 6) : Int) + 1 := by
    unfold bndB
    rw [Rat.intCast_add, Rat.intCast_add, Rat.intCast_add]; rfl
  have hEp := ex_pos hd (2 ^ nR x M L * (32 * W * x))
  have hle : 1000000 * (1 / 2 + (sS x M L : Rat) * tm (nN M L + 2) u + 1 / 1000000000 + sE d (nR x M L) (32 * W * x) + B * B / (2 * (M : Rat))) ≤ (bndB x M L : Rat) - 1 / 2 := by
    rw [hbnd, hser]
    generalize (sS x M L : Rat) * tm (nN M L + 2) u = st at *
    generalize B * B / (2 * (M : Rat)) = bb at *
    grind
  have hle2 := Rat.mul_le_mul_of_nonneg_right hle (Rat.le_of_lt hEp)
  obtain ⟨w1, w2⟩ := w
  constructor <;> grind

theorem neg07 {x M L W : Int} {d : Rat} (h : Stp x M L d W) (hM : 1000 ≤ M) (hM' : M ≤ 10 ^ 9) (hL : 2 ≤ L) (hL2 : L ≤ 12) (hx : x < 0) (hx24 : -(24 * M) ≤ x) :
    Wi (1000000 * ((iexp x M L : Rat) - (M : Rat) * ex d (2 ^ nR x M L * (32 * W * x)))) ((bndB x M L : Rat) - 1 / 1000) := by
  have hM0 : 0 < M := by omega
  obtain ⟨hP, hd1, hSd, hS1000⟩ := h.facts hM
  have hd := h.hd
  have hW := h.hW
  have hS := ipos (sS_pos (x := x) (L := L) hM0)
  have hP0 : 32 * W * x ≤ 0 := Int.mul_nonpos_of_nonneg_of_nonpos (by first | with_reducible assumption | with_reducible exact Int.le_of_lt (by assumption) | with_reducible exact Nat.le_of_lt (by assumption) | omega) (by first | with_reducible assumption | with_reducible exact Int.le_of_lt (by assumption) | with_reducible exact Nat.le_of_lt (by assumption) | omega)
  have hxu := abs_u hd (sS_pos (x := x) (L := L) hM0) hP
  obtain ⟨u, hu⟩ : ∃ u, u = ((32 * W * x : Int).natAbs : Rat) * d := ⟨_, rfl⟩
  rw [← hu] at hxu
  have hu0 : 0 ≤ u := by rw [hu]; exact Rat.mul_nonneg Rat.natCast_nonneg (Rat.le_of_lt hd)
  obtain ⟨hu4, huL⟩ := u_quarter hM0 hL hu0 hxu
  have hlg := left_ge hM0 hxu
  obtain ⟨B, hB⟩ : ∃ B : Rat, B = (nR x M L : Rat) / 2 + 2 + (leftB x M L : Rat) / 1000000 := ⟨_, rfl⟩
  obtain ⟨m0, m1, m2⟩ := most_facts hM hM' hL hL2 (show (x.natAbs : Int) ≤ 24 * M by omega) hB
  have hE1 := ex_le_one hd hP0
  have hnr : (nN M L : Rat) ≤ 40 := ncast_le (nN_le40 hM hM' (by first | with_reducible assumption | with_reducible exact Int.le_of_lt (by assumption) | with_reducible exact Nat.le_of_lt (by assumption) | omega))
  have top := iexp_top hd hM0 hP hu (by first | with_reducible assumption | with_reducible exact Rat.le_of_lt (by assumption) | grind) (by first | with_reducible assumption | with_reducible exact Rat.le_of_lt (by assumption) | grind) Rat.le_refl hE1
  have htm0 := Rat.mul_nonneg (Rat.le_of_lt hS) (tm_nonneg hu0 (nN M L + 2))
  have hsmq := sm_quad hu0 (nN M L)
  have hsm1 := sm_ge_one hu0 (nN M L)
  have hsm : sm (nN M L) u ≤ 4 / 3 := by
    have h1 := sm_le_inv hu0 (nN M L)
    have h2 := Rat.mul_le_mul_of_nonneg_left (show 3 / 4 ≤ 1 - u by grind) (show 0 ≤ sm (nN M L) u by grind)
    grind
  have hsm2 : sm (nN M L) u ≤ 1 + 118 / 100 * u := by
    have h1 := rmul (Rat.mul_nonneg hu0 hu0) (show (0 : Rat) ≤ 4 / 3 by grind) Rat.le_refl hsm
    have h2 := Rat.mul_le_mul_of_nonneg_left hu4 hu0
    grind
  have hsd : (4 * (nN M L : Rat) + 7) * ((sS x M L : Rat) * d) ≤ 1 / 1000000000 := by
    have h1 : (4 * (nN M L : Rat) + 7) * ((sS x M L : Rat) * d) ≤ 167 * ((sS x M L : Rat) * d) := Rat.mul_le_mul_of_nonneg_right (by first | with_reducible assumption | with_reducible exact Rat.le_of_lt (by assumption) | grind) (Rat.le_of_lt (Rat.mul_pos hS hd))
    grind
  -- the top, and what the law says of it
  obtain ⟨a, ha⟩ : ∃ a : Rat, a = 1 / 2 + 59 / 100 * u + (sS x M L : Rat) * tm (nN M L + 2) u + 1 / 1000000000 := ⟨_, rfl⟩
  have top2 : Wi ((M : Rat) * 2 ^ nR x M L + (iy x M L : Int) - (M : Rat) * 2 ^ nR x M L * ex d (32 * W * x)) a := by
    have : (sS x M L : Rat) = (M : Rat) * 2 ^ nR x M L := by unfold sS; rw [icast_p2]
    rw [← this]
    refine top.le ?_
    rw [ha]
    generalize (sS x M L : Rat) * tm (nN M L + 2) u = st at *
    grind
  have ha0 : 0 ≤ a := by rw [ha]; grind
  have hpL : (0 : Rat) < 2 ^ L.toNat := pow2pos _
  have haS : 1000000 * a ≤ (ser0B x M L : Rat) := by
    have hq := (fdiv_rat (a := 650000) (b := 2 ^ L.toNat) (p2pos _)).2
    have e1 : (((2 : Int) ^ L.toNat : Int) : Rat) = 2 ^ L.toNat := by rw [Rat.intCast_pow]; rfl
    rw [e1, show ((650000 : Int) : Rat) = 650000 from rfl] at hq
    unfold ser0B
    rw [Rat.intCast_add, Rat.intCast_add, Rat.intCast_add, show ((500000 : Int) : Rat) = 500000 from rfl, show ((1 : Int) : Rat) = 1 from rfl]
    generalize (((650000 : Int).fdiv (2 ^ L.toNat) : Int) : Rat) = q at *
    have h5 : (2 : Rat) ^ L.toNat ≤ 4096 := by
      have : (2 : Int) ^ L.toNat ≤ 2 ^ 12 := ipow_le (by decide) (by first | with_reducible assumption | with_reducible exact Int.le_of_lt (by assumption) | with_reducible exact Nat.le_of_lt (by assumption) | omega)
      have := icast_le this
      rw [e1] at this
      exact this
    have h6 : 590000 * u + 1 / 1000 ≤ q + 1 := by
      refine div_le' hpL ?_
      generalize (2 : Rat) ^ L.toNat = p at *
      grind
    rw [ha]
    generalize (sS x M L : Rat) * tm (nN M L + 2) u = st at *
    grind
  have hser : 1000000 * (a * ex d ((2 ^ nR x M L - 1) * (32 * W * x))) ≤ (serB x M L : Rat) := by
    have hR1 : (1 : Int) ≤ 2 ^ nR x M L := Int.pow_pos (by decide)
    have hm : 0 < 32 * (M * 2 ^ nR x M L) := by have := Int.mul_pos hM0 (p2pos (nR x M L)); omega
    have hb0 : 0 ≤ (x.natAbs : Int) * (2 ^ nR x M L - 1) := Int.mul_nonneg (by first | with_reducible assumption | with_reducible exact Int.le_of_lt (by assumption) | with_reducible exact Nat.le_of_lt (by assumption) | omega) (by first | with_reducible assumption | with_reducible exact Int.le_of_lt (by assumption) | with_reducible exact Nat.le_of_lt (by assumption) | omega)
    have hs0 : 0 ≤ ser0B x M L := by
      have := Rat.intCast_nonneg.mp (Rat.le_trans (Rat.mul_nonneg (by decide) ha0) haS)
      exact this
    have hc : ((32 * (M * 2 ^ nR x M L) : Int) : Rat) * ((((2 ^ nR x M L - 1) * W * (x.natAbs : Int) : Int) : Rat) * d) = (((x.natAbs : Int) * (2 ^ nR x M L - 1) : Int) : Rat) := by
      have hSe : (sS x M L : Rat) = (M : Rat) * 2 ^ nR x M L := by unfold sS; rw [icast_p2]
      have h9 := h.h1
      rw [hSe] at h9
      rw [Rat.intCast_mul, icast_p2, Rat.intCast_mul, Rat.intCast_mul, Rat.intCast_mul, show ((32 : Int) : Rat) = 32 from rfl]
      generalize ((2 ^ nR x M L - 1 : Int) : Rat) = r at *
      have : 32 * ((M : Rat) * 2 ^ nR x M L) * (r * (W : Rat) * ((x.natAbs : Int) : Rat) * d) = ((x.natAbs : Int) : Rat) * r * ((M : Rat) * 2 ^ nR x M L * (32 * (W : Rat)) * d) := by grind
      rw [this, h9]; grind
    have hf := (floor_pow hd 32 (s := ser0B x M L) (c := (2 ^ nR x M L - 1) * W * (x.natAbs : Int)) (m := 32 * (M * 2 ^ nR x M L)) (b := (x.natAbs : Int) * (2 ^ nR x M L - 1)) hs0 hm (by first | with_reducible assumption | with_reducible exact Int.le_of_lt (by assumption) | with_reducible exact Nat.le_of_lt (by assumption) | omega) hc).1
    have e1 : -(((32 : Nat) : Int) * ((2 ^ nR x M L - 1) * W * (x.natAbs : Int))) = (2 ^ nR x M L - 1) * (32 * W * x) := by
      have : (x.natAbs : Int) = -x := by omega
      rw [this]
      show -((32 : Int) * ((2 ^ nR x M L - 1) * W * -x)) = _
      grind
    rw [e1] at hf
    have hg := ex_pos hd ((2 ^ nR x M L - 1) * (32 * W * x))
    have h7 := Rat.mul_le_mul_of_nonneg_right haS (Rat.le_of_lt hg)
    unfold serB
    rw [if_pos hx, Rat.intCast_add, show ((1 : Int) : Rat) = 1 from rfl]
    grind
  have hterm : 1000000 * sG d (nR x M L) (32 * W * x) ≤ (sumTo (termB x M) (nR x M L) : Rat) := by
    refine sG_sum _ _ fun j hj => ?_
    have hp := p2pos j
    have hm : 0 < 32 * (M * 2 ^ j) := by have := Int.mul_pos hM0 hp; omega
    have hb : bB x j = (x.natAbs : Int) * (2 ^ j - 1) := by unfold bB; rw [if_neg (by first | with_reducible assumption | with_reducible exact Int.le_of_lt (by assumption) | with_reducible exact Nat.le_of_lt (by assumption) | omega)]
    have hb0 : 0 ≤ (x.natAbs : Int) * (2 ^ j - 1) := Int.mul_nonneg (by first | with_reducible assumption | with_reducible exact Int.le_of_lt (by assumption) | with_reducible exact Nat.le_of_lt (by assumption) | omega) (by first | with_reducible assumption | with_reducible exact Int.le_of_lt (by assumption) | with_reducible exact Nat.le_of_lt (by assumption) | omega)
    have e1 : (2 ^ j - 1) * (2 ^ (nR x M L - j) * (32 * W * x)) = -(((32 : Nat) : Int) * ((2 ^ j - 1) * 2 ^ (nR x M L - j) * W * (x.natAbs : Int))) := by
      have : (x.natAbs : Int) = -x := by omega
      rw [this]
      show _ = -((32 : Int) * ((2 ^ j - 1) * 2 ^ (nR x M L - j) * W * -x)); grind
    have hc : ((32 * (M * 2 ^ j) : Int) : Rat) * ((((2 ^ j - 1) * 2 ^ (nR x M L - j) * W * (x.natAbs : Int) : Int) : Rat) * d) = (((x.natAbs : Int) * (2 ^ j - 1) : Int) : Rat) := by
      have hpow : (2 : Rat) ^ nR x M L = 2 ^ (nR x M L - j) * 2 ^ j := by rw [← rpow_add]; congr 1; omega
      have hSe : (sS x M L : Rat) = (M : Rat) * 2 ^ nR x M L := by unfold sS; rw [icast_p2]
      have e2 : (((2 : Int) ^ (nR x M L - j) : Int) : Rat) = 2 ^ (nR x M L - j) := by rw [Rat.intCast_pow]; rfl
      rw [Rat.intCast_mul, icast_p2, Rat.intCast_mul, Rat.intCast_mul, Rat.intCast_mul, Rat.intCast_mul, e2, show ((32 : Int) : Rat) = 32 from rfl]
      have h9 := h.h1
      rw [hSe, hpow] at h9
      generalize ((2 ^ j - 1 : Int) : Rat) = r at *
      have : 32 * ((M : Rat) * 2 ^ j) * (r * 2 ^ (nR x M L - j) * (W : Rat) * ((x.natAbs : Int) : Rat) * d) = ((x.natAbs : Int) : Rat) * r * ((M : Rat) * (2 ^ (nR x M L - j) * 2 ^ j) * (32 * (W : Rat)) * d) := by grind
      rw [this, h9]; grind
    have hf := (floor_pow hd 32 (s := 10 ^ 6) (c := (2 ^ j - 1) * 2 ^ (nR x M L - j) * W * (x.natAbs : Int)) (m := 32 * (M * 2 ^ j)) (b := (x.natAbs : Int) * (2 ^ j - 1)) (by decide) hm (by first | with_reducible assumption | with_reducible exact Int.le_of_lt (by assumption) | with_reducible exact Nat.le_of_lt (by assumption) | omega) hc).2
    rw [e1]
    unfold termB
    rw [hb, Rat.intCast_add, show ((1 : Int) : Rat) = 1 from rfl]
    rw [show ((10 ^ 6 : Int) : Rat) = 1000000 from rfl] at hf
    exact hf
  have hBB := sq_nonneg B
  have hinv : 0 ≤ B * B / (2 * ((M : Rat) * 2 ^ nR x M L)) := rdiv_nonneg hBB (Rat.mul_pos (by decide) (Rat.mul_pos (ipos hM0) (pow2pos _)))
  have w := dbl_abs hd hM0 (B := B) (nR x M L) (iy x M L) (32 * W * x) a hP0 ha0 top2 (by rw [hB] at *; rw [ha]; grind)
  have hie : ((iexp x M L : Int) : Rat) = (M : Rat) + (dbl M (nR x M L) (iy x M L) : Int) := by rw [iexp_iy hM0 (show 1 ≤ L by omega), Rat.intCast_add]
  rw [hie]
  have hbnd : (bndB x M L : Rat) = (sumTo (termB x M) (nR x M L) : Rat) + (serB x M L : Rat) + ((mostB x M L * mostB x M L).fdiv (2 * M * 10 ^ 6) : Int) + 1 := by
    unfold bndB
    rw [Rat.intCast_add, Rat.intCast_add, Rat.intCast_add]; rfl
  rw [hbnd]
  obtain ⟨w1, w2⟩ := w
  generalize B * B / (2 * ((M : Rat) * 2 ^ nR x M L)) = b2 at *
  generalize B * B / (2 * (M : Rat)) = bb at *
  generalize a * ex d ((2 ^ nR x M L - 1) * (32 * W * x)) = ag at *
  constructor <;> grind

/-- the rows of _law_exp: low and high -/
noncomputable def brk (sq M u : Int) : Nat → Int × Int
  | 0 => (0, sq.fdiv (130 * M * u) + 1)
  | i + 1 => (sq.fdiv ((4 * (31 + (i : Int) * -1) + 2) * M * u + (brk sq M u i).2), sq.fdiv ((4 * (31 + (i : Int) * -1) + 2) * M * u + (brk sq M u i).1) + 1)
theorem brk_in {sq M u : Int} {X : Rat} {f : Nat → Rat} (hM : 0 < M) (hu : 0 < u) (hsq : (sq : Rat) = X * X * ((M * u : Int) : Rat) * ((M * u : Int) : Rat)) (hsq0 : 0 ≤ sq)
    (hf : ∀ k, k ≤ 31 → f k * ((4 * (k : Rat) + 2) + f (k + 1)) = X * X) (hf0 : ∀ k, 0 ≤ f k) (hf32 : f 32 * 130 ≤ X * X) :
    ∀ i, i ≤ 31 → 0 ≤ (brk sq M u i).1 ∧ (((brk sq M u i).1 : Int) : Rat) ≤ ((M * u : Int) : Rat) * f (32 - i) ∧ ((M * u : Int) : Rat) * f (32 - i) ≤ (((brk sq M u i).2 : Int) : Rat) := by
  have hMu : 0 < M * u := Int.mul_pos hM hu
  have hU := ipos hMu
  intro i
  induction i with
  | zero =>
    intro _
    have e0 : (brk sq M u 0).1 = 0 := rfl
    have e1 : (brk sq M u 0).2 = sq.fdiv (130 * M * u) + 1 := rfl
    rw [e0, e1]
    refine ⟨by decide, ?_, ?_⟩
    · rw [show ((0 : Int) : Rat) = 0 from rfl]; exact Rat.mul_nonneg (Rat.le_of_lt hU) (hf0 _)
    · have e : 130 * M * u = 130 * (M * u) := by grind
      rw [e, Rat.intCast_add, show ((1 : Int) : Rat) = 1 from rfl, show 32 - 0 = 32 from rfl]
      have h2 := (fdiv_rat (a := sq) (b := 130 * (M * u)) (by first | with_reducible assumption | with_reducible exact Int.le_of_lt (by assumption) | with_reducible exact Nat.le_of_lt (by assumption) | omega)).2
      rw [hsq, Rat.intCast_mul 130 (M * u), show ((130 : Int) : Rat) = 130 from rfl] at h2
      generalize ((sq.fdiv (130 * (M * u)) : Int) : Rat) = q at *
      generalize ((M * u : Int) : Rat) = U at *
      refine div_le' (show 0 < 130 * U by grind) ?_
      have := Rat.mul_le_mul_of_nonneg_left hf32 (Rat.le_of_lt (Rat.mul_pos hU hU))
      grind
  | succ i ih =>
    intro hi
    obtain ⟨l0, l1, l2⟩ := ih (by first | with_reducible assumption | with_reducible exact Int.le_of_lt (by assumption) | with_reducible exact Nat.le_of_lt (by assumption) | omega)
    obtain ⟨k, hk⟩ : ∃ k, k = 31 - i := ⟨_, rfl⟩
    have hk31 : k ≤ 31 := by omega
    have e1 : 32 - (i + 1) = k := by omega
    have e2 : 32 - i = k + 1 := by omega
    rw [e2] at l1 l2
    rw [e1]
    have hfk := hf k hk31
    have hs : (4 * (31 + (i : Int) * -1) + 2) * M * u = (4 * (k : Int) + 2) * (M * u) := by
      have : (31 + (i : Int) * -1) = (k : Int) := by omega
      rw [this]; grind
    have b1 : (brk sq M u (i + 1)).1 = sq.fdiv ((4 * (k : Int) + 2) * (M * u) + (brk sq M u i).2) := by rw [← hs]; rfl
    have b2 : (brk sq M u (i + 1)).2 = sq.fdiv ((4 * (k : Int) + 2) * (M * u) + (brk sq M u i).1) + 1 := by rw [← hs]; rfl
    rw [b1, b2]
    have hst : 0 < (4 * (k : Int) + 2) * (M * u) := Int.mul_pos (by first | with_reducible assumption | with_reducible exact Int.le_of_lt (by assumption) | with_reducible exact Nat.le_of_lt (by assumption) | omega) hMu
    have hh0 : 0 ≤ (brk sq M u i).2 := by
      have : (0 : Rat) ≤ (((brk sq M u i).2 : Int) : Rat) := Rat.le_trans (Rat.mul_nonneg (Rat.le_of_lt hU) (hf0 _)) l2
      exact Rat.intCast_nonneg.mp this
    have cst : (((4 * (k : Int) + 2) * (M * u) : Int) : Rat) = (4 * (k : Rat) + 2) * ((M * u : Int) : Rat) := by rw [Rat.intCast_mul, Rat.intCast_add, Rat.intCast_mul, Rat.intCast_natCast]; rfl
    refine ⟨Int.fdiv_nonneg hsq0 (by first | with_reducible assumption | with_reducible exact Int.le_of_lt (by assumption) | with_reducible exact Nat.le_of_lt (by assumption) | omega), ?_, ?_⟩
    · have h1 := (fdiv_rat (a := sq) (b := (4 * (k : Int) + 2) * (M * u) + (brk sq M u i).2) (by first | with_reducible assumption | with_reducible exact Int.le_of_lt (by assumption) | with_reducible exact Nat.le_of_lt (by assumption) | omega)).1
      rw [Rat.intCast_add, cst, hsq] at h1
      have hp : (0 : Rat) < (4 * (k : Rat) + 2) * ((M * u : Int) : Rat) + (((brk sq M u i).2 : Int) : Rat) := by
        have := ipos hst
        rw [cst] at this
        have h9 : (0 : Rat) ≤ (((brk sq M u i).2 : Int) : Rat) := Rat.intCast_nonneg.mpr hh0
        grind
      generalize ((sq.fdiv ((4 * (k : Int) + 2) * (M * u) + (brk sq M u i).2) : Int) : Rat) = q at *
      generalize (((brk sq M u i).2 : Int) : Rat) = H at *
      generalize ((M * u : Int) : Rat) = U at *
      refine div_le' hp ?_
      have h3 := Rat.mul_le_mul_of_nonneg_left l2 (Rat.mul_nonneg (Rat.le_of_lt hU) (hf0 k))
      have h4 : X * X * U * U = U * (f k * (4 * (k : Rat) + 2)) * U + U * f k * (U * f (k + 1)) := by rw [← hfk]; grind
      grind
    · have h1 := (fdiv_rat (a := sq) (b := (4 * (k : Int) + 2) * (M * u) + (brk sq M u i).1) (by first | with_reducible assumption | with_reducible exact Int.le_of_lt (by assumption) | with_reducible exact Nat.le_of_lt (by assumption) | omega)).2
      rw [Rat.intCast_add (((4 * (k : Int) + 2) * (M * u))), cst, hsq] at h1
      rw [Rat.intCast_add, show ((1 : Int) : Rat) = 1 from rfl]
      have hp : (0 : Rat) < (4 * (k : Rat) + 2) * ((M * u : Int) : Rat) + (((brk sq M u i).1 : Int) : Rat) := by
        have := ipos hst
        rw [cst] at this
        have h9 : (0 : Rat) ≤ (((brk sq M u i).1 : Int) : Rat) := Rat.intCast_nonneg.mpr l0
        grind
      generalize ((sq.fdiv ((4 * (k : Int) + 2) * (M * u) + (brk sq M u i).1) : Int) : Rat) = q at *
      generalize (((brk sq M u i).1 : Int) : Rat) = H at *
      generalize ((M * u : Int) : Rat) = U at *
      refine div_le' hp ?_
      have h3 := Rat.mul_le_mul_of_nonneg_left l1 (Rat.mul_nonneg (Rat.le_of_lt hU) (hf0 k))
      have h4 : X * X * U * U = U * (f k * (4 * (k : Rat) + 2)) * U + U * f k * (U * f (k + 1)) := by rw [← hfk]; grind
      grind
theorem quot_half {U p : Rat} (hp : 0 < p) : U / (p * 2) = 1 / 2 * (U / p) := by grind
/-- the two stay near together for numbers up to 8 -/
theorem brk_step {sq M u : Int} {X w c : Rat} {i : Nat} {k : Nat} (hM : 0 < M) (hu : 0 < u) (hsq : (sq : Rat) = X * X * ((M * u : Int) : Rat) * ((M * u : Int) : Rat)) (hi : i ≤ 30) (hk : k = 31 - i)
    (h0 : 0 ≤ (brk sq M u i).1) (h1 : (brk sq M u i).1 ≤ (brk sq M u i).2) (hw : (((brk sq M u i).2 - (brk sq M u i).1 : Int) : Rat) ≤ w) (hc : X * X ≤ c * ((4 * (k : Rat) + 2) * (4 * (k : Rat) + 2))) (hc0 : 0 ≤ c) :
    (((brk sq M u (i + 1)).2 - (brk sq M u (i + 1)).1 : Int) : Rat) ≤ c * w + 2 := by
  have hMu : 0 < M * u := Int.mul_pos hM hu
  have hU := ipos hMu
  have hs : (4 * (31 + (i : Int) * -1) + 2) * M * u = (4 * (k : Int) + 2) * (M * u) := by
    have : (31 + (i : Int) * -1) = (k : Int) := by omega
    rw [this]; grind
  have b1 : (brk sq M u (i + 1)).1 = sq.fdiv ((4 * (k : Int) + 2) * (M * u) + (brk sq M u i).2) := by rw [← hs]; rfl
  have b2 : (brk sq M u (i + 1)).2 = sq.fdiv ((4 * (k : Int) + 2) * (M * u) + (brk sq M u i).1) + 1 := by rw [← hs]; rfl
  rw [b1, b2]
  have hst : 0 < (4 * (k : Int) + 2) * (M * u) := Int.mul_pos (by first | with_reducible assumption | with_reducible exact Int.le_of_lt (by assumption) | with_reducible exact Nat.le_of_lt (by assumption) | omega) hMu
  have cst : (((4 * (k : Int) + 2) * (M * u) : Int) : Rat) = (4 * (k : Rat) + 2) * ((M * u : Int) : Rat) := by rw [Rat.intCast_mul, Rat.intCast_add, Rat.intCast_mul, Rat.intCast_natCast]; rfl
  have x1 := (fdiv_rat (a := sq) (b := (4 * (k : Int) + 2) * (M * u) + (brk sq M u i).2) (by first | with_reducible assumption | with_reducible exact Int.le_of_lt (by assumption) | with_reducible exact Nat.le_of_lt (by assumption) | omega)).2
  have x2 := (fdiv_rat (a := sq) (b := (4 * (k : Int) + 2) * (M * u) + (brk sq M u i).1) (by first | with_reducible assumption | with_reducible exact Int.le_of_lt (by assumption) | with_reducible exact Nat.le_of_lt (by assumption) | omega)).1
  have hl : (0 : Rat) ≤ (((brk sq M u i).1 : Int) : Rat) := Rat.intCast_nonneg.mpr h0
  have hlh : (((brk sq M u i).1 : Int) : Rat) ≤ (((brk sq M u i).2 : Int) : Rat) := icast_le h1
  have hstr := ipos hst
  rw [Rat.intCast_add ((4 * (k : Int) + 2) * (M * u)), cst] at x1 x2
  rw [cst] at hstr
  rw [Rat.intCast_sub] at hw
  rw [Rat.intCast_sub, Rat.intCast_add, show ((1 : Int) : Rat) = 1 from rfl]
  generalize ((sq.fdiv ((4 * (k : Int) + 2) * (M * u) + (brk sq M u i).2) : Int) : Rat) = q1 at *
  generalize ((sq.fdiv ((4 * (k : Int) + 2) * (M * u) + (brk sq M u i).1) : Int) : Rat) = q2 at *
  generalize (((brk sq M u i).1 : Int) : Rat) = l at *
  generalize (((brk sq M u i).2 : Int) : Rat) = H at *
  have hsqc : (sq : Rat) ≤ c * ((4 * (k : Rat) + 2) * ((M * u : Int) : Rat)) * ((4 * (k : Rat) + 2) * ((M * u : Int) : Rat)) := by
    rw [hsq]
    have := Rat.mul_le_mul_of_nonneg_right hc (Rat.le_of_lt (Rat.mul_pos hU hU))
    grind
  generalize (4 * (k : Rat) + 2) * ((M * u : Int) : Rat) = st at *
  have hw0 : 0 ≤ H - l := by grind
  -- (st + l) q2 ≤ sq < (st + H) (q1 + 1)
  have p1 : 0 < st + l := by grind
  have p2 : 0 < st + H := by grind
  refine div_le' (Rat.mul_pos p1 p2) ?_
  have y1 := Rat.mul_le_mul_of_nonneg_right x2 (Rat.le_of_lt p2)
  have y2 := Rat.mul_le_mul_of_nonneg_right (Rat.le_of_lt x1) (Rat.le_of_lt p1)
  have y3 := Rat.mul_le_mul_of_nonneg_right hsqc hw0
  have y4 : c * st * st * (H - l) ≤ c * ((st + l) * (st + H)) * (H - l) := by
    refine Rat.mul_le_mul_of_nonneg_right ?_ hw0
    have : st * st ≤ (st + l) * (st + H) := by
      have a1 := Rat.mul_nonneg hl (Rat.le_of_lt p2)
      have a2 := Rat.mul_nonneg (Rat.le_of_lt hstr) (show 0 ≤ H by grind)
      grind
    have := Rat.mul_le_mul_of_nonneg_left this hc0
    grind
  have y5 : c * ((st + l) * (st + H)) * (H - l) ≤ c * ((st + l) * (st + H)) * w := Rat.mul_le_mul_of_nonneg_left hw (Rat.mul_nonneg hc0 (Rat.le_of_lt (Rat.mul_pos p1 p2)))
  grind
theorem brk_width {sq M u : Int} {X : Rat} {f : Nat → Rat} (hM : 0 < M) (hu : 0 < u) (hsq : (sq : Rat) = X * X * ((M * u : Int) : Rat) * ((M * u : Int) : Rat)) (hsq0 : 0 ≤ sq)
    (hf : ∀ k, k ≤ 31 → f k * ((4 * (k : Rat) + 2) + f (k + 1)) = X * X) (hf0 : ∀ k, 0 ≤ f k) (hf32 : f 32 * 130 ≤ X * X) (hX : X * X ≤ 64) :
    (((brk sq M u 31).2 - (brk sq M u 31).1 : Int) : Rat) ≤ ((M * u : Int) : Rat) / 33554432 + 50 := by
  have hMu : 0 < M * u := Int.mul_pos hM hu
  have hU := ipos hMu
  have hin := brk_in hM hu hsq hsq0 hf hf0 hf32
  have ord : ∀ i, i ≤ 31 → 0 ≤ (brk sq M u i).1 ∧ (brk sq M u i).1 ≤ (brk sq M u i).2 := fun i hi => by
    obtain ⟨a, b, c⟩ := hin i hi
    exact ⟨a, Rat.intCast_le_intCast.mp (Rat.le_trans b c)⟩
  have first : ∀ i, i ≤ 28 → (((brk sq M u i).2 - (brk sq M u i).1 : Int) : Rat) ≤ ((M * u : Int) : Rat) / 2 ^ i + 4 := by
    intro i
    induction i with
    | zero =>
      intro _
      have e0 : (brk sq M u 0).1 = 0 := rfl
      have e1 : (brk sq M u 0).2 = sq.fdiv (130 * M * u) + 1 := rfl
      rw [e0, e1, Rat.pow_zero]
      have e : 130 * M * u = 130 * (M * u) := by grind
      rw [e, Int.sub_zero, Rat.intCast_add, show ((1 : Int) : Rat) = 1 from rfl]
      have h2 := (fdiv_rat (a := sq) (b := 130 * (M * u)) (by first | with_reducible assumption | with_reducible exact Int.le_of_lt (by assumption) | with_reducible exact Nat.le_of_lt (by assumption) | omega)).1
      rw [hsq, Rat.intCast_mul 130 (M * u), show ((130 : Int) : Rat) = 130 from rfl] at h2
      generalize ((sq.fdiv (130 * (M * u)) : Int) : Rat) = q at *
      generalize ((M * u : Int) : Rat) = U at *
      have : q ≤ U := by
        refine div_le' (show 0 < 130 * U by grind) ?_
        have hUU := Rat.mul_pos hU hU
        clear hin ord hf
        have := Rat.mul_le_mul_of_nonneg_right hX (Rat.le_of_lt (Rat.mul_pos hU hU))
        grind
      grind
    | succ i ih =>
      intro hi
      have ih := ih (by first | with_reducible assumption | with_reducible exact Int.le_of_lt (by assumption) | with_reducible exact Nat.le_of_lt (by assumption) | omega)
      obtain ⟨o1, o2⟩ := ord i (by first | with_reducible assumption | with_reducible exact Int.le_of_lt (by assumption) | with_reducible exact Nat.le_of_lt (by assumption) | omega)
      obtain ⟨k, hk⟩ : ∃ k, k = 31 - i := ⟨_, rfl⟩
      have hk4 : (4 : Rat) ≤ (k : Rat) := ncast_le (show 4 ≤ k by omega)
      have h1 := brk_step (c := 1 / 2) hM hu hsq (by first | with_reducible assumption | with_reducible exact Int.le_of_lt (by assumption) | with_reducible exact Nat.le_of_lt (by assumption) | omega) hk o1 o2 ih (by
        have := rmul (show (0 : Rat) ≤ 18 by decide) (show (0 : Rat) ≤ 4 * (k : Rat) + 2 by grind) (show (18 : Rat) ≤ 4 * (k : Rat) + 2 by grind) (show (18 : Rat) ≤ 4 * (k : Rat) + 2 by grind)
        grind) (by first | with_reducible assumption | with_reducible exact Rat.le_of_lt (by assumption) | grind)
      refine Rat.le_trans h1 ?_
      rw [Rat.pow_succ]
      have hp := pow2pos i
      generalize ((M * u : Int) : Rat) = U at *
      generalize (2 : Rat) ^ i = p at *
      rw [quot_half hp]
      clear hin ord hf h1 ih
      grind
  obtain ⟨a1, a2⟩ := ord 28 (by decide)
  obtain ⟨b1, b2⟩ := ord 29 (by decide)
  obtain ⟨c1, c2⟩ := ord 30 (by decide)
  have f0 := first 28 (by decide)
  have s1 := brk_step (k := 3) (c := 2) hM hu hsq (by decide) rfl a1 a2 f0 (by rw [show ((3 : Nat) : Rat) = 3 from rfl]; grind) (by decide)
  have s2 := brk_step (k := 2) (c := 2) hM hu hsq (by decide) rfl b1 b2 s1 (by rw [show ((2 : Nat) : Rat) = 2 from rfl]; grind) (by decide)
  have s3 := brk_step (k := 1) (c := 2) hM hu hsq (by decide) rfl c1 c2 s2 (by rw [show ((1 : Nat) : Rat) = 1 from rfl]; grind) (by decide)
  rw [show 28 + 1 = 29 from rfl] at *
  refine Rat.le_trans s3 ?_
  have e : (2 : Rat) ^ 28 = 268435456 := rfl
  rw [e]
  generalize ((M * u : Int) : Rat) = U at *
  clear hin ord hf
  grind

/-! the law's turn in plain numbers -/
theorem up_side {M6 A Bq E hi bnd bound told n : Rat} (hM6 : 0 < M6) (hB : 0 < Bq) (hE : 0 < E) (hn : 0 ≤ n) (hbn : 0 ≤ bnd) (h1 : M6 * A ≤ hi * Bq) (h2 : Bq * E ≤ A * (1 + n)) (h3 : hi * bnd ≤ bound * M6) (h4 : told ≤ M6 * E + (bnd - 1 / 2) * E) (h5 : n * (M6 + bnd) ≤ 1 / 2) : told ≤ hi + bound := by
  have a1 : M6 * E ≤ hi * (1 + n) := by
    refine div_le' hB ?_
    have x1 := Rat.mul_le_mul_of_nonneg_left h2 (Rat.le_of_lt hM6)
    have x2 := Rat.mul_le_mul_of_nonneg_right h1 (show 0 ≤ 1 + n by grind)
    grind
  -- (hi + bound) M6 (1 + n) ≥ (M6 + bnd) M6 E
  have a2 : (M6 + bnd) * (M6 * E) ≤ (hi + bound) * M6 * (1 + n) := by
    have x1 := Rat.mul_le_mul_of_nonneg_left a1 (show 0 ≤ M6 + bnd by grind)
    have x2 := Rat.mul_le_mul_of_nonneg_right h3 (show 0 ≤ 1 + n by grind)
    grind
  have a3 : (M6 + bnd - 1 / 2) * (1 + n) ≤ M6 + bnd := by grind
  refine Rat.le_trans h4 ?_
  refine div_le' (Rat.mul_pos hM6 (show 0 < 1 + n by grind)) ?_
  have x3 := Rat.mul_le_mul_of_nonneg_right a3 (Rat.le_of_lt (Rat.mul_pos hM6 hE))
  grind
theorem down_side {M6 A Bq E lo hi bnd bound told n : Rat} (hM6 : 0 < M6) (hB : 0 < Bq) (hE : 0 < E) (hn : 0 ≤ n) (hbn : 0 ≤ bnd) (h0 : lo * Bq ≤ M6 * A) (h1 : M6 * A ≤ hi * Bq) (h2 : Bq * E ≤ A * (1 + n)) (h2' : A ≤ Bq * E * (1 + n)) (h3 : hi * bnd ≤ bound * M6)
    (h4 : M6 * E - (bnd - 1 / 2) * E ≤ told) (h5 : n * (M6 + bnd) ≤ 1 / 2) : lo - bound ≤ told := by
  have a1 : M6 * E ≤ hi * (1 + n) := by
    refine div_le' hB ?_
    have x1 := Rat.mul_le_mul_of_nonneg_left h2 (Rat.le_of_lt hM6)
    have x2 := Rat.mul_le_mul_of_nonneg_right h1 (show 0 ≤ 1 + n by grind)
    grind
  have a2 : lo ≤ M6 * E * (1 + n) := by
    refine div_le' hB ?_
    have x1 := Rat.mul_le_mul_of_nonneg_left h2' (Rat.le_of_lt hM6)
    grind
  have a3 : bnd * E ≤ bound * (1 + n) := by
    refine div_le' hM6 ?_
    have x1 := Rat.mul_le_mul_of_nonneg_left a1 hbn
    have x2 := Rat.mul_le_mul_of_nonneg_right h3 (show 0 ≤ 1 + n by grind)
    grind
  have a4 : bnd * E * (1 - n) ≤ bound := by
    refine div_le' (show 0 < 1 + n by grind) ?_
    have x1 := Rat.mul_nonneg (Rat.mul_nonneg hbn (Rat.le_of_lt hE)) (Rat.mul_nonneg hn hn)
    grind
  have a5 := Rat.mul_le_mul_of_nonneg_right h5 (Rat.le_of_lt hE)
  grind
theorem neg_sides {M6 A Bq E F lo hi bnd told n : Rat} (hM6 : 0 < M6) (hA : 0 < A) (hE : 1 ≤ E) (hF : 0 < F) (hEF : E * F = 1) (hn : 0 ≤ n) (h0 : lo * A ≤ M6 * Bq) (h1 : M6 * Bq ≤ hi * A) (h2 : Bq * E ≤ A * (1 + n)) (h2' : A ≤ Bq * E * (1 + n))
    (h3 : Wi (told - M6 * F) (bnd - 1 / 1000)) (h5 : n * M6 ≤ 1 / 1000) : lo - bnd ≤ told ∧ told ≤ hi + bnd := by
  have hF1 : F ≤ 1 := by
    have := Rat.mul_le_mul_of_nonneg_right hE (Rat.le_of_lt hF)
    grind
  have b1 : Bq ≤ A * F * (1 + n) := by
    have x1 := Rat.mul_le_mul_of_nonneg_right h2 (Rat.le_of_lt hF)
    have e : Bq * E * F = Bq := by have : Bq * E * F = Bq * (E * F) := by grind
                                   rw [this, hEF]; grind
    grind
  have b2 : A * F ≤ Bq * (1 + n) := by
    have x1 := Rat.mul_le_mul_of_nonneg_right h2' (Rat.le_of_lt hF)
    have e : Bq * E * (1 + n) * F = Bq * (1 + n) := by have : Bq * E * (1 + n) * F = Bq * (1 + n) * (E * F) := by grind
                                                       rw [this, hEF]; grind
    grind
  have c1 : lo ≤ M6 * F * (1 + n) := by
    refine div_le' hA ?_
    have x1 := Rat.mul_le_mul_of_nonneg_left b1 (Rat.le_of_lt hM6)
    grind
  have c2 : M6 * F ≤ hi * (1 + n) := by
    refine div_le' hA ?_
    have x1 := Rat.mul_le_mul_of_nonneg_left b2 (Rat.le_of_lt hM6)
    have x2 := Rat.mul_le_mul_of_nonneg_right h1 (show 0 ≤ 1 + n by grind)
    grind
  have c3 : M6 * F * (1 - n) ≤ hi := by
    refine div_le' (show 0 < 1 + n by grind) ?_
    have x1 := Rat.mul_nonneg (Rat.mul_nonneg (Rat.le_of_lt hM6) (Rat.le_of_lt hF)) (Rat.mul_nonneg hn hn)
    grind
  have c4 := rmul (Rat.mul_nonneg hn (Rat.le_of_lt hM6)) (show (0 : Rat) ≤ 1 by decide) h5 hF1
  obtain ⟨t1, t2⟩ := h3
  constructor <;> grind
/-- a bracket by quotients: the greater w, the less (w + x) / (w - x) -/
theorem quot_lo {M6 W xu w lo : Rat} (hM6 : 0 ≤ M6) (hx : 0 ≤ xu) (h : w ≤ W) (hw : 0 < w - xu) (h1 : lo * (W - xu) ≤ M6 * (W + xu)) : lo * (w - xu) ≤ M6 * (w + xu) := by
  have hW : 0 < W - xu := by grind
  refine div_le' hW ?_
  have x1 := Rat.mul_le_mul_of_nonneg_right h1 (Rat.le_of_lt hw)
  have x2 := Rat.mul_nonneg (Rat.mul_nonneg hM6 hx) (show 0 ≤ W - w by grind)
  grind
theorem quot_hi {M6 W xu w hi : Rat} (hM6 : 0 ≤ M6) (hx : 0 ≤ xu) (h : W ≤ w) (hW : 0 < W - xu) (h1 : M6 * (W + xu) ≤ hi * (W - xu)) : M6 * (w + xu) ≤ hi * (w - xu) := by
  refine div_le' hW ?_
  have x1 := Rat.mul_le_mul_of_nonneg_right h1 (show 0 ≤ w - xu by grind)
  have x2 := Rat.mul_nonneg (Rat.mul_nonneg hM6 hx) (show 0 ≤ w - W by grind)
  grind
theorem quot_lo' {M6 W xu w lo : Rat} (hM6 : 0 ≤ M6) (hx : 0 ≤ xu) (h : W ≤ w) (hW : 0 < W + xu) (h1 : lo * (W + xu) ≤ M6 * (W - xu)) : lo * (w + xu) ≤ M6 * (w - xu) := by
  refine div_le' hW ?_
  have x1 := Rat.mul_le_mul_of_nonneg_right h1 (show 0 ≤ w + xu by grind)
  have x2 := Rat.mul_nonneg (Rat.mul_nonneg hM6 hx) (show 0 ≤ w - W by grind)
  grind
theorem quot_hi' {M6 W xu w hi : Rat} (hM6 : 0 ≤ M6) (hx : 0 ≤ xu) (h : w ≤ W) (hw : 0 < w + xu) (h1 : M6 * (W - xu) ≤ hi * (W + xu)) : M6 * (w - xu) ≤ hi * (w + xu) := by
  have hW : 0 < W + xu := by grind
  refine div_le' hW ?_
  have x1 := Rat.mul_le_mul_of_nonneg_right h1 (Rat.le_of_lt hw)
  have x2 := Rat.mul_nonneg (Rat.mul_nonneg hM6 hx) (show 0 ≤ W - w by grind)
  grind
/-! sizes -/
theorem termB_le {x M : Int} (hM : 0 < M) (j : Nat) : 1 ≤ termB x M j ∧ termB x M j ≤ 1000001 := by
  have hp := p2pos j
  have hm : 0 < 32 * (M * 2 ^ j) := by have := Int.mul_pos hM hp; omega
  have hb : 0 ≤ bB x j := by
    unfold bB
    split
    · omega
    · exact Int.mul_nonneg (by first | with_reducible assumption | with_reducible exact Int.le_of_lt (by assumption) | with_reducible exact Nat.le_of_lt (by assumption) | omega) (by first | with_reducible assumption | with_reducible exact Int.le_of_lt (by assumption) | with_reducible exact Nat.le_of_lt (by assumption) | omega)
  unfold termB
  generalize bB x j = b at *
  generalize 32 * (M * 2 ^ j) = m at *
  have h1 : 0 < m ^ 32 := Int.pow_pos hm
  have h2 : m ^ 32 ≤ (m + b) ^ 32 := by
    have : ∀ k : Nat, m ^ k ≤ (m + b) ^ k := fun k => by
      induction k with
      | zero => simp
      | succ k ih => rw [Int.pow_succ, Int.pow_succ]; exact Int.mul_le_mul ih (by first | with_reducible assumption | with_reducible exact Int.le_of_lt (by assumption) | with_reducible exact Nat.le_of_lt (by assumption) | omega) (by first | with_reducible assumption | with_reducible exact Int.le_of_lt (by assumption) | with_reducible exact Nat.le_of_lt (by assumption) | omega) (Int.pow_nonneg (by first | with_reducible assumption | with_reducible exact Int.le_of_lt (by assumption) | with_reducible exact Nat.le_of_lt (by assumption) | omega))
    exact this 32
  generalize m ^ 32 = p at *
  generalize (m + b) ^ 32 = q at *
  have h3 : 0 ≤ (10 ^ 6 * p).fdiv (2 * q) := Int.fdiv_nonneg (by first | with_reducible assumption | with_reducible exact Int.le_of_lt (by assumption) | with_reducible exact Nat.le_of_lt (by assumption) | omega) (by first | with_reducible assumption | with_reducible exact Int.le_of_lt (by assumption) | with_reducible exact Nat.le_of_lt (by assumption) | omega)
  have h4 : (10 ^ 6 * p).fdiv (2 * q) ≤ 1000000 := by
    rw [Int.fdiv_eq_ediv_of_nonneg _ (by first | with_reducible assumption | with_reducible exact Int.le_of_lt (by assumption) | with_reducible exact Nat.le_of_lt (by assumption) | omega)]
    exact Int.ediv_le_of_le_mul (by first | with_reducible assumption | with_reducible exact Int.le_of_lt (by assumption) | with_reducible exact Nat.le_of_lt (by assumption) | omega) (by first | with_reducible assumption | with_reducible exact Int.le_of_lt (by assumption) | with_reducible exact Nat.le_of_lt (by assumption) | omega)
  omega
theorem sumTo_le {f : Nat → Int} {c : Int} (h : ∀ j, 0 ≤ f j ∧ f j ≤ c) : ∀ n : Nat, 0 ≤ sumTo f n ∧ sumTo f n ≤ c * n
  | 0 => by show (0 : Int) ≤ 0 ∧ (0 : Int) ≤ c * ((0 : Nat) : Int); simp
  | n + 1 => by
    have ih := sumTo_le h n
    have hn := h n
    show 0 ≤ sumTo f n + f n ∧ sumTo f n + f n ≤ c * ((n + 1 : Nat) : Int)
    have : c * ((n + 1 : Nat) : Int) = c * (n : Int) + c := by rw [Int.natCast_add]; grind
    omega
theorem serB_le {x M L : Int} (hM : 1000 ≤ M) (hL : 1 ≤ L) (hL2 : L ≤ 12) (hx : (x.natAbs : Int) ≤ 24 * M) : 0 ≤ ser0B x M L ∧ ser0B x M L ≤ 6000000 ∧ 0 ≤ serB x M L ∧ serB x M L ≤ 6000001 := by
  obtain ⟨l1, l2⟩ := left_small (x := x) (L := L) hM hL hL2 hx
  have hp := p2pos L.toNat
  have h1 : 0 ≤ (650000 : Int).fdiv (2 ^ L.toNat) := Int.fdiv_nonneg (by decide) (by first | with_reducible assumption | with_reducible exact Int.le_of_lt (by assumption) | with_reducible exact Nat.le_of_lt (by assumption) | omega)
  have h2 : (650000 : Int).fdiv (2 ^ L.toNat) ≤ 650000 := by
    rw [Int.fdiv_eq_ediv_of_nonneg _ (by first | with_reducible assumption | with_reducible exact Int.le_of_lt (by assumption) | with_reducible exact Nat.le_of_lt (by assumption) | omega)]
    exact Int.ediv_le_of_le_mul hp (by first | with_reducible assumption | with_reducible exact Int.le_of_lt (by assumption) | with_reducible exact Nat.le_of_lt (by assumption) | omega)
  have h3 : 0 ≤ ser0B x M L ∧ ser0B x M L ≤ 6000000 := by unfold ser0B; omega
  refine ⟨h3.1, h3.2, ?_⟩
  unfold serB
  split
  · have hR1 : (1 : Int) ≤ 2 ^ nR x M L := Int.pow_pos (by decide)
    have hm : 0 < 32 * (M * 2 ^ nR x M L) := by have := Int.mul_pos (show 0 < M by omega) (p2pos (nR x M L)); omega
    have hb : 0 ≤ (x.natAbs : Int) * (2 ^ nR x M L - 1) := Int.mul_nonneg (by first | with_reducible assumption | with_reducible exact Int.le_of_lt (by assumption) | with_reducible exact Nat.le_of_lt (by assumption) | omega) (by first | with_reducible assumption | with_reducible exact Int.le_of_lt (by assumption) | with_reducible exact Nat.le_of_lt (by assumption) | omega)
    generalize (x.natAbs : Int) * (2 ^ nR x M L - 1) = b at *
    generalize 32 * (M * 2 ^ nR x M L) = m at *
    have h1 : 0 < m ^ 32 := Int.pow_pos hm
    have h2 : m ^ 32 ≤ (m + b) ^ 32 := by
      have : ∀ k : Nat, m ^ k ≤ (m + b) ^ k := fun k => by
        induction k with
        | zero => simp
        | succ k ih => rw [Int.pow_succ, Int.pow_succ]; exact Int.mul_le_mul ih (by first | with_reducible assumption | with_reducible exact Int.le_of_lt (by assumption) | with_reducible exact Nat.le_of_lt (by assumption) | omega) (by first | with_reducible assumption | with_reducible exact Int.le_of_lt (by assumption) | with_reducible exact Nat.le_of_lt (by assumption) | omega) (Int.pow_nonneg (by first | with_reducible assumption | with_reducible exact Int.le_of_lt (by assumption) | with_reducible exact Nat.le_of_lt (by assumption) | omega))
      exact this 32
    generalize m ^ 32 = p at *
    generalize (m + b) ^ 32 = q at *
    have h5 : 0 ≤ (ser0B x M L * p).fdiv q := Int.fdiv_nonneg (Int.mul_nonneg h3.1 (by first | with_reducible assumption | with_reducible exact Int.le_of_lt (by assumption) | with_reducible exact Nat.le_of_lt (by assumption) | omega)) (by first | with_reducible assumption | with_reducible exact Int.le_of_lt (by assumption) | with_reducible exact Nat.le_of_lt (by assumption) | omega)
    have h6 : (ser0B x M L * p).fdiv q ≤ ser0B x M L := by
      rw [Int.fdiv_eq_ediv_of_nonneg _ (by first | with_reducible assumption | with_reducible exact Int.le_of_lt (by assumption) | with_reducible exact Nat.le_of_lt (by assumption) | omega)]
      refine Int.ediv_le_of_le_mul (by first | with_reducible assumption | with_reducible exact Int.le_of_lt (by assumption) | with_reducible exact Nat.le_of_lt (by assumption) | omega) ?_
      exact Int.mul_le_mul_of_nonneg_left h2 h3.1
    omega
  · omega
theorem bndB_le {x M L : Int} (hM : 1000 ≤ M) (hL : 2 ≤ L) (hL2 : L ≤ 12) (hx : (x.natAbs : Int) ≤ 24 * M) : 0 ≤ bndB x M L ∧ bndB x M L ≤ 2 ^ 30 := by
  have hM0 : 0 < M := by omega
  obtain ⟨l1, l2⟩ := left_small (x := x) (L := L) hM (by first | with_reducible assumption | with_reducible exact Int.le_of_lt (by assumption) | with_reducible exact Nat.le_of_lt (by assumption) | omega) hL2 hx
  have hR := nR_le18 (x := x) hM0 hx hL2
  obtain ⟨_, _, s1, s2⟩ := serB_le hM (show 1 ≤ L by omega) hL2 hx
  obtain ⟨t1, t2⟩ := sumTo_le (f := termB x M) (c := 1000001) (fun j => by have := termB_le (x := x) hM0 j; omega) (nR x M L)
  have hmo : 0 ≤ mostB x M L ∧ mostB x M L ≤ 16000000 := by unfold mostB; omega
  have hmm := Int.mul_nonneg hmo.1 hmo.1
  have hmm2 := Int.mul_le_mul hmo.2 hmo.2 hmo.1 (by decide)
  have h1 : 0 ≤ (mostB x M L * mostB x M L).fdiv (2 * M * 10 ^ 6) := Int.fdiv_nonneg hmm (by first | with_reducible assumption | with_reducible exact Int.le_of_lt (by assumption) | with_reducible exact Nat.le_of_lt (by assumption) | omega)
  have h2 : (mostB x M L * mostB x M L).fdiv (2 * M * 10 ^ 6) ≤ 1000000 := by
    rw [Int.fdiv_eq_ediv_of_nonneg _ (by first | with_reducible assumption | with_reducible exact Int.le_of_lt (by assumption) | with_reducible exact Nat.le_of_lt (by assumption) | omega)]
    exact Int.ediv_le_of_le_mul (by first | with_reducible assumption | with_reducible exact Int.le_of_lt (by assumption) | with_reducible exact Nat.le_of_lt (by assumption) | omega) (by first | with_reducible assumption | with_reducible exact Int.le_of_lt (by assumption) | with_reducible exact Nat.le_of_lt (by assumption) | omega)
  unfold bndB
  omega

/-! what _law_exp gives -/
noncomputable def un : Int := 10 ^ 12
noncomputable def bk (x M : Int) : Int × Int := brk ((x * un) ^ 2) M un 31
noncomputable def wLo (x M : Int) : Int := (if x ≥ 0 then (bk x M).2 else (bk x M).1) + 2 * M * un
noncomputable def wHi (x M : Int) : Int := (if x ≥ 0 then (bk x M).1 else (bk x M).2) + 2 * M * un
noncomputable def eLo (x M : Int) : Int := (M * 10 ^ 6 * (wLo x M + x * un)).fdiv (wLo x M - x * un)
noncomputable def eHi (x M : Int) : Int := (M * 10 ^ 6 * (wHi x M + x * un)).fdiv (wHi x M - x * un) + 1
/-- the step, the fraction, the exponential, all together -/
theorem setup07 {x M L : Int} (hM : 1000 ≤ M) (hx : (x.natAbs : Int) ≤ 24 * M) : ∃ (d : Rat) (W : Int) (Z : Nat) (z : Rat) (f : Nat → Rat), Stp x M L d W ∧ (M : Rat) * (2 * z) = (x.natAbs : Rat) ∧ 0 ≤ z ∧
    (∀ k, k ≤ 31 → f k * ((4 * (k : Rat) + 2) + f (k + 1)) = (2 * z) * (2 * z)) ∧ (∀ k, 0 ≤ f k) ∧ f 32 * 130 ≤ (2 * z) * (2 * z) ∧ 0 < 2 + f 1 - 2 * z ∧
      2 + f 1 + 2 * z ≤ (2 + f 1 - 2 * z) * ex d (2 * (Z : Int)) * (1 + 1 / 2 ^ 100) ∧ (2 + f 1 - 2 * z) * ex d (2 * (Z : Int)) ≤ (2 + f 1 + 2 * z) * (1 + 1 / 2 ^ 100) ∧ 1 ≤ ex d (2 * (Z : Int)) * (2 + f 1 - 2 * z) ∧
      (0 ≤ x → 2 ^ nR x M L * (32 * W * x) = 2 * (Z : Int)) ∧ (x < 0 → 2 ^ nR x M L * (32 * W * x) = -(2 * (Z : Int))) ∧ (z ≤ 4 → ex d (2 * (Z : Int)) ≤ 65536) := by
  have hM0 : 0 < M := by omega
  have hSp := sS_pos (x := x) (L := L) hM0
  have hS := ipos hSp
  obtain ⟨W, hW⟩ : ∃ W : Int, W = 2 ^ 260 := ⟨_, rfl⟩
  have hW12 : 1000000000000 ≤ W := by
    have : (2 : Int) ^ 40 ≤ 2 ^ 260 := ipow_le (by decide) (by decide)
    omega
  have hWr : (1000000000000 : Rat) ≤ (W : Rat) := icast_le hW12
  have hMr : (1000 : Rat) ≤ (M : Rat) := icast_le hM
  have hSe : (sS x M L : Rat) = (M : Rat) * 2 ^ nR x M L := by unfold sS; rw [icast_p2]
  have hSM : (M : Rat) ≤ (sS x M L : Rat) := by
    rw [hSe]
    have := Rat.mul_le_mul_of_nonneg_left (pow2ge (nR x M L)) (Rat.le_of_lt (ipos hM0))
    grind
  have hSW : 0 < (sS x M L : Rat) * (32 * (W : Rat)) := Rat.mul_pos hS (by first | with_reducible assumption | with_reducible exact Rat.le_of_lt (by assumption) | grind)
  obtain ⟨d, hd1⟩ : ∃ d : Rat, (sS x M L : Rat) * (32 * (W : Rat)) * d = 1 := ⟨1 / ((sS x M L : Rat) * (32 * (W : Rat))), by grind⟩
  have hd : 0 < d := by
    refine Rat.not_le.mp fun hle => ?_
    have := Rat.mul_le_mul_of_nonneg_left hle (Rat.le_of_lt hSW)
    grind
  have hst : Stp x M L d W := ⟨hd, hW12, hd1⟩
  obtain ⟨Z, hZ⟩ : ∃ Z : Nat, Z = x.natAbs * 2 ^ nR x M L * 16 * W.toNat := ⟨_, rfl⟩
  have hWn : ((W.toNat : Nat) : Int) = W := by omega
  have hZi : (Z : Int) = (x.natAbs : Int) * 2 ^ nR x M L * 16 * W := by
    rw [hZ]
    have : ((x.natAbs * 2 ^ nR x M L * 16 * W.toNat : Nat) : Int) = (x.natAbs : Int) * 2 ^ nR x M L * 16 * ((W.toNat : Nat) : Int) := by norm_cast
    rw [this, hWn]
  have hZr : (Z : Rat) = (x.natAbs : Rat) * 2 ^ nR x M L * 16 * (W : Rat) := by
    have h1 : (((Z : Int)) : Rat) = (((x.natAbs : Int) * 2 ^ nR x M L * 16 * W : Int) : Rat) := by rw [hZi]
    rw [Rat.intCast_natCast, Rat.intCast_mul, Rat.intCast_mul, icast_p2, Rat.intCast_natCast] at h1
    exact h1
  obtain ⟨z, hz⟩ : ∃ z : Rat, z = (Z : Rat) * d := ⟨_, rfl⟩
  have hMz : (M : Rat) * (2 * z) = (x.natAbs : Rat) := by
    have : (M : Rat) * (2 * z) = (x.natAbs : Rat) * ((sS x M L : Rat) * (32 * (W : Rat)) * d) := by rw [hz, hZr, hSe]; grind
    rw [this, hd1]; grind
  have hz0 : 0 ≤ z := by rw [hz]; exact Rat.mul_nonneg Rat.natCast_nonneg (Rat.le_of_lt hd)
  have hxr : (x.natAbs : Rat) ≤ 24 * (M : Rat) := by have := icast_le hx; rwa [Rat.intCast_mul, Rat.intCast_natCast] at this
  have hz12 : z ≤ 12 := by
    refine div_le' (show (0 : Rat) < 2 * (M : Rat) by grind) ?_
    grind
  have hh : ((16 * W * sS x M L : Int) : Rat) * d = 1 / 2 := by
    rw [Rat.intCast_mul, Rat.intCast_mul, show ((16 : Int) : Rat) = 16 from rfl]
    grind
  have hdt : d * 2 ^ 260 ≤ 1 := by
    have e : ((2 ^ 260 : Int) : Rat) = 2 ^ 260 := by rw [Rat.intCast_pow]; rfl
    rw [← e, ← hW]
    have := Rat.mul_le_mul_of_nonneg_right (show 1 ≤ (sS x M L : Rat) * 32 by grind) (Rat.le_of_lt (Rat.mul_pos (show (0 : Rat) < (W : Rat) by grind) hd))
    grind
  obtain ⟨f, f1, f2, f3, f4, f5, f6, f7⟩ := lam7 hd hh hz hz12 hdt
  have e4 : (2 * z) * (2 * z) = 4 * (z * z) := by grind
  refine ⟨d, W, Z, z, f, hst, hMz, hz0, by rw [e4]; exact f1, f2, by rw [e4]; exact f3, f4, f5, f6, f7, ?_, ?_, ?_⟩
  · intro h0
    rw [hZi, show (x.natAbs : Int) = x by omega]; grind
  · intro h0
    rw [hZi, show (x.natAbs : Int) = -x by omega]; grind
  · intro h4
    have : (2 : Int) * (Z : Int) ≤ ((16 : Nat) : Int) * (16 * W * sS x M L) := by
      refine Int.not_lt.mp fun hlt => ?_
      have h1 := Rat.intCast_lt_intCast.mpr hlt
      rw [Rat.intCast_mul, Rat.intCast_mul 2, Rat.intCast_natCast, Rat.intCast_natCast, show ((16 : Nat) : Rat) = 16 from rfl, show ((2 : Int) : Rat) = 2 from rfl] at h1
      have h2 := Rat.mul_lt_mul_of_pos_right h1 hd
      have e : 16 * ((16 * W * sS x M L : Int) : Rat) * d = 8 := by rw [Rat.mul_assoc, hh]; grind
      rw [e] at h2
      have e3 : 2 * (Z : Rat) * d = 2 * z := by rw [hz]; grind
      rw [e3] at h2
      grind
    have h9 := ex_half hd hh this
    have e16 : (2 : Rat) ^ 16 = 65536 := rfl
    rw [e16] at h9
    exact h9
theorem t07 {x M L : Int} (hM : 1000 ≤ M) (hM' : M ≤ 10 ^ 9) (hL : 2 ≤ L) (hL2 : L ≤ 12) (hx : (0 ≤ x ∧ x ≤ 8 * M) ∨ (x < 0 ∧ -(24 * M) ≤ x)) :
    0 < wLo x M - x * un ∧ 0 < wHi x M - x * un ∧ (0 ≤ x → eLo x M - ((eHi x M * bndB x M L).fdiv (10 ^ 6 * M) + 1) ≤ 10 ^ 6 * iexp x M L ∧ 10 ^ 6 * iexp x M L ≤ eHi x M + ((eHi x M * bndB x M L).fdiv (10 ^ 6 * M) + 1)) ∧
      (x < 0 → eLo x M - bndB x M L ≤ 10 ^ 6 * iexp x M L ∧ 10 ^ 6 * iexp x M L ≤ eHi x M + bndB x M L) := by
  have hM0 : 0 < M := by omega
  have hxa : (x.natAbs : Int) ≤ 24 * M := by omega
  obtain ⟨d, W, Z, z, f, hst, hMz, hz0, f1, f2, f3, f4, f5, f6, f7, z1, z2, z3⟩ := setup07 (L := L) hM hxa
  have hd := hst.hd
  have hMr : (1000 : Rat) ≤ (M : Rat) := icast_le hM
  have hMr' : (M : Rat) ≤ 1000000000 := icast_le hM'
  have hun : (0 : Int) < un := by decide
  have hunr : ((un : Int) : Rat) = 1000000000000 := rfl
  -- the bracket
  have hsq : (((x * un) ^ 2 : Int) : Rat) = (2 * z) * (2 * z) * ((M * un : Int) : Rat) * ((M * un : Int) : Rat) := by
    have e1 : (x * un) ^ 2 = ((x.natAbs : Int) * un) * ((x.natAbs : Int) * un) := by
      have : (x * un) ^ 2 = (x * un) * (x * un) := by grind
      rw [this]
      rcases Int.le_total 0 x with h | h
      · rw [show (x.natAbs : Int) = x by omega]
      · rw [show (x.natAbs : Int) = -x by omega]; grind
    rw [e1, Rat.intCast_mul, Rat.intCast_mul, Rat.intCast_natCast, ← hMz, Rat.intCast_mul]
    grind
  have hsq0 : 0 ≤ (x * un) ^ 2 := by
    have : (x * un) ^ 2 = (x * un) * (x * un) := by grind
    rw [this]; exact sqn _
  obtain ⟨b0, b1, b2⟩ := brk_in hM0 hun hsq hsq0 f1 f2 f3 31 (Nat.le_refl _)
  rw [show 32 - 31 = 1 from rfl] at b1 b2
  have hU : ((M * un : Int) : Rat) = (M : Rat) * 1000000000000 := by rw [Rat.intCast_mul, hunr]
  have hU0 : (0 : Rat) < (M : Rat) * 1000000000000 := by grind
  rw [hU] at b1 b2
  have c2U : ((2 * M * un : Int) : Rat) = 2 * ((M : Rat) * 1000000000000) := by rw [Rat.intCast_mul, Rat.intCast_mul, hunr, show ((2 : Int) : Rat) = 2 from rfl]; grind
  obtain ⟨bn0, bn1⟩ := bndB_le hM hL hL2 hxa
  have bn0r : (0 : Rat) ≤ (bndB x M L : Rat) := Rat.intCast_nonneg.mpr bn0
  have bn1r : (bndB x M L : Rat) ≤ 1073741824 := icast_le bn1
  have hE1 := ex_one_le hd (show (0 : Int) ≤ 2 * (Z : Int) by omega)
  have hEp := ex_pos hd (2 * (Z : Int))
  -- the small number
  have hn : (1 : Rat) / 2 ^ 100 ≤ 1 / 1000000000000000000000000000000 := by
    refine rdiv_anti (by decide) (by decide) ?_
    have : (2 : Rat) ^ 100 = 1267650600228229401496703205376 := rfl
    rw [this]; decide
  have hn0 : (0 : Rat) ≤ 1 / 2 ^ 100 := rdiv_nonneg (by decide) (pow2pos _)
  generalize (1 : Rat) / 2 ^ 100 = n at *
  have cM6 : ((M * 10 ^ 6 : Int) : Rat) = (M : Rat) * 1000000 := by rw [Rat.intCast_mul]; rfl
  have hA : 0 < (M : Rat) * 1000000000000 * (2 + f 1 + 2 * z) := Rat.mul_pos hU0 (by have := f2 1; grind)
  have hBq : 0 < (M : Rat) * 1000000000000 * (2 + f 1 - 2 * z) := Rat.mul_pos hU0 f4
  have g5 := Rat.mul_le_mul_of_nonneg_left f5 (Rat.le_of_lt hU0)
  have g6 := Rat.mul_le_mul_of_nonneg_left f6 (Rat.le_of_lt hU0)
  have hnM : n * ((M : Rat) * 1000000 + (bndB x M L : Rat)) ≤ 1 / 2000 := by
    have := rmul hn0 (show (0 : Rat) ≤ 1000000000000001073741824 by decide) hn (show (M : Rat) * 1000000 + (bndB x M L : Rat) ≤ 1000000000000001073741824 by grind)
    grind
  have hfb : (((bk x M).1 : Int) : Rat) = (((brk ((x * un) ^ 2) M un 31).1 : Int) : Rat) := rfl
  have hsb : (((bk x M).2 : Int) : Rat) = (((brk ((x * un) ^ 2) M un 31).2 : Int) : Rat) := rfl
  rcases hx with ⟨hx0, hx8⟩ | ⟨hx0, hx24⟩
  · -- from nought on
    have habs : (x.natAbs : Rat) = (x : Rat) := by
      obtain ⟨m, rfl⟩ := Int.eq_ofNat_of_zero_le hx0
      rw [Rat.intCast_natCast]; simp
    rw [habs] at hMz
    have hx8r : (x : Rat) ≤ 8 * (M : Rat) := by have := icast_le hx8; rwa [Rat.intCast_mul] at this
    have hz4 : z ≤ 4 := by
      refine div_le' (show (0 : Rat) < 2 * (M : Rat) by grind) ?_
      grind
    have hE16 := z3 hz4
    have hX64 : (2 * z) * (2 * z) ≤ 64 := by have := rmul hz0 (show (0 : Rat) ≤ 4 by decide) hz4 hz4; grind
    have hwid := brk_width hM0 hun hsq hsq0 f1 f2 f3 hX64
    rw [Rat.intCast_sub, hU] at hwid
    have cx : ((x * un : Int) : Rat) = (M : Rat) * 1000000000000 * (2 * z) := by rw [Rat.intCast_mul, hunr, ← hMz]; grind
    have eL : wLo x M = (bk x M).2 + 2 * M * un := by unfold wLo; rw [if_pos hx0]
    have eH : wHi x M = (bk x M).1 + 2 * M * un := by unfold wHi; rw [if_pos hx0]
    have cL : ((wLo x M : Int) : Rat) = (((brk ((x * un) ^ 2) M un 31).2 : Int) : Rat) + 2 * ((M : Rat) * 1000000000000) := by rw [eL, Rat.intCast_add, c2U, hsb]
    have cH : ((wHi x M : Int) : Rat) = (((brk ((x * un) ^ 2) M un 31).1 : Int) : Rat) + 2 * ((M : Rat) * 1000000000000) := by rw [eH, Rat.intCast_add, c2U, hfb]
    have pH : (0 : Rat) < ((wHi x M : Int) : Rat) - (M : Rat) * 1000000000000 * (2 * z) := by
      rw [cH]
      have h1 : 1 ≤ 65536 * (2 + f 1 - 2 * z) := by
        have := Rat.mul_le_mul_of_nonneg_right hE16 (Rat.le_of_lt f4)
        grind
      have h2 := Rat.mul_le_mul_of_nonneg_left h1 (Rat.le_of_lt hU0)
      generalize (((brk ((x * un) ^ 2) M un 31).1 : Int) : Rat) = l at *
      generalize (((brk ((x * un) ^ 2) M un 31).2 : Int) : Rat) = hh at *
      have h3 : (M : Rat) * 1000000000000 / 33554432 = (M : Rat) * 1000000000000 * (1 / 33554432) := by grind
      rw [h3] at hwid
      have hU15 : 1000000000000000 ≤ (M : Rat) * 1000000000000 := by grind
      generalize (M : Rat) * 1000000000000 = U at *
      clear f1 z1 z2 z3 hst hsq
      grind
    have pL : (0 : Rat) < ((wLo x M : Int) : Rat) - (M : Rat) * 1000000000000 * (2 * z) := by
      rw [cL]
      generalize (((brk ((x * un) ^ 2) M un 31).2 : Int) : Rat) = hh at *
      grind
    have iH : 0 < wHi x M - x * un := by
      refine Rat.intCast_pos.mp ?_
      rw [Rat.intCast_sub, cx]; exact pH
    have iL : 0 < wLo x M - x * un := by
      refine Rat.intCast_pos.mp ?_
      rw [Rat.intCast_sub, cx]; exact pL
    refine ⟨iL, iH, fun _ => ?_, fun h => by omega⟩
    have w := pos07 hst hM hM' hL hL2 hx0 hx8
    rw [z1 hx0] at w
    have xu0 : 0 ≤ (M : Rat) * 1000000000000 * (2 * z) := Rat.mul_nonneg (Rat.le_of_lt hU0) (by first | with_reducible assumption | with_reducible exact Rat.le_of_lt (by assumption) | grind)
    have q1 := (fdiv_rat (a := M * 10 ^ 6 * (wLo x M + x * un)) iL).1
    have q2 := (fdiv_rat (a := M * 10 ^ 6 * (wHi x M + x * un)) iH).2
    rw [Rat.intCast_mul, cM6, Rat.intCast_add, Rat.intCast_sub, cx] at q1 q2
    have hM6 : (0 : Rat) < (M : Rat) * 1000000 := by grind
    have l1 : ((eLo x M : Int) : Rat) * ((M : Rat) * 1000000000000 * (2 + f 1 - 2 * z)) ≤ (M : Rat) * 1000000 * ((M : Rat) * 1000000000000 * (2 + f 1 + 2 * z)) := by
      have := quot_lo (w := (M : Rat) * 1000000000000 * (2 + f 1)) (Rat.le_of_lt hM6) xu0 (by rw [cL]; grind) (by first | with_reducible assumption | with_reducible exact Rat.le_of_lt (by assumption) | grind) q1
      have e1 : (M : Rat) * 1000000000000 * (2 + f 1) - (M : Rat) * 1000000000000 * (2 * z) = (M : Rat) * 1000000000000 * (2 + f 1 - 2 * z) := by grind
      have e2 : (M : Rat) * 1000000000000 * (2 + f 1) + (M : Rat) * 1000000000000 * (2 * z) = (M : Rat) * 1000000000000 * (2 + f 1 + 2 * z) := by grind
      rw [e1, e2] at this
      exact this
    have l2 : (M : Rat) * 1000000 * ((M : Rat) * 1000000000000 * (2 + f 1 + 2 * z)) ≤ ((eHi x M : Int) : Rat) * ((M : Rat) * 1000000000000 * (2 + f 1 - 2 * z)) := by
      have hq : (M : Rat) * 1000000 * (((wHi x M : Int) : Rat) + (M : Rat) * 1000000000000 * (2 * z)) ≤ ((eHi x M : Int) : Rat) * (((wHi x M : Int) : Rat) - (M : Rat) * 1000000000000 * (2 * z)) := by
        have e : ((eHi x M : Int) : Rat) = (((M * 10 ^ 6 * (wHi x M + x * un)).fdiv (wHi x M - x * un) : Int) : Rat) + 1 := by unfold eHi; rw [Rat.intCast_add]; rfl
        rw [e]; grind
      have := quot_hi (w := (M : Rat) * 1000000000000 * (2 + f 1)) (Rat.le_of_lt hM6) xu0 (by rw [cH]; grind) pH hq
      have e1 : (M : Rat) * 1000000000000 * (2 + f 1) - (M : Rat) * 1000000000000 * (2 * z) = (M : Rat) * 1000000000000 * (2 + f 1 - 2 * z) := by grind
      have e2 : (M : Rat) * 1000000000000 * (2 + f 1) + (M : Rat) * 1000000000000 * (2 * z) = (M : Rat) * 1000000000000 * (2 + f 1 + 2 * z) := by grind
      rw [e1, e2] at this
      exact this
    have q3 := (fdiv_rat (a := eHi x M * bndB x M L) (b := 10 ^ 6 * M) (by first | with_reducible assumption | with_reducible exact Int.le_of_lt (by assumption) | with_reducible exact Nat.le_of_lt (by assumption) | omega)).2
    rw [Rat.intCast_mul, Rat.intCast_mul (10 ^ 6), show ((10 ^ 6 : Int) : Rat) = 1000000 from rfl] at q3
    obtain ⟨w1, w2⟩ := w
    have b3 : ((eHi x M : Int) : Rat) * (bndB x M L : Rat) ≤ ((((eHi x M * bndB x M L).fdiv (10 ^ 6 * M) : Int) : Rat) + 1) * ((M : Rat) * 1000000) := by grind
    have tE : ((10 ^ 6 * iexp x M L : Int) : Rat) = 1000000 * (iexp x M L : Rat) := by rw [Rat.intCast_mul]; rfl
    have dn := down_side (told := 1000000 * (iexp x M L : Rat)) hM6 hBq hEp hn0 bn0r l1 l2 (by first | with_reducible assumption | with_reducible exact Rat.le_of_lt (by assumption) | grind) (by first | with_reducible assumption | with_reducible exact Rat.le_of_lt (by assumption) | grind) b3 (by first | with_reducible assumption | with_reducible exact Rat.le_of_lt (by assumption) | grind) (by first | with_reducible assumption | with_reducible exact Rat.le_of_lt (by assumption) | grind)
    have up := up_side (told := 1000000 * (iexp x M L : Rat)) hM6 hBq hEp hn0 bn0r l2 (by first | with_reducible assumption | with_reducible exact Rat.le_of_lt (by assumption) | grind) b3 (by first | with_reducible assumption | with_reducible exact Rat.le_of_lt (by assumption) | grind) (by first | with_reducible assumption | with_reducible exact Rat.le_of_lt (by assumption) | grind)
    constructor
    · refine Rat.intCast_le_intCast.mp ?_
      rw [tE, Rat.intCast_sub, Rat.intCast_add, show ((1 : Int) : Rat) = 1 from rfl]
      exact dn
    · refine Rat.intCast_le_intCast.mp ?_
      rw [tE, Rat.intCast_add, Rat.intCast_add, show ((1 : Int) : Rat) = 1 from rfl]
      exact up
  · -- below
    have habs : (x.natAbs : Rat) = -(x : Rat) := by
      obtain ⟨m, hm⟩ := Int.eq_ofNat_of_zero_le (show 0 ≤ -x by omega)
      have : x = -(m : Int) := by omega
      subst this
      rw [show (-(m : Int)).natAbs = m by omega, Rat.intCast_neg, Rat.intCast_natCast]; grind
    rw [habs] at hMz
    have cx : ((x * un : Int) : Rat) = -((M : Rat) * 1000000000000 * (2 * z)) := by rw [Rat.intCast_mul, hunr]; grind
    have eL : wLo x M = (bk x M).1 + 2 * M * un := by unfold wLo; rw [if_neg (by first | with_reducible assumption | with_reducible exact Int.le_of_lt (by assumption) | with_reducible exact Nat.le_of_lt (by assumption) | omega)]
    have eH : wHi x M = (bk x M).2 + 2 * M * un := by unfold wHi; rw [if_neg (by first | with_reducible assumption | with_reducible exact Int.le_of_lt (by assumption) | with_reducible exact Nat.le_of_lt (by assumption) | omega)]
    have cL : ((wLo x M : Int) : Rat) = (((brk ((x * un) ^ 2) M un 31).1 : Int) : Rat) + 2 * ((M : Rat) * 1000000000000) := by rw [eL, Rat.intCast_add, c2U, hfb]
    have cH : ((wHi x M : Int) : Rat) = (((brk ((x * un) ^ 2) M un 31).2 : Int) : Rat) + 2 * ((M : Rat) * 1000000000000) := by rw [eH, Rat.intCast_add, c2U, hsb]
    have b0r : (0 : Rat) ≤ (((brk ((x * un) ^ 2) M un 31).1 : Int) : Rat) := Rat.intCast_nonneg.mpr b0
    have xu0 : 0 ≤ (M : Rat) * 1000000000000 * (2 * z) := Rat.mul_nonneg (Rat.le_of_lt hU0) (by first | with_reducible assumption | with_reducible exact Rat.le_of_lt (by assumption) | grind)
    have pL : (0 : Rat) < ((wLo x M : Int) : Rat) + (M : Rat) * 1000000000000 * (2 * z) := by rw [cL]; grind
    have pH : (0 : Rat) < ((wHi x M : Int) : Rat) + (M : Rat) * 1000000000000 * (2 * z) := by rw [cH]; grind
    have iH : 0 < wHi x M - x * un := by
      refine Rat.intCast_pos.mp ?_
      rw [Rat.intCast_sub, cx]; grind
    have iL : 0 < wLo x M - x * un := by
      refine Rat.intCast_pos.mp ?_
      rw [Rat.intCast_sub, cx]; grind
    refine ⟨iL, iH, fun h => by omega, fun _ => ?_⟩
    have w := neg07 hst hM hM' hL hL2 hx0 hx24
    rw [z2 hx0] at w
    have q1 := (fdiv_rat (a := M * 10 ^ 6 * (wLo x M + x * un)) iL).1
    have q2 := (fdiv_rat (a := M * 10 ^ 6 * (wHi x M + x * un)) iH).2
    rw [Rat.intCast_mul, cM6, Rat.intCast_add, Rat.intCast_sub, cx] at q1 q2
    have hM6 : (0 : Rat) < (M : Rat) * 1000000 := by grind
    have hF := ex_pos hd (-(2 * (Z : Int)))
    have hEF := ex_neg hd (2 * (Z : Int))
    have e1 : (M : Rat) * 1000000000000 * (2 + f 1) - (M : Rat) * 1000000000000 * (2 * z) = (M : Rat) * 1000000000000 * (2 + f 1 - 2 * z) := by grind
    have e2 : (M : Rat) * 1000000000000 * (2 + f 1) + (M : Rat) * 1000000000000 * (2 * z) = (M : Rat) * 1000000000000 * (2 + f 1 + 2 * z) := by grind
    have l1 : ((eLo x M : Int) : Rat) * ((M : Rat) * 1000000000000 * (2 + f 1 + 2 * z)) ≤ (M : Rat) * 1000000 * ((M : Rat) * 1000000000000 * (2 + f 1 - 2 * z)) := by
      have hq : ((eLo x M : Int) : Rat) * (((wLo x M : Int) : Rat) + (M : Rat) * 1000000000000 * (2 * z)) ≤ (M : Rat) * 1000000 * (((wLo x M : Int) : Rat) - (M : Rat) * 1000000000000 * (2 * z)) := by
        have e : ((eLo x M : Int) : Rat) = (((M * 10 ^ 6 * (wLo x M + x * un)).fdiv (wLo x M - x * un) : Int) : Rat) := rfl
        rw [e]; grind
      have := quot_lo' (w := (M : Rat) * 1000000000000 * (2 + f 1)) (Rat.le_of_lt hM6) xu0 (by rw [cL]; grind) pL hq
      rw [e1, e2] at this
      exact this
    have l2 : (M : Rat) * 1000000 * ((M : Rat) * 1000000000000 * (2 + f 1 - 2 * z)) ≤ ((eHi x M : Int) : Rat) * ((M : Rat) * 1000000000000 * (2 + f 1 + 2 * z)) := by
      have hq : (M : Rat) * 1000000 * (((wHi x M : Int) : Rat) - (M : Rat) * 1000000000000 * (2 * z)) ≤ ((eHi x M : Int) : Rat) * (((wHi x M : Int) : Rat) + (M : Rat) * 1000000000000 * (2 * z)) := by
        have e : ((eHi x M : Int) : Rat) = (((M * 10 ^ 6 * (wHi x M + x * un)).fdiv (wHi x M - x * un) : Int) : Rat) + 1 := by unfold eHi; rw [Rat.intCast_add]; rfl
        rw [e]; grind
      have := quot_hi' (w := (M : Rat) * 1000000000000 * (2 + f 1)) (Rat.le_of_lt hM6) xu0 (by rw [cH]; grind) (by first | with_reducible assumption | with_reducible exact Rat.le_of_lt (by assumption) | grind) hq
      rw [e1, e2] at this
      exact this
    have hnM2 : n * ((M : Rat) * 1000000) ≤ 1 / 1000 := by have := Rat.mul_nonneg hn0 bn0r; grind
    have w' : Wi (1000000 * (iexp x M L : Rat) - (M : Rat) * 1000000 * ex d (-(2 * (Z : Int)))) ((bndB x M L : Rat) - 1 / 1000) := by
      obtain ⟨w1, w2⟩ := w
      constructor <;> grind
    obtain ⟨r1, r2⟩ := neg_sides hM6 hA hE1 hF hEF hn0 l1 l2 (by first | with_reducible assumption | with_reducible exact Rat.le_of_lt (by assumption) | grind) (by first | with_reducible assumption | with_reducible exact Rat.le_of_lt (by assumption) | grind) w' hnM2
    have tE : ((10 ^ 6 * iexp x M L : Int) : Rat) = 1000000 * (iexp x M L : Rat) := by rw [Rat.intCast_mul]; rfl
    constructor
    · refine Rat.intCast_le_intCast.mp ?_
      rw [tE, Rat.intCast_sub]; exact r1
    · refine Rat.intCast_le_intCast.mp ?_
      rw [tE, Rat.intCast_add]; exact r2


section comp
variable {prog : Program} {w : World} {name : Str} {sc : Scope} {L : Addr} {a : Option Addr × Option Addr} {cd : Value} {cs : List (Str × Addr)}

end comp


section comp
variable {prog : Program} {w : World} {hB h₀ : Heap} {mg mb : Str → Option Value} {us : Us} {N : List Str} {sc : Scope} {Γ : Str → List D → D → Prop} {n : Nat} {name : Str} {L : Addr} {a : Option Addr × Option Addr} {cd : Value} {cs : List (Str × Addr)}

end comp
/-! numbers drawn from the script -/
theorem abs_if (a : Int) : (if a < 0 then -a else a) = (a.natAbs : Int) := by split <;> omega
section
variable {Γ : Str → List D → D → Prop} {ns : List Int} {ρ : List D} {P : D → Prop} {e e2 : E}
/-- if script -/
theorem if_script (hl : ns.length ≤ 63) (h1 : ns ≠ [] → wp Γ e (.list (ns.map .int) :: ρ) P) (h2 : ns = [] → wp Γ e2 (.list (ns.map .int) :: ρ) P) : wp Γ (.ite (.var 0) e e2) (.list (ns.map .int) :: ρ) P := by
  simp only [wlit, wbo, wvar, wbin, wneg, wnot, wcmp, wcmp2, wany, wite, wcall, wbi, wisI, wisB, wlst, wtup, widx, wslc, wand, wor, wnil, wcons, snil, srais, sret, sset, sset2, saug, site, Mine.get, binW, cmpW, biW, truth, isBP, isIP, intP, Mine.ii, ibP, ilP, slP, tlP, lP, tP, Mine.l1, Mine.l2, Mine.l3, t2P, t3P, augW, Mine.onN, cutP, partP, E.isNil, List.isEmpty_nil, List.isEmpty_cons, List.set, ne_eq, reduceCtorEq, not_false_eq_true, true_and, and_true, if_true, if_false, Bool.false_eq_true, Option.some.injEq, exists_eq_left', Bool.not_true, Bool.not_false]
  rw [if_pos (by rw [List.length_map]; omega)]
  refine ⟨_, rfl, ?_⟩
  cases ns with
  | nil => exact h2 rfl
  | cons a r => exact h1 (by simp)
/-- if len(script) > i -/
theorem if_len {i : Int} (hl : ns.length ≤ 63) (h1 : i < ns.length → wp Γ e (.list (ns.map .int) :: ρ) P) (h2 : ¬ i < ns.length → wp Γ e2 (.list (ns.map .int) :: ρ) P) :
    wp Γ (.ite (.cmp .Gt (.bi .len (.cons (.var 0) .nil)) (.lit i)) e e2) (.list (ns.map .int) :: ρ) P := by
  simp only [wlit, wbo, wvar, wbin, wneg, wnot, wcmp, wcmp2, wany, wite, wcall, wbi, wisI, wisB, wlst, wtup, widx, wslc, wand, wor, wnil, wcons, snil, srais, sret, sset, sset2, saug, site, Mine.get, binW, cmpW, biW, truth, isBP, isIP, intP, Mine.ii, ibP, ilP, slP, tlP, lP, tP, Mine.l1, Mine.l2, Mine.l3, t2P, t3P, augW, Mine.onN, cutP, partP, E.isNil, List.isEmpty_nil, List.isEmpty_cons, List.set, ne_eq, reduceCtorEq, not_false_eq_true, true_and, and_true, if_true, if_false, Bool.false_eq_true, Option.some.injEq, exists_eq_left', Bool.not_true, Bool.not_false]
  refine ⟨by rw [List.length_map]; omega, ?_⟩
  rw [List.length_map]
  by_cases h : i < ns.length
  · rw [if_pos (by simpa using h)]; exact h1 h
  · rw [if_neg (by simpa using h)]; exact h2 h
/-- abs(script[i]) % c -/
theorem draw_mod {i c : Int} (hl : ns.length ≤ 63) (hi : 0 ≤ i) (hi2 : i < ns.length) (hc : 0 < c) {ec : E} (hec : ∀ P' : D → Prop, P' (.int c) → wp Γ ec (.list (ns.map .int) :: ρ) P') (h : ∀ v : Int, 0 ≤ v → v < c → P (.int v)) :
    wp Γ (.bin .Mod (.bi .abs (.cons (.idx (.var 0) (.lit i)) .nil)) ec) (.list (ns.map .int) :: ρ) P := by
  simp only [wlit, wbo, wvar, wbin, wneg, wnot, wcmp, wcmp2, wany, wite, wcall, wbi, wisI, wisB, wlst, wtup, widx, wslc, wand, wor, wnil, wcons, snil, srais, sret, sset, sset2, saug, site, Mine.get, binW, cmpW, biW, truth, isBP, isIP, intP, Mine.ii, ibP, ilP, slP, tlP, lP, tP, Mine.l1, Mine.l2, Mine.l3, t2P, t3P, augW, Mine.onN, cutP, partP, E.isNil, List.isEmpty_nil, List.isEmpty_cons, List.set, ne_eq, reduceCtorEq, not_false_eq_true, true_and, and_true, if_true, if_false, Bool.false_eq_true, Option.some.injEq, exists_eq_left', Bool.not_true, Bool.not_false]
  refine idxI hi hi2 (by first | with_reducible assumption | with_reducible exact Int.le_of_lt (by assumption) | with_reducible exact Nat.le_of_lt (by assumption) | omega) ?_
  simp only [wlit, wbo, wvar, wbin, wneg, wnot, wcmp, wcmp2, wany, wite, wcall, wbi, wisI, wisB, wlst, wtup, widx, wslc, wand, wor, wnil, wcons, snil, srais, sret, sset, sset2, saug, site, Mine.get, binW, cmpW, biW, truth, isBP, isIP, intP, Mine.ii, ibP, ilP, slP, tlP, lP, tP, Mine.l1, Mine.l2, Mine.l3, t2P, t3P, augW, Mine.onN, cutP, partP, E.isNil, List.isEmpty_nil, List.isEmpty_cons, List.set, ne_eq, reduceCtorEq, not_false_eq_true, true_and, and_true, if_true, if_false, Bool.false_eq_true, Option.some.injEq, exists_eq_left', Bool.not_true, Bool.not_false]
  refine hec _ ?_
  simp only [intP]
  rw [abs_if, Int.fmod_eq_emod_of_nonneg _ (by first | with_reducible assumption | with_reducible exact Int.le_of_lt (by assumption) | with_reducible exact Nat.le_of_lt (by assumption) | omega)]
  exact ⟨by omega, h _ (Int.emod_nonneg _ (by first | with_reducible assumption | with_reducible exact Int.le_of_lt (by assumption) | with_reducible exact Nat.le_of_lt (by assumption) | omega)) (Int.emod_lt_of_pos _ hc)⟩
end

noncomputable def n_lawexp : List Str := ["x", "M", "unit", "square", "low", "high", "k", "step"]
noncomputable def p_lawexp : List Str := ["x", "M"]
noncomputable def u_lawexp : List B := [.range]
noncomputable def s_lawexp_1b : S :=
  (.set 7 (.bin .Mult (.bin .Mult (.bin .Add (.bin .Mult (.lit 4) (.var 6)) (.lit 2)) (.var 1)) (.var 2))
  (.set2 4 5 (.tup (.cons (.bin .FloorDiv (.var 3) (.bin .Add (.var 7) (.var 5))) (.cons (.bin .Add (.bin .FloorDiv (.var 3) (.bin .Add (.var 7) (.var 4))) (.lit 1)) .nil)))
  .nil))
noncomputable def s_lawexp_2j : S :=
  (.set2 4 5 (.tup (.cons (.bin .Add (.var 4) (.bin .Mult (.bin .Mult (.lit 2) (.var 1)) (.var 2))) (.cons (.bin .Add (.var 5) (.bin .Mult (.bin .Mult (.lit 2) (.var 1)) (.var 2))) .nil)))
  (.set2 0 1 (.tup (.cons (.bin .Mult (.var 0) (.var 2)) (.cons (.bin .Mult (.var 1) (.bin .Pow (.lit 10) (.lit 6))) .nil)))
  (.ret (.tup (.cons (.bin .FloorDiv (.bin .Mult (.var 1) (.bin .Add (.var 4) (.var 0))) (.bin .Sub (.var 4) (.var 0))) (.cons (.bin .Add (.bin .FloorDiv (.bin .Mult (.var 1) (.bin .Add (.var 5) (.var 0))) (.bin .Sub (.var 5) (.var 0))) (.lit 1)) .nil))))))
noncomputable def s_lawexp_1r : S :=
  (.ite (.cmp .GtE (.var 0) (.lit 0))
    (.set2 4 5 (.tup (.cons (.var 5) (.cons (.var 4) .nil)))
    .nil)
    .nil
  s_lawexp_2j)
noncomputable def s_lawexp_1 : S := .forR 6 (.cons (.lit 31) (.cons (.lit 0) (.cons (.neg (.lit 1)) .nil))) s_lawexp_1b s_lawexp_1r
noncomputable def s_lawexp : S :=
  (.set 2 (.bin .Pow (.lit 10) (.lit 12))
  (.set 3 (.bin .Pow (.bin .Mult (.var 0) (.var 2)) (.lit 2))
  (.set2 4 5 (.tup (.cons (.lit 0) (.cons (.bin .Add (.bin .FloorDiv (.var 3) (.bin .Mult (.bin .Mult (.lit 130) (.var 1)) (.var 2))) (.lit 1)) .nil)))
  s_lawexp_1)))

noncomputable def n_lawbound : List Str := ["x", "M", "L", "size", "rows", "product", "turns", "total", "m", "b", "left", "series", "most"]
noncomputable def p_lawbound : List Str := ["x", "M", "L"]
noncomputable def u_lawbound : List B := [.abs, .len, .str]
noncomputable def s_lawbound_1b : S :=
  (.aug 4 .Add (.lit 1)
  (.aug 5 .Mult (.bin .Add (.var 4) (.lit 1))
  .nil))
noncomputable def s_lawbound_2b : S :=
  (.set 8 (.bin .Mult (.lit 32) (.bin .LShift (.var 1) (.var 6)))
  (.set 9 (.ite (.cmp .GtE (.var 0) (.lit 0)) (.var 3) (.bin .Mult (.var 3) (.bin .Sub (.bin .Pow (.lit 2) (.var 6)) (.lit 1))))
  (.aug 7 .Add (.bin .Add (.bin .FloorDiv (.bin .Mult (.bin .Pow (.lit 10) (.lit 6)) (.bin .Pow (.var 8) (.lit 32))) (.bin .Mult (.lit 2) (.bin .Pow (.bin .Add (.var 8) (.var 9)) (.lit 32)))) (.lit 1))
  (.aug 6 .Add (.lit 1)
  .nil))))
noncomputable def s_lawbound_3j : S :=
  (.set 12 (.bin .Add (.bin .Mult (.lit 500000) (.bin .Add (.var 6) (.lit 5))) (.var 10))
  (.ret (.bin .Add (.bin .Add (.bin .Add (.var 7) (.var 11)) (.bin .FloorDiv (.bin .Mult (.var 12) (.var 12)) (.bin .Mult (.bin .Mult (.lit 2) (.var 1)) (.bin .Pow (.lit 10) (.lit 6))))) (.lit 1))))
noncomputable def s_lawbound_2r : S :=
  (.set 10 (.bin .Add (.bin .FloorDiv (.bin .Mult (.bin .Pow (.lit 10) (.lit 6)) (.bin .Pow (.var 3) (.bin .Add (.var 4) (.lit 1)))) (.bin .Mult (.var 5) (.bin .Pow (.bin .LShift (.var 1) (.var 6)) (.var 4)))) (.lit 1))
  (.set 11 (.bin .Add (.bin .Add (.bin .Add (.lit 500000) (.bin .FloorDiv (.lit 650000) (.bin .Pow (.lit 2) (.var 2)))) (.lit 1)) (.var 10))
  (.ite (.cmp .Lt (.var 0) (.lit 0))
    (.set 8 (.bin .Mult (.lit 32) (.bin .LShift (.var 1) (.var 6)))
    (.set 11 (.bin .Add (.bin .FloorDiv (.bin .Mult (.var 11) (.bin .Pow (.var 8) (.lit 32))) (.bin .Pow (.bin .Add (.var 8) (.bin .Mult (.var 3) (.bin .Sub (.bin .Pow (.lit 2) (.var 6)) (.lit 1)))) (.lit 32))) (.lit 1))
    .nil))
    .nil
  s_lawbound_3j)))
noncomputable def s_lawbound_2 : S := .whl (.cmp .Lt (.bin .LShift (.var 1) (.var 6)) (.bin .Add (.bin .LShift (.var 3) (.var 2)) (.ite (.cmp .Lt (.var 0) (.lit 0)) (.var 1) (.lit 1)))) s_lawbound_2b s_lawbound_2r
noncomputable def s_lawbound_1r : S :=
  (.set2 6 7 (.tup (.cons (.lit 0) (.cons (.lit 0) .nil)))
  s_lawbound_2)
noncomputable def s_lawbound_1 : S := .whl (.cmp .Lt (.bin .Mult (.bin .Mult (.lit 3) (.var 2)) (.var 4)) (.bin .Mult (.lit 10) (.bi .len (.cons (.bi .str (.cons (.var 1) .nil)) .nil)))) s_lawbound_1b s_lawbound_1r
noncomputable def s_lawbound : S :=
  (.set 3 (.bi .abs (.cons (.var 0) .nil))
  (.set2 4 5 (.tup (.cons (.lit 1) (.cons (.lit 2) .nil)))
  s_lawbound_1))

noncomputable def n_law : List Str := ["script", "M", "L", "v", "x", "told", "low", "high", "bound"]
noncomputable def u_law : List B := [(.fn "_iexp"), (.fn "_law_bound"), (.fn "_law_exp"), .abs, .bool, .int, .isinstance, .len, .list]
noncomputable def s_law_3j : S :=
  (.ite (.not (.cmp2 (.bin .Sub (.var 6) (.var 8)) .LtE (.bin .Mult (.bin .Pow (.lit 10) (.lit 6)) (.var 5)) .LtE (.bin .Add (.var 7) (.var 8))))
    (.ret (.bo false))
    .nil
  .nil)
noncomputable def s_law_2j : S :=
  (.set 5 (.call "_iexp" (.cons (.var 4) (.cons (.var 1) (.cons (.var 2) .nil))))
  (.ite (.any (.cons (.isB (.var 5)) (.cons (.not (.isI (.var 5))) .nil)))
    (.ret (.bo false))
    .nil
  (.set2 6 7 (.call "_law_exp" (.cons (.var 4) (.cons (.var 1) .nil)))
  (.set 8 (.call "_law_bound" (.cons (.var 4) (.cons (.var 1) (.cons (.var 2) .nil))))
  (.ite (.cmp .GtE (.var 4) (.lit 0))
    (.set 8 (.bin .Add (.bin .FloorDiv (.bin .Mult (.var 7) (.var 8)) (.bin .Mult (.bin .Pow (.lit 10) (.lit 6)) (.var 1))) (.lit 1))
    .nil)
    .nil
  s_law_3j)))))
noncomputable def s_law_1b : S :=
  (.set 4 (.bin .Mod (.bin .Mult (.bi .abs (.cons (.var 3) .nil)) (.bin .Add (.bin .FloorDiv (.var 1) (.lit 7)) (.lit 1))) (.bin .Mult (.ite (.cmp .GtE (.var 3) (.lit 0)) (.lit 8) (.lit 24)) (.var 1)))
  (.ite (.cmp .Lt (.var 3) (.lit 0))
    (.set 4 (.neg (.var 4))
    .nil)
    .nil
  s_law_2j))
noncomputable def s_law_1r : S :=
  (.ret (.bo true))
noncomputable def s_law_1 : S := .forL 3 (.bin .Add (.lst (.cons (.lit 7) (.cons (.neg (.lit 5)) (.cons (.neg (.lit 60)) .nil)))) (.bi .list (.cons (.slc (.var 0) (.lit 2) (.lit 4)) .nil))) s_law_1b s_law_1r
noncomputable def s_law : S :=
  (.set 1 (.ite (.var 0) (.bin .Add (.lit 1000) (.bin .Mod (.bi .abs (.cons (.idx (.var 0) (.lit 0)) .nil)) (.bin .Sub (.bin .Pow (.lit 10) (.lit 9)) (.lit 999)))) (.lit 1000))
  (.set 2 (.ite (.cmp .Gt (.bi .len (.cons (.var 0) .nil)) (.lit 1)) (.bin .Add (.lit 2) (.bin .Mod (.bi .abs (.cons (.idx (.var 0) (.lit 1)) .nil)) (.lit 11))) (.lit 3))
  s_law_1))


theorem sz {a : Int} (k : Nat) (h1 : -(2 ^ k) < a) (h2 : a < 2 ^ k) : a.natAbs < 2 ^ k := by
  have : ((2 ^ k : Nat) : Int) = 2 ^ k := by norm_cast
  omega
theorem szm {a b : Int} {i j : Nat} (ha : a.natAbs < 2 ^ i) (hb : b.natAbs < 2 ^ j) : (a * b).natAbs < 2 ^ (i + j) := by
  rw [Int.natAbs_mul, Nat.pow_add]
  exact Nat.mul_lt_mul'' ha hb
theorem szp {a : Int} {i : Nat} (ha : a.natAbs < 2 ^ i) (k : Nat) (hk : 0 < k) : (a ^ k).natAbs < 2 ^ (i * k) := by
  rw [Int.natAbs_pow, Nat.pow_mul]
  exact Nat.pow_lt_pow_left ha (by first | with_reducible assumption | with_reducible exact Int.le_of_lt (by assumption) | with_reducible exact Nat.le_of_lt (by assumption) | omega)
theorem fdiv_le_self {a b : Int} (ha : 0 ≤ a) (hb : 0 < b) : a.fdiv b ≤ a := by
  rw [Int.fdiv_eq_ediv_of_nonneg _ (by first | with_reducible assumption | with_reducible exact Int.le_of_lt (by assumption) | with_reducible exact Nat.le_of_lt (by assumption) | omega)]
  exact Int.ediv_le_of_le_mul hb (by have := Int.mul_le_mul_of_nonneg_left (show 1 ≤ b by omega) ha; omega)
theorem brk_sz {sq M u : Int} (hM : 0 < M) (hu : 0 < u) (hsq : 0 ≤ sq) : ∀ i, i ≤ 31 → 0 ≤ (brk sq M u i).1 ∧ (brk sq M u i).1 ≤ sq ∧ 0 ≤ (brk sq M u i).2 ∧ (brk sq M u i).2 ≤ sq + 1
  | 0, _ => by
    have hp : 0 < 130 * M * u := Int.mul_pos (by first | with_reducible assumption | with_reducible exact Int.le_of_lt (by assumption) | with_reducible exact Nat.le_of_lt (by assumption) | omega) hu
    have h1 : 0 ≤ sq.fdiv (130 * M * u) := Int.fdiv_nonneg hsq (by first | with_reducible assumption | with_reducible exact Int.le_of_lt (by assumption) | with_reducible exact Nat.le_of_lt (by assumption) | omega)
    have h2 := fdiv_le_self hsq hp
    show 0 ≤ (0 : Int) ∧ (0 : Int) ≤ sq ∧ 0 ≤ sq.fdiv (130 * M * u) + 1 ∧ sq.fdiv (130 * M * u) + 1 ≤ sq + 1
    omega
  | i + 1, hi => by
    obtain ⟨a1, a2, a3, a4⟩ := brk_sz hM hu hsq i (by first | with_reducible assumption | with_reducible exact Int.le_of_lt (by assumption) | with_reducible exact Nat.le_of_lt (by assumption) | omega)
    have hst : 0 < (4 * (31 + (i : Int) * -1) + 2) * M * u := Int.mul_pos (Int.mul_pos (by first | with_reducible assumption | with_reducible exact Int.le_of_lt (by assumption) | with_reducible exact Nat.le_of_lt (by assumption) | omega) hM) hu
    show 0 ≤ sq.fdiv ((4 * (31 + (i : Int) * -1) + 2) * M * u + (brk sq M u i).2) ∧ sq.fdiv ((4 * (31 + (i : Int) * -1) + 2) * M * u + (brk sq M u i).2) ≤ sq ∧ 0 ≤ sq.fdiv ((4 * (31 + (i : Int) * -1) + 2) * M * u + (brk sq M u i).1) + 1 ∧ sq.fdiv ((4 * (31 + (i : Int) * -1) + 2) * M * u + (brk sq M u i).1) + 1 ≤ sq + 1
    have h1 : 0 ≤ sq.fdiv ((4 * (31 + (i : Int) * -1) + 2) * M * u + (brk sq M u i).2) := Int.fdiv_nonneg hsq (by first | with_reducible assumption | with_reducible exact Int.le_of_lt (by assumption) | with_reducible exact Nat.le_of_lt (by assumption) | omega)
    have h2 : 0 ≤ sq.fdiv ((4 * (31 + (i : Int) * -1) + 2) * M * u + (brk sq M u i).1) := Int.fdiv_nonneg hsq (by first | with_reducible assumption | with_reducible exact Int.le_of_lt (by assumption) | with_reducible exact Nat.le_of_lt (by assumption) | omega)
    have h3 := fdiv_le_self hsq (show 0 < (4 * (31 + (i : Int) * -1) + 2) * M * u + (brk sq M u i).2 by omega)
    have h4 := fdiv_le_self hsq (show 0 < (4 * (31 + (i : Int) * -1) + 2) * M * u + (brk sq M u i).1 by omega)
    omega
theorem sub_sz {a b : Int} {n m : Nat} (hm : m = n + 1) (ha : a.natAbs < 2 ^ n) (hb : b.natAbs < 2 ^ n) : (a - b).natAbs < 2 ^ m := by
  have := add_sz hm ha (show (-b).natAbs < 2 ^ n by rw [Int.natAbs_neg]; exact hb)
  rwa [Int.sub_eq_add_neg]
theorem ltsz {a : Int} {k : Nat} (h : a.natAbs < 2 ^ k) : a < 2 ^ k := by
  have e : ((2 ^ k : Nat) : Int) = 2 ^ k := by norm_cast
  rw [← e]; omega
theorem szof {a : Int} {k : Nat} (h0 : 0 ≤ a) (h : a < 2 ^ k) : a.natAbs < 2 ^ k := by
  have e : ((2 ^ k : Nat) : Int) = 2 ^ k := by norm_cast
  rw [← e] at h; omega
theorem nz {a : Int} (h : 0 < a) : a ≠ 0 := by omega
theorem szM {M : Int} (hM : 1000 ≤ M) (hM' : M ≤ 10 ^ 9) : M.natAbs < 2 ^ 39 ∧ (2 * M).natAbs < 2 ^ 40 ∧ (M * 10 ^ 6).natAbs < 2 ^ 60 ∧ (130 * M).natAbs < 2 ^ 50 := by
  refine ⟨?_, ?_, ?_, ?_⟩ <;> omega
theorem szX {x M : Int} (hM' : M ≤ 10 ^ 9) (hx : (x.natAbs : Int) ≤ 24 * M) : x.natAbs < 2 ^ 40 := by omega
theorem un41 : un.natAbs < 2 ^ 41 := by decide
theorem b10_le (k : Int) (hk : 0 ≤ k) (hk' : k ≤ 1000) : (Builtin.Int.intBits 10 : Int) * k ≤ 2 ^ 27 := by
  have := intBits_le (a := 10) (k := 4) (by decide)
  have h2 := Int.mul_le_mul (show (Builtin.Int.intBits 10 : Int) ≤ 4 by omega) hk' hk (by decide)
  omega
theorem imo_l {a b : Int} (k : Nat) (h : a.natAbs < 2 ^ k) (hk : k ≤ 64 := by decide) : IntMulOk a b := .of_left (Nat.le_trans (intBits_le h) hk)
theorem exp_tail {Γ : Str → List D → D → Prop} {x M lo hi : Int} {d6 d7 d3 : D} (hM : 1000 ≤ M) (hM' : M ≤ 10 ^ 9) (hx : (x.natAbs : Int) ≤ 24 * M) (hlo : lo.natAbs < 2 ^ 300) (hhi : hi.natAbs < 2 ^ 300)
    (h1 : 0 < lo + 2 * M * un - x * un) (h2 : 0 < hi + 2 * M * un - x * un) :
    wpS Γ s_lawexp_2j [.int x, .int M, .int un, d3, .int lo, .int hi, d6, d7]
      (fun o _ => o = some (.tup [.int ((M * 10 ^ 6 * (lo + 2 * M * un + x * un)).fdiv (lo + 2 * M * un - x * un)), .int ((M * 10 ^ 6 * (hi + 2 * M * un + x * un)).fdiv (hi + 2 * M * un - x * un) + 1)])) := by
  obtain ⟨_, s1, s7, _⟩ := szM hM hM'
  have s4 := szX hM' hx
  clear hM hM' hx
  have s3 := bigger 81 300 (szm s1 un41)
  have s5 := bigger 81 301 (szm s4 un41)
  have l6 := sub_sz rfl (add_sz rfl hlo s3) s5
  have l7 := sub_sz rfl (add_sz rfl hhi s3) s5
  have e6 : (10 : Int) ^ (6 : Int).toNat = 10 ^ 6 := rfl
  unfold s_lawexp_2j
  simp only [wlit, wbo, wvar, wbin, wneg, wnot, wcmp, wcmp2, wany, wite, wcall, wbi, wisI, wisB, wlst, wtup, widx, wslc, wand, wor, wnil, wcons, snil, srais, sret, sset, sset2, saug, site, Mine.get, binW, cmpW, biW, truth, isBP, isIP, intP, Mine.ii, ibP, ilP, slP, tlP, lP, tP, Mine.l1, Mine.l2, Mine.l3, t2P, t3P, augW, Mine.onN, cutP, partP, E.isNil, List.isEmpty_nil, List.isEmpty_cons, List.set, ne_eq, reduceCtorEq, not_false_eq_true, true_and, and_true, if_true, if_false, Bool.false_eq_true, Option.some.injEq, exists_eq_left', Bool.not_true, Bool.not_false]
  rw [e6]
  refine ⟨mul2, imo_l 40 s1, mul2, imo_l 40 s1, by simp, imo_l 40 s4, by decide, b10_le 6 (by decide) (by decide), .of_right (by decide), by simp, imo_l 60 s7, nz h1, lg _ l6, imo_l 60 s7, nz h2, lg _ l7, by simp⟩
theorem exp_sq {x M : Int} (hM' : M ≤ 10 ^ 9) (hx : (x.natAbs : Int) ≤ 24 * M) : 0 ≤ (x * un) ^ 2 ∧ (x * un) ^ 2 < 2 ^ 162 := by
  have h9 := szp (szm (szX hM' hx) un41) 2 (by decide)
  refine ⟨?_, ltsz h9⟩
  have : (x * un) ^ 2 = (x * un) * (x * un) := by grind
  rw [this]; exact sqn _
theorem exp_turn {M sq lo hi : Int} {i : Nat} (hM : 1000 ≤ M) (hM' : M ≤ 10 ^ 9) (hi31 : i < 31) (h0 : 0 ≤ lo) (h1 : lo ≤ sq) (h2 : 0 ≤ hi) (h3 : hi ≤ sq + 1) (hsq : sq < 2 ^ 162) :
    IntMulOk (4 * (31 + (i : Int) * -1) + 2) M ∧ IntMulOk ((4 * (31 + (i : Int) * -1) + 2) * M) un ∧ 0 < (4 * (31 + (i : Int) * -1) + 2) * M * un + hi ∧ ((4 * (31 + (i : Int) * -1) + 2) * M * un + hi).natAbs < 2 ^ 164 ∧
      0 < (4 * (31 + (i : Int) * -1) + 2) * M * un + lo ∧ ((4 * (31 + (i : Int) * -1) + 2) * M * un + lo).natAbs < 2 ^ 164 := by
  have k1 : (4 * (31 + (i : Int) * -1) + 2).natAbs < 2 ^ 10 := by omega
  have k0 : 0 < 4 * (31 + (i : Int) * -1) + 2 := by omega
  have sM := (szM hM hM').1
  generalize 4 * (31 + (i : Int) * -1) + 2 = k at *
  have k2 := szm k1 sM
  have k3 := bigger 90 163 (szm k2 un41)
  have hst : 0 < k * M * un := Int.mul_pos (Int.mul_pos k0 (by first | with_reducible assumption | with_reducible exact Int.le_of_lt (by assumption) | with_reducible exact Nat.le_of_lt (by assumption) | omega)) (by decide)
  have n1 := add_sz rfl k3 (szof (k := 163) h2 (by first | with_reducible assumption | with_reducible exact Int.le_of_lt (by assumption) | with_reducible exact Nat.le_of_lt (by assumption) | omega))
  have n2 := add_sz rfl k3 (szof (k := 163) h0 (by first | with_reducible assumption | with_reducible exact Int.le_of_lt (by assumption) | with_reducible exact Nat.le_of_lt (by assumption) | omega))
  generalize k * M * un = st at *
  exact ⟨imo_l 10 k1, imo_l 49 k2, by omega, n1, by omega, n2⟩
theorem exp_body {Γ : Str → List D → D → Prop} (x M : Int) (hM : 1000 ≤ M) (hM' : M ≤ 10 ^ 9) (hx : (x.natAbs : Int) ≤ 24 * M) (h1 : 0 < wLo x M - x * un) (h2 : 0 < wHi x M - x * un) :
    wpS Γ s_lawexp [.int x, .int M, .undef, .undef, .undef, .undef, .undef, .undef] (fun o _ => o = some (.tup [.int (eLo x M), .int (eHi x M)])) := by
  have hM0 : 0 < M := by omega
  have hun : 0 < un := by decide
  have s4 := szX hM' hx
  have s6 := (szM hM hM').2.2.2
  have s7 := szm s6 un41
  have bxu := intBits_le (szm s4 un41)
  have e12 : (10 : Int) ^ (12 : Int).toNat = un := rfl
  have e2 : (x * un) ^ (2 : Int).toNat = (x * un) ^ 2 := rfl
  obtain ⟨hsq0, hsq1⟩ := exp_sq hM' hx
  unfold s_lawexp
  simp only [wlit, wbo, wvar, wbin, wneg, wnot, wcmp, wcmp2, wany, wite, wcall, wbi, wisI, wisB, wlst, wtup, widx, wslc, wand, wor, wnil, wcons, snil, srais, sret, sset, sset2, saug, site, Mine.get, binW, cmpW, biW, truth, isBP, isIP, intP, Mine.ii, ibP, ilP, slP, tlP, lP, tP, Mine.l1, Mine.l2, Mine.l3, t2P, t3P, augW, Mine.onN, cutP, partP, E.isNil, List.isEmpty_nil, List.isEmpty_cons, List.set, ne_eq, reduceCtorEq, not_false_eq_true, true_and, and_true, if_true, if_false, Bool.false_eq_true, Option.some.injEq, exists_eq_left', Bool.not_true, Bool.not_false]
  rw [e12, e2]
  have hbk := brk_sz hM0 hun hsq0
  have hcnt : cnt 31 0 (-1) = 31 := by decide
  have hb31 : bk x M = brk ((x * un) ^ 2) M un 31 := rfl
  generalize hsq : (x * un) ^ 2 = sq at *
  have hp130 : 0 < 130 * M * un := Int.mul_pos (by first | with_reducible assumption | with_reducible exact Int.le_of_lt (by assumption) | with_reducible exact Nat.le_of_lt (by assumption) | omega) hun
  refine ⟨by decide, b10_le 12 (by decide) (by decide), imo_l 40 s4, by decide, by omega, .of_left (by decide), imo_l 50 s6, nz hp130, lg _ s7, by simp, ?_⟩
  unfold s_lawexp_1
  refine forR_ok 31 0 (-1) ?_ (by decide) (by decide) (by decide) (fun i ρ => ∃ d6 d7, ρ = [.int x, .int M, .int un, .int sq, .int (brk sq M un i).1, .int (brk sq M un i).2, d6, d7]) ⟨_, _, rfl⟩ ?_ ?_
  · simp only [wlit, wbo, wvar, wbin, wneg, wnot, wcmp, wcmp2, wany, wite, wcall, wbi, wisI, wisB, wlst, wtup, widx, wslc, wand, wor, wnil, wcons, snil, srais, sret, sset, sset2, saug, site, Mine.get, binW, cmpW, biW, truth, isBP, isIP, intP, Mine.ii, ibP, ilP, slP, tlP, lP, tP, Mine.l1, Mine.l2, Mine.l3, t2P, t3P, augW, Mine.onN, cutP, partP, E.isNil, List.isEmpty_nil, List.isEmpty_cons, List.set, ne_eq, reduceCtorEq, not_false_eq_true, true_and, and_true, if_true, if_false, Bool.false_eq_true, Option.some.injEq, exists_eq_left', Bool.not_true, Bool.not_false]
    simp
  · rintro i ρ hi ⟨d6, d7, rfl⟩
    rw [hcnt] at hi
    obtain ⟨a1, a2, a3, a4⟩ := hbk i (by first | with_reducible assumption | with_reducible exact Int.le_of_lt (by assumption) | with_reducible exact Nat.le_of_lt (by assumption) | omega)
    obtain ⟨k1, k2, p1, n1, p2, n2⟩ := exp_turn (i := i) hM hM' (by first | with_reducible assumption | with_reducible exact Int.le_of_lt (by assumption) | with_reducible exact Nat.le_of_lt (by assumption) | omega) a1 a2 a3 a4 hsq1
    unfold s_lawexp_1b
    simp only [wlit, wbo, wvar, wbin, wneg, wnot, wcmp, wcmp2, wany, wite, wcall, wbi, wisI, wisB, wlst, wtup, widx, wslc, wand, wor, wnil, wcons, snil, srais, sret, sset, sset2, saug, site, Mine.get, binW, cmpW, biW, truth, isBP, isIP, intP, Mine.ii, ibP, ilP, slP, tlP, lP, tP, Mine.l1, Mine.l2, Mine.l3, t2P, t3P, augW, Mine.onN, cutP, partP, E.isNil, List.isEmpty_nil, List.isEmpty_cons, List.set, ne_eq, reduceCtorEq, not_false_eq_true, true_and, and_true, if_true, if_false, Bool.false_eq_true, Option.some.injEq, exists_eq_left', Bool.not_true, Bool.not_false]
    refine ⟨.of_left (by decide), k1, k2, nz p1, lg _ n1, nz p2, lg _ n2, by simp, _, _, rfl⟩
  · rintro ρ ⟨d6, d7, rfl⟩
    rw [hcnt]
    obtain ⟨a1, a2, a3, a4⟩ := hbk 31 (by decide)
    unfold s_lawexp_1r
    simp only [wlit, wbo, wvar, wbin, wneg, wnot, wcmp, wcmp2, wany, wite, wcall, wbi, wisI, wisB, wlst, wtup, widx, wslc, wand, wor, wnil, wcons, snil, srais, sret, sset, sset2, saug, site, Mine.get, binW, cmpW, biW, truth, isBP, isIP, intP, Mine.ii, ibP, ilP, slP, tlP, lP, tP, Mine.l1, Mine.l2, Mine.l3, t2P, t3P, augW, Mine.onN, cutP, partP, E.isNil, List.isEmpty_nil, List.isEmpty_cons, List.set, ne_eq, reduceCtorEq, not_false_eq_true, true_and, and_true, if_true, if_false, Bool.false_eq_true, Option.some.injEq, exists_eq_left', Bool.not_true, Bool.not_false]
    by_cases h0 : x ≥ 0
    · rw [if_pos (by simpa using h0)]
      have eL : wLo x M = (brk sq M un 31).2 + 2 * M * un := by unfold wLo; rw [if_pos h0, hb31]
      have eH : wHi x M = (brk sq M un 31).1 + 2 * M * un := by unfold wHi; rw [if_pos h0, hb31]
      unfold eLo eHi
      rw [eL] at h1 ⊢
      rw [eH] at h2 ⊢
      refine ⟨by simp, ?_⟩
      exact exp_tail hM hM' hx (szof a3 (by first | with_reducible assumption | with_reducible exact Int.le_of_lt (by assumption) | with_reducible exact Nat.le_of_lt (by assumption) | omega)) (szof a1 (by first | with_reducible assumption | with_reducible exact Int.le_of_lt (by assumption) | with_reducible exact Nat.le_of_lt (by assumption) | omega)) h1 h2
    · rw [if_neg (by simpa using h0)]
      have eL : wLo x M = (brk sq M un 31).1 + 2 * M * un := by unfold wLo; rw [if_neg h0, hb31]
      have eH : wHi x M = (brk sq M un 31).2 + 2 * M * un := by unfold wHi; rw [if_neg h0, hb31]
      unfold eLo eHi
      rw [eL] at h1 ⊢
      rw [eH] at h2 ⊢
      exact exp_tail hM hM' hx (szof a1 (by first | with_reducible assumption | with_reducible exact Int.le_of_lt (by assumption) | with_reducible exact Nat.le_of_lt (by assumption) | omega)) (szof a3 (by first | with_reducible assumption | with_reducible exact Int.le_of_lt (by assumption) | with_reducible exact Nat.le_of_lt (by assumption) | omega)) h1 h2


theorem fct_le : ∀ n : Nat, n ≤ 64 → fct n ≤ 64 ^ n
  | 0, _ => by decide
  | n + 1, h => by
    have ih := fct_le n (by first | with_reducible assumption | with_reducible exact Int.le_of_lt (by assumption) | with_reducible exact Nat.le_of_lt (by assumption) | omega)
    show fct n * ((n : Int) + 1) ≤ _
    rw [Int.pow_succ]
    exact Int.mul_le_mul ih (by first | with_reducible assumption | with_reducible exact Int.le_of_lt (by assumption) | with_reducible exact Nat.le_of_lt (by assumption) | omega) (by first | with_reducible assumption | with_reducible exact Int.le_of_lt (by assumption) | with_reducible exact Nat.le_of_lt (by assumption) | omega) (Int.le_of_lt (Int.pow_pos (by decide)))
theorem fct_sz (n : Nat) (h : n ≤ 54) : 0 < fct n ∧ (fct n).natAbs < 2 ^ 400 := by
  have h1 := fct_le n (by first | with_reducible assumption | with_reducible exact Int.le_of_lt (by assumption) | with_reducible exact Nat.le_of_lt (by assumption) | omega)
  have h2 : (64 : Int) ^ n ≤ 64 ^ 54 := ipow_le (by decide) (by first | with_reducible assumption | with_reducible exact Int.le_of_lt (by assumption) | with_reducible exact Nat.le_of_lt (by assumption) | omega)
  have h3 : (64 : Int) ^ 54 < 2 ^ 400 := by decide
  have h4 := fct_pos n
  exact ⟨h4, sz 400 (by first | with_reducible assumption | with_reducible exact Int.le_of_lt (by assumption) | with_reducible exact Nat.le_of_lt (by assumption) | omega) (by first | with_reducible assumption | with_reducible exact Int.le_of_lt (by assumption) | with_reducible exact Nat.le_of_lt (by assumption) | omega)⟩
section
variable {Γ : Str → List D → D → Prop}
/-- the end: most, and the sum -/
theorem bnd_end {x M L size rows prod R total left ser : Int} {d12 dm db : D} (hM : 1000 ≤ M) (hM' : M ≤ 10 ^ 9) (hR0 : 0 ≤ R) (hR : R ≤ 18) (hl : 0 ≤ left) (hl' : left ≤ 4000001) :
    wpS Γ s_lawbound_3j [.int x, .int M, .int L, .int size, .int rows, .int prod, .int R, .int total, dm, db, .int left, .int ser, d12]
      (fun o _ => o = some (.int (total + ser + ((500000 * (R + 5) + left) * (500000 * (R + 5) + left)).fdiv (2 * M * 10 ^ 6) + 1))) := by
  have b10 : (Builtin.Int.intBits 10 : Int) * 6 ≤ 2 ^ 27 := by
    have := intBits_le (a := 10) (k := 4) (by decide)
    omega
  have e6 : (10 : Int) ^ (6 : Int).toNat = 10 ^ 6 := rfl
  have s1 : (500000 * (R + 5) + left).natAbs < 2 ^ 40 := sz 40 (by first | with_reducible assumption | with_reducible exact Int.le_of_lt (by assumption) | with_reducible exact Nat.le_of_lt (by assumption) | omega) (by first | with_reducible assumption | with_reducible exact Int.le_of_lt (by assumption) | with_reducible exact Nat.le_of_lt (by assumption) | omega)
  have s2 : (2 * M).natAbs < 2 ^ 40 := sz 40 (by first | with_reducible assumption | with_reducible exact Int.le_of_lt (by assumption) | with_reducible exact Nat.le_of_lt (by assumption) | omega) (by first | with_reducible assumption | with_reducible exact Int.le_of_lt (by assumption) | with_reducible exact Nat.le_of_lt (by assumption) | omega)
  have s3 : (2 * M * 10 ^ 6).natAbs < 2 ^ 80 := sz 80 (by first | with_reducible assumption | with_reducible exact Int.le_of_lt (by assumption) | with_reducible exact Nat.le_of_lt (by assumption) | omega) (by first | with_reducible assumption | with_reducible exact Int.le_of_lt (by assumption) | with_reducible exact Nat.le_of_lt (by assumption) | omega)
  unfold s_lawbound_3j
  simp only [wlit, wbo, wvar, wbin, wneg, wnot, wcmp, wcmp2, wany, wite, wcall, wbi, wisI, wisB, wlst, wtup, widx, wslc, wand, wor, wnil, wcons, snil, srais, sret, sset, sset2, saug, site, Mine.get, binW, cmpW, biW, truth, isBP, isIP, intP, Mine.ii, ibP, ilP, slP, tlP, lP, tP, Mine.l1, Mine.l2, Mine.l3, t2P, t3P, augW, Mine.onN, cutP, partP, E.isNil, List.isEmpty_nil, List.isEmpty_cons, List.set, ne_eq, reduceCtorEq, not_false_eq_true, true_and, and_true, if_true, if_false, Bool.false_eq_true, Option.some.injEq, exists_eq_left', Bool.not_true, Bool.not_false]
  rw [e6]
  refine ⟨.of_left (by decide), Sm.mul (.of _ s1) (.of _ s1), mul2, by decide, b10, .of_right (by decide), by omega, lg _ s3, rfl⟩
theorem sS_sz {x M L : Int} (hM : 0 < M) (hM' : M ≤ 10 ^ 9) (hx : (x.natAbs : Int) ≤ 24 * M) (hL : L ≤ 12) : 0 < M * 2 ^ nR x M L ∧ M * 2 ^ nR x M L < 2 ^ 50 := by
  have hR := nR_le18 (x := x) hM hx hL
  have h1 : (2 : Int) ^ nR x M L ≤ 2 ^ 18 := ipow_le (by decide) hR
  have hp := p2pos (nR x M L)
  have h2 := Int.mul_le_mul hM' h1 (by first | with_reducible assumption | with_reducible exact Int.le_of_lt (by assumption) | with_reducible exact Nat.le_of_lt (by assumption) | omega) (by decide)
  exact ⟨Int.mul_pos hM hp, by omega⟩
theorem rest_sz {x M L : Int} (hM : 1000 ≤ M) (hM' : M ≤ 10 ^ 9) (hL : 2 ≤ L) (hL2 : L ≤ 12) (hx : (x.natAbs : Int) ≤ 24 * M) :
    (Builtin.Int.intBits (x.natAbs : Int) : Int) * ((nN M L : Int) + 1 + 1) ≤ 2 ^ 27 ∧ (Builtin.Int.intBits (M * 2 ^ nR x M L) : Int) * ((nN M L : Int) + 1) ≤ 2 ^ 27 ∧ (fct (nN M L + 2) * (M * 2 ^ nR x M L) ^ (nN M L + 1)).natAbs < 2 ^ 2500 ∧
      0 < fct (nN M L + 2) * (M * 2 ^ nR x M L) ^ (nN M L + 1) ∧ IntMulOk (fct (nN M L + 2)) ((M * 2 ^ nR x M L) ^ (nN M L + 1)) := by
  have hM0 : 0 < M := by omega
  have hn := nN_le40 hM hM' (show 1 ≤ L by omega)
  obtain ⟨hS0, hS1⟩ := sS_sz (x := x) hM0 hM' hx hL2
  obtain ⟨f1, f2⟩ := fct_sz (nN M L + 2) (by first | with_reducible assumption | with_reducible exact Int.le_of_lt (by assumption) | with_reducible exact Nat.le_of_lt (by assumption) | omega)
  have sx : ((x.natAbs : Int)).natAbs < 2 ^ 40 := by have := szX hM' hx; simpa using this
  have bx := intBits_le sx
  have sS := szof (Int.le_of_lt hS0) hS1
  have bS := intBits_le sS
  clear hM hM' hL hL2 hx hM0 hS1 sx
  generalize M * 2 ^ nR x M L = S at *
  generalize nN M L = n at *
  have hSp := szp sS (n + 1) (by first | with_reducible assumption | with_reducible exact Int.le_of_lt (by assumption) | with_reducible exact Nat.le_of_lt (by assumption) | omega)
  have hSp2 : (S ^ (n + 1)).natAbs < 2 ^ 2100 := Nat.lt_of_lt_of_le hSp (Nat.pow_le_pow_right (by decide) (by first | with_reducible assumption | with_reducible exact Int.le_of_lt (by assumption) | with_reducible exact Nat.le_of_lt (by assumption) | omega))
  refine ⟨?_, ?_, szm f2 hSp2, Int.mul_pos f1 (Int.pow_pos hS0), Sm.mul (.of _ f2) (.of _ hSp2)⟩
  · have := Int.mul_le_mul (show (Builtin.Int.intBits (x.natAbs : Int) : Int) ≤ 40 by omega) (show (n : Int) + 1 + 1 ≤ 54 by omega) (by first | with_reducible assumption | with_reducible exact Int.le_of_lt (by assumption) | with_reducible exact Nat.le_of_lt (by assumption) | omega) (by decide)
    omega
  · have := Int.mul_le_mul (show (Builtin.Int.intBits S : Int) ≤ 50 by omega) (show (n : Int) + 1 ≤ 53 by omega) (by first | with_reducible assumption | with_reducible exact Int.le_of_lt (by assumption) | with_reducible exact Nat.le_of_lt (by assumption) | omega) (by decide)
    omega
theorem pow_ok {a : Int} {k : Nat} (h : a.natAbs < 2 ^ k) (hk : k ≤ 1000) : (Builtin.Int.intBits a : Int) * 32 ≤ 2 ^ 27 := by
  have := intBits_le h
  omega
theorem mul_sz {M R : Int} (hM : 0 < M) (hM' : M ≤ 10 ^ 9) (hR : 0 < R) (hR' : R ≤ 2 ^ 18) : 0 < 32 * (M * R) ∧ (32 * (M * R)).natAbs < 2 ^ 60 ∧ (R - 1).natAbs < 2 ^ 20 ∧ 0 ≤ R - 1 := by
  have h1 := Int.mul_pos hM hR
  have h2 := Int.mul_le_mul hM' hR' (by first | with_reducible assumption | with_reducible exact Int.le_of_lt (by assumption) | with_reducible exact Nat.le_of_lt (by assumption) | omega) (by decide)
  generalize M * R = m at *
  exact ⟨by omega, by omega, by omega, by omega⟩
theorem two_ok {R : Nat} (h : R ≤ 18) : 0 ≤ (R : Int) ∧ (Builtin.Int.intBits 2 : Int) * (R : Int) ≤ 2 ^ 27 := by
  have b2 := intBits_le (a := 2) (k := 2) (by decide)
  have : (Builtin.Int.intBits 2 : Int) * (R : Int) ≤ 2 * 18 := Int.mul_le_mul (by first | with_reducible assumption | with_reducible exact Int.le_of_lt (by assumption) | with_reducible exact Nat.le_of_lt (by assumption) | omega) (by first | with_reducible assumption | with_reducible exact Int.le_of_lt (by assumption) | with_reducible exact Nat.le_of_lt (by assumption) | omega) (by first | with_reducible assumption | with_reducible exact Int.le_of_lt (by assumption) | with_reducible exact Nat.le_of_lt (by assumption) | omega) (by decide)
  exact ⟨by omega, by omega⟩
theorem sh_ok {M : Int} {R : Nat} (hM : 1000 ≤ M) (hM' : M ≤ 10 ^ 9) (h : R ≤ 18) : (Builtin.Int.intBits M : Int) + (R : Int) ≤ 2 ^ 27 := by
  have := intBits_le (szM hM hM').1
  omega
theorem two_L {L : Int} (hL : 2 ≤ L) (hL2 : L ≤ 12) : 0 ≤ L ∧ (Builtin.Int.intBits 2 : Int) * L ≤ 2 ^ 27 ∧ (2 ^ L.toNat : Int) ≠ 0 ∧ (2 ^ L.toNat : Int).natAbs.log2 < 9000 := by
  have h := (two_ok (R := L.toNat) (by first | with_reducible assumption | with_reducible exact Int.le_of_lt (by assumption) | with_reducible exact Nat.le_of_lt (by assumption) | omega)).2
  rw [show ((L.toNat : Nat) : Int) = L by omega] at h
  have hpL := p2pos L.toNat
  have hpL2 : (2 : Int) ^ L.toNat ≤ 2 ^ 12 := ipow_le (by decide) (by first | with_reducible assumption | with_reducible exact Int.le_of_lt (by assumption) | with_reducible exact Nat.le_of_lt (by assumption) | omega)
  exact ⟨by omega, h, by omega, lg 20 (by first | with_reducible assumption | with_reducible exact Int.le_of_lt (by assumption) | with_reducible exact Nat.le_of_lt (by assumption) | omega)⟩
/-- behind the loops: left, series -/
theorem bnd_rest {x M L : Int} {d8 d9 d10 d11 d12 : D} (hM : 1000 ≤ M) (hM' : M ≤ 10 ^ 9) (hL : 2 ≤ L) (hL2 : L ≤ 12) (hx : (x.natAbs : Int) ≤ 24 * M) :
    wpS Γ s_lawbound_2r [.int x, .int M, .int L, .int (x.natAbs : Int), .int ((nN M L : Int) + 1), .int (fct (nN M L + 2)), .int (nR x M L : Int), .int (sumTo (termB x M) (nR x M L)), d8, d9, d10, d11, d12]
      (fun o _ => o = some (.int (bndB x M L))) := by
  have hM0 : 0 < M := by omega
  have hR := nR_le18 (x := x) hM0 hx hL2
  obtain ⟨l1, l2⟩ := left_small (x := x) (L := L) hM (by first | with_reducible assumption | with_reducible exact Int.le_of_lt (by assumption) | with_reducible exact Nat.le_of_lt (by assumption) | omega) hL2 hx
  obtain ⟨r1, r2, r3, r4, r5⟩ := rest_sz (x := x) hM hM' hL hL2 hx
  obtain ⟨t1, t2⟩ := two_ok hR
  have t3 := sh_ok hM hM' hR
  obtain ⟨u1, u2, u3, u4⟩ := two_L hL hL2
  have l0 : 0 ≤ leftB x M L := by omega
  have e1 : ((nN M L : Int) + 1).toNat = nN M L + 1 := by omega
  have e2 : ((nN M L : Int) + 1 + 1).toNat = nN M L + 1 + 1 := by omega
  have e4 : 0 ≤ (nN M L : Int) + 1 := by omega
  have e5 : 0 ≤ (nN M L : Int) + 1 + 1 := by omega
  have e3 : ((nR x M L : Int)).toNat = nR x M L := Int.toNat_natCast _
  have e6 : (10 : Int) ^ (6 : Int).toNat = 10 ^ 6 := rfl
  obtain ⟨q1, q2, _, _⟩ := serB_le hM (show 1 ≤ L by omega) hL2 hx
  have hL' : leftB x M L = (10 ^ 6 * (x.natAbs : Int) ^ (nN M L + 1 + 1)).fdiv (fct (nN M L + 2) * (M * 2 ^ nR x M L) ^ (nN M L + 1)) + 1 := rfl
  have hS' : ser0B x M L = 500000 + (650000 : Int).fdiv (2 ^ L.toNat) + 1 + leftB x M L := rfl
  have t18 : (nR x M L : Int) ≤ 18 := by omega
  unfold s_lawbound_2r
  simp only [wlit, wbo, wvar, wbin, wneg, wnot, wcmp, wcmp2, wany, wite, wcall, wbi, wisI, wisB, wlst, wtup, widx, wslc, wand, wor, wnil, wcons, snil, srais, sret, sset, sset2, saug, site, Mine.get, binW, cmpW, biW, truth, isBP, isIP, intP, Mine.ii, ibP, ilP, slP, tlP, lP, tP, Mine.l1, Mine.l2, Mine.l3, t2P, t3P, augW, Mine.onN, cutP, partP, E.isNil, List.isEmpty_nil, List.isEmpty_cons, List.set, ne_eq, reduceCtorEq, not_false_eq_true, true_and, and_true, if_true, if_false, Bool.false_eq_true, Option.some.injEq, exists_eq_left', Bool.not_true, Bool.not_false]
  rw [e1, e2, e3, e6, ← hL', ← hS']
  refine ⟨by decide, b10_le 6 (by decide) (by decide), e5, r1, .of_left (by decide), t1, t3, e4, r2, r5, nz r4, lg _ r3, u1, u2, u3, u4, ?_⟩
  by_cases hx0 : x < 0
  · rw [if_pos (by simpa using hx0)]
    have hp2 : (2 : Int) ^ nR x M L ≤ 2 ^ 18 := ipow_le (by decide) hR
    obtain ⟨m0, m1, m2, m2'⟩ := mul_sz hM0 hM' (p2pos (nR x M L)) hp2
    have m3 : ((x.natAbs : Int)).natAbs < 2 ^ 40 := by have := szX hM' hx; simpa using this
    have m4 := szm m3 m2
    have hb0 := Int.mul_nonneg (show 0 ≤ (x.natAbs : Int) from Int.natCast_nonneg _) m2'
    have m5 := add_sz rfl m1 m4
    have m6 := szp m1 32 (by decide)
    have m7 := szp m5 32 (by decide)
    have s0 : (ser0B x M L).natAbs < 2 ^ 30 := szof q1 (by first | with_reducible assumption | with_reducible exact Int.le_of_lt (by assumption) | with_reducible exact Nat.le_of_lt (by assumption) | omega)
    have e32 : ∀ z : Int, z ^ (32 : Int).toNat = z ^ 32 := fun z => rfl
    have hdp : 0 < (32 * (M * 2 ^ nR x M L) + (x.natAbs : Int) * (2 ^ nR x M L - 1)) ^ 32 := Int.pow_pos (Int.add_pos_of_pos_of_nonneg m0 hb0)
    have hser : serB x M L = (ser0B x M L * (32 * (M * 2 ^ nR x M L)) ^ 32).fdiv ((32 * (M * 2 ^ nR x M L) + (x.natAbs : Int) * (2 ^ nR x M L - 1)) ^ 32) + 1 := by unfold serB; rw [if_pos hx0]
    simp only [e32]
    rw [← hser]
    refine ⟨t1, t3, .of_left (by decide), by decide, pow_ok m1 (by decide), imo_l 30 s0, ?_⟩
    refine ⟨t1, t2, imo_l 40 m3, by decide, pow_ok m5 (by decide), nz hdp, lg _ m7, ?_⟩
    exact bnd_end hM hM' t1 t18 l0 l2
  · rw [if_neg (by simpa using hx0)]
    have hser : serB x M L = ser0B x M L := by unfold serB; rw [if_neg hx0]
    rw [← hser]
    exact bnd_end hM hM' t1 t18 l0 l2
noncomputable def IT7 (x M L : Int) (d10 d11 d12 : D) (n : Nat) (ρ : List D) : Prop := ∃ j d8 d9, j ≤ nR x M L ∧ n = nR x M L - j ∧
  ρ = [.int x, .int M, .int L, .int (x.natAbs : Int), .int ((nN M L : Int) + 1), .int (fct (nN M L + 2)), .int (j : Int), .int (sumTo (termB x M) j), d8, d9, d10, d11, d12]
theorem bnd_turns {x M L : Int} {d8 d9 d10 d11 d12 : D} (hM : 1000 ≤ M) (hM' : M ≤ 10 ^ 9) (hL : 2 ≤ L) (hL2 : L ≤ 12) (hx : (x.natAbs : Int) ≤ 24 * M) :
    wpS Γ s_lawbound_2 [.int x, .int M, .int L, .int (x.natAbs : Int), .int ((nN M L : Int) + 1), .int (fct (nN M L + 2)), .int 0, .int 0, d8, d9, d10, d11, d12]
      (fun o _ => o = some (.int (bndB x M L))) := by
  have hM0 : 0 < M := by omega
  have hR := nR_le18 (x := x) hM0 hx hL2
  obtain ⟨r1, r2⟩ := nR_facts (x := x) (L := L) hM0
  have m3 : ((x.natAbs : Int)).natAbs < 2 ^ 40 := by have := szX hM' hx; simpa using this
  have bx : (Builtin.Int.intBits (x.natAbs : Int) : Int) + L ≤ 2 ^ 27 := by have := intBits_le m3; omega
  have b10 := b10_le 6 (by decide) (by decide)
  have hL0 := (two_L hL hL2).1
  unfold s_lawbound_2
  refine whl_ok (IT7 x M L d10 d11 d12) (nR x M L) ⟨0, d8, d9, Nat.zero_le _, rfl, rfl⟩ ?_
  rintro n ρ ⟨j, d8, d9, hj, rfl, rfl⟩
  have e3 : ((j : Int)).toNat = j := Int.toNat_natCast _
  have hj18 : j ≤ 18 := Nat.le_trans hj hR
  obtain ⟨t1, t2⟩ := two_ok hj18
  have t3 := sh_ok hM hM' hj18
  simp only [wlit, wbo, wvar, wbin, wneg, wnot, wcmp, wcmp2, wany, wite, wcall, wbi, wisI, wisB, wlst, wtup, widx, wslc, wand, wor, wnil, wcons, snil, srais, sret, sset, sset2, saug, site, Mine.get, binW, cmpW, biW, truth, isBP, isIP, intP, Mine.ii, ibP, ilP, slP, tlP, lP, tP, Mine.l1, Mine.l2, Mine.l3, t2P, t3P, augW, Mine.onN, cutP, partP, E.isNil, List.isEmpty_nil, List.isEmpty_cons, List.set, ne_eq, reduceCtorEq, not_false_eq_true, true_and, and_true, if_true, if_false, Bool.false_eq_true, Option.some.injEq, exists_eq_left', Bool.not_true, Bool.not_false]
  rw [e3]
  refine ⟨t1, t3, hL0, bx, ?_⟩
  have key : ∀ t : Int, t = (if x < 0 then M else 1) → (if decide (M * 2 ^ j < (x.natAbs : Int) * 2 ^ L.toNat + t) = true then wpS Γ s_lawbound_2b [.int x, .int M, .int L, .int (x.natAbs : Int), .int ((nN M L : Int) + 1), .int (fct (nN M L + 2)), .int (j : Int), .int (sumTo (termB x M) j), d8, d9, d10, d11, d12]
      (onN (fun ρ'' => ∃ m, m < nR x M L - j ∧ IT7 x M L d10 d11 d12 m ρ'') fun o _ => o = some (.int (bndB x M L)))
      else wpS Γ s_lawbound_2r [.int x, .int M, .int L, .int (x.natAbs : Int), .int ((nN M L : Int) + 1), .int (fct (nN M L + 2)), .int (j : Int), .int (sumTo (termB x M) j), d8, d9, d10, d11, d12] fun o _ => o = some (.int (bndB x M L))) := by
    intro t ht
    by_cases hc : M * 2 ^ j < (x.natAbs : Int) * 2 ^ L.toNat + t
    · rw [if_pos (by simpa using hc)]
      have hjR : j < nR x M L := by
        refine Nat.not_le.mp fun hle => ?_
        have : j = nR x M L := by omega
        subst this
        omega
      have hp2 : (2 : Int) ^ j ≤ 2 ^ 18 := ipow_le (by decide) hj18
      obtain ⟨m0, m1, m2, m2'⟩ := mul_sz hM0 hM' (p2pos j) hp2
      have m4 := szm m3 m2
      have e32 : ∀ z : Int, z ^ (32 : Int).toNat = z ^ 32 := fun z => rfl
      have e6 : (10 : Int) ^ (6 : Int).toNat = 10 ^ 6 := rfl
      have m0n := nz m0
      have m0' := Int.le_of_lt m0
      have bm := pow_ok m1 (by decide)
      have fin : ∀ b : Int, b = bB x j → 0 ≤ b → b.natAbs < 2 ^ 60 → (Builtin.Int.intBits (32 * (M * 2 ^ j) + b) : Int) * 32 ≤ 2 ^ 27 ∧ 2 * (32 * (M * 2 ^ j) + b) ^ 32 ≠ 0 ∧ (2 * (32 * (M * 2 ^ j) + b) ^ 32).natAbs.log2 < 9000 ∧
          (sumTo (termB x M) j + ((10 ^ 6 * (32 * (M * 2 ^ j)) ^ 32).fdiv (2 * (32 * (M * 2 ^ j) + b) ^ 32) + 1) = sumTo (termB x M) (j + 1)) := by
        intro b hb hb0 hb1
        have m5 := add_sz rfl m1 hb1
        have m7 := szp m5 32 (by decide)
        have hdp : 0 < (32 * (M * 2 ^ j) + b) ^ 32 := Int.pow_pos (Int.add_pos_of_pos_of_nonneg m0 hb0)
        refine ⟨pow_ok m5 (by decide), nz (Int.mul_pos (by decide) hdp), lg (2 + 61 * 32) (szm (i := 2) (by decide) m7), ?_⟩
        show _ = sumTo (termB x M) j + termB x M j
        unfold termB
        rw [hb]
      have hm : nR x M L - (j + 1) < nR x M L - j := by omega
      have ej : ((j + 1 : Nat) : Int) = (j : Int) + 1 := rfl
      unfold s_lawbound_2b
      simp only [wlit, wbo, wvar, wbin, wneg, wnot, wcmp, wcmp2, wany, wite, wcall, wbi, wisI, wisB, wlst, wtup, widx, wslc, wand, wor, wnil, wcons, snil, srais, sret, sset, sset2, saug, site, Mine.get, binW, cmpW, biW, truth, isBP, isIP, intP, Mine.ii, ibP, ilP, slP, tlP, lP, tP, Mine.l1, Mine.l2, Mine.l3, t2P, t3P, augW, Mine.onN, cutP, partP, E.isNil, List.isEmpty_nil, List.isEmpty_cons, List.set, ne_eq, reduceCtorEq, not_false_eq_true, true_and, and_true, if_true, if_false, Bool.false_eq_true, Option.some.injEq, exists_eq_left', Bool.not_true, Bool.not_false]
      simp only [e3, e32, e6]
      by_cases hx0 : x ≥ 0
      · have hb : (x.natAbs : Int) = bB x j := by unfold bB; rw [if_pos hx0]
        obtain ⟨c1, c2, c3, c4⟩ := fin _ hb (Int.natCast_nonneg _) (bigger 40 60 m3)
        rw [if_pos (by simpa using hx0), c4]
        refine ⟨t1, t3, .of_left (by decide), by decide, b10, by decide, bm, .of_left (by decide), by decide, c1, mul2, c2, c3, nR x M L - (j + 1), hm, j + 1, .int (32 * (M * 2 ^ j)), .int (x.natAbs : Int), hjR, rfl, ?_⟩
        rw [ej]
      · have hb0 := Int.mul_nonneg (show 0 ≤ (x.natAbs : Int) from Int.natCast_nonneg _) m2'
        have hb : (x.natAbs : Int) * (2 ^ j - 1) = bB x j := by unfold bB; rw [if_neg hx0]
        obtain ⟨c1, c2, c3, c4⟩ := fin _ hb hb0 m4
        rw [if_neg (by simpa using hx0), c4]
        refine ⟨t1, t3, .of_left (by decide), t1, t2, imo_l 40 m3, by decide, b10, by decide, bm, .of_left (by decide), by decide, c1, mul2, c2, c3, nR x M L - (j + 1), hm, j + 1, .int (32 * (M * 2 ^ j)), .int ((x.natAbs : Int) * (2 ^ j - 1)), hjR, rfl, ?_⟩
        rw [ej]
    · rw [if_neg (by simpa using hc)]
      have hjR : j = nR x M L := by
        refine Nat.le_antisymm hj (Nat.not_lt.mp fun hlt => ?_)
        have := r2 j hlt
        omega
      subst hjR
      exact bnd_rest hM hM' hL hL2 hx
  by_cases hx0 : x < 0
  · rw [if_pos (by simpa using hx0)]
    exact key M (by rw [if_pos hx0])
  · rw [if_neg (by simpa using hx0)]
    exact key 1 (by rw [if_neg hx0])
end


noncomputable def IR7 (x M L : Int) (d6 d7 d8 d9 d10 d11 d12 : D) (n : Nat) (ρ : List D) : Prop := ∃ r : Nat, r ≤ nN M L ∧ n = nN M L - r ∧ ρ = [.int x, .int M, .int L, .int (x.natAbs : Int), .int ((r : Int) + 1), .int (fct (r + 2)), d6, d7, d8, d9, d10, d11, d12]
theorem bound_body {Γ : Str → List D → D → Prop} (x M L : Int) (hM : 1000 ≤ M) (hM' : M ≤ 10 ^ 9) (hL : 2 ≤ L) (hL2 : L ≤ 12) (hx : (x.natAbs : Int) ≤ 24 * M) :
    wpS Γ s_lawbound [.int x, .int M, .int L, .undef, .undef, .undef, .undef, .undef, .undef, .undef, .undef, .undef, .undef] (fun o _ => o = some (.int (bndB x M L))) := by
  have hM0 : 0 < M := by omega
  obtain ⟨t1, t2, t3⟩ := nT_facts hM0 (show 1 ≤ L by omega)
  rw [nN_eq hM0 (show 1 ≤ L by omega)] at t2 t3
  have hfig := figs_le (k := 10) hM0 (by first | with_reducible assumption | with_reducible exact Int.le_of_lt (by assumption) | with_reducible exact Nat.le_of_lt (by assumption) | omega)
  have hnT := nN_le40 hM hM' (show 1 ≤ L by omega)
  unfold s_lawbound
  simp only [wlit, wbo, wvar, wbin, wneg, wnot, wcmp, wcmp2, wany, wite, wcall, wbi, wisI, wisB, wlst, wtup, widx, wslc, wand, wor, wnil, wcons, snil, srais, sret, sset, sset2, saug, site, Mine.get, binW, cmpW, biW, truth, isBP, isIP, intP, Mine.ii, ibP, ilP, slP, tlP, lP, tP, Mine.l1, Mine.l2, Mine.l3, t2P, t3P, augW, Mine.onN, cutP, partP, E.isNil, List.isEmpty_nil, List.isEmpty_cons, List.set, ne_eq, reduceCtorEq, not_false_eq_true, true_and, and_true, if_true, if_false, Bool.false_eq_true, Option.some.injEq, exists_eq_left', Bool.not_true, Bool.not_false]
  rw [abs_if]
  refine ⟨by simp, ?_⟩
  unfold s_lawbound_1
  refine whl_ok (IR7 x M L .undef .undef .undef .undef .undef .undef .undef) (nN M L - 0) ⟨0, Nat.zero_le _, rfl, by rfl⟩ ?_
  rintro n ρ ⟨r, hr, rfl, rfl⟩
  simp only [wlit, wbo, wvar, wbin, wneg, wnot, wcmp, wcmp2, wany, wite, wcall, wbi, wisI, wisB, wlst, wtup, widx, wslc, wand, wor, wnil, wcons, snil, srais, sret, sset, sset2, saug, site, Mine.get, binW, cmpW, biW, truth, isBP, isIP, intP, Mine.ii, ibP, ilP, slP, tlP, lP, tP, Mine.l1, Mine.l2, Mine.l3, t2P, t3P, augW, Mine.onN, cutP, partP, E.isNil, List.isEmpty_nil, List.isEmpty_cons, List.set, ne_eq, reduceCtorEq, not_false_eq_true, true_and, and_true, if_true, if_false, Bool.false_eq_true, Option.some.injEq, exists_eq_left', Bool.not_true, Bool.not_false]
  have hlen : (Str.ofString (toString M)).length = figs M := rfl
  rw [hlen]
  have s1 : (3 * L).natAbs < 2 ^ 10 := sz 10 (by first | with_reducible assumption | with_reducible exact Int.le_of_lt (by assumption) | with_reducible exact Nat.le_of_lt (by assumption) | omega) (by first | with_reducible assumption | with_reducible exact Int.le_of_lt (by assumption) | with_reducible exact Nat.le_of_lt (by assumption) | omega)
  have s2 : ((r : Int) + 1).natAbs < 2 ^ 10 := sz 10 (by first | with_reducible assumption | with_reducible exact Int.le_of_lt (by assumption) | with_reducible exact Nat.le_of_lt (by assumption) | omega) (by first | with_reducible assumption | with_reducible exact Int.le_of_lt (by assumption) | with_reducible exact Nat.le_of_lt (by assumption) | omega)
  have hlg : M.natAbs.log2 < 1920 := by
    have : M.natAbs < 2 ^ 60 := sz 60 (by first | with_reducible assumption | with_reducible exact Int.le_of_lt (by assumption) | with_reducible exact Nat.le_of_lt (by assumption) | omega) (by first | with_reducible assumption | with_reducible exact Int.le_of_lt (by assumption) | with_reducible exact Nat.le_of_lt (by assumption) | omega)
    have h3 : M.natAbs.log2 < 60 := (Nat.log2_lt (by first | with_reducible assumption | with_reducible exact Int.le_of_lt (by assumption) | with_reducible exact Nat.le_of_lt (by assumption) | omega)).mpr this
    omega
  refine ⟨.of_left (by decide), Sm.mul (.of _ s1) (.of _ s2), hlg, by omega, .of_left (by decide), ?_⟩
  by_cases hc : 3 * L * ((r : Int) + 1) < 10 * (figs M : Int)
  · rw [if_pos (by simpa using hc)]
    have hrl : r < nN M L := by
      refine Nat.not_le.mp fun hle => ?_
      have : ((nN M L : Int) + 1) * (3 * L) ≤ ((r : Int) + 1) * (3 * L) := Int.mul_le_mul_of_nonneg_right (by first | with_reducible assumption | with_reducible exact Int.le_of_lt (by assumption) | with_reducible exact Nat.le_of_lt (by assumption) | omega) (by first | with_reducible assumption | with_reducible exact Int.le_of_lt (by assumption) | with_reducible exact Nat.le_of_lt (by assumption) | omega)
      have e : 3 * L * ((r : Int) + 1) = ((r : Int) + 1) * (3 * L) := by grind
      omega
    unfold s_lawbound_1b
    simp only [wlit, wbo, wvar, wbin, wneg, wnot, wcmp, wcmp2, wany, wite, wcall, wbi, wisI, wisB, wlst, wtup, widx, wslc, wand, wor, wnil, wcons, snil, srais, sret, sset, sset2, saug, site, Mine.get, binW, cmpW, biW, truth, isBP, isIP, intP, Mine.ii, ibP, ilP, slP, tlP, lP, tP, Mine.l1, Mine.l2, Mine.l3, t2P, t3P, augW, Mine.onN, cutP, partP, E.isNil, List.isEmpty_nil, List.isEmpty_cons, List.set, ne_eq, reduceCtorEq, not_false_eq_true, true_and, and_true, if_true, if_false, Bool.false_eq_true, Option.some.injEq, exists_eq_left', Bool.not_true, Bool.not_false]
    obtain ⟨_, s3⟩ := fct_sz (r + 2) (by first | with_reducible assumption | with_reducible exact Int.le_of_lt (by assumption) | with_reducible exact Nat.le_of_lt (by assumption) | omega)
    have s4 : ((r : Int) + 1 + 1 + 1).natAbs < 2 ^ 10 := sz 10 (by first | with_reducible assumption | with_reducible exact Int.le_of_lt (by assumption) | with_reducible exact Nat.le_of_lt (by assumption) | omega) (by first | with_reducible assumption | with_reducible exact Int.le_of_lt (by assumption) | with_reducible exact Nat.le_of_lt (by assumption) | omega)
    refine ⟨Sm.mul (.of _ s3) (.of _ s4), nN M L - (r + 1), by omega, r + 1, by omega, rfl, ?_⟩
    have e1 : (((r + 1 : Nat) : Int) + 1) = (r : Int) + 1 + 1 := by omega
    have e2 : fct (r + 1 + 2) = fct (r + 2) * ((r : Int) + 1 + 1 + 1) := by
      show fct (r + 2) * (((r + 2 : Nat) : Int) + 1) = _
      rw [show ((r + 2 : Nat) : Int) = (r : Int) + 1 + 1 by omega]
    rw [e1, e2]
  · rw [if_neg (by simpa using hc)]
    have hrl : r = nN M L := by
      refine Nat.le_antisymm hr (Nat.not_lt.mp fun hlt => ?_)
      have : ((r : Int) + 1) * (3 * L) ≤ ((nN M L : Int) + 1 - 1) * (3 * L) := Int.mul_le_mul_of_nonneg_right (by first | with_reducible assumption | with_reducible exact Int.le_of_lt (by assumption) | with_reducible exact Nat.le_of_lt (by assumption) | omega) (by first | with_reducible assumption | with_reducible exact Int.le_of_lt (by assumption) | with_reducible exact Nat.le_of_lt (by assumption) | omega)
      have e : 3 * L * ((r : Int) + 1) = ((r : Int) + 1) * (3 * L) := by grind
      omega
    subst hrl
    unfold s_lawbound_1r
    simp only [wlit, wbo, wvar, wbin, wneg, wnot, wcmp, wcmp2, wany, wite, wcall, wbi, wisI, wisB, wlst, wtup, widx, wslc, wand, wor, wnil, wcons, snil, srais, sret, sset, sset2, saug, site, Mine.get, binW, cmpW, biW, truth, isBP, isIP, intP, Mine.ii, ibP, ilP, slP, tlP, lP, tP, Mine.l1, Mine.l2, Mine.l3, t2P, t3P, augW, Mine.onN, cutP, partP, E.isNil, List.isEmpty_nil, List.isEmpty_cons, List.set, ne_eq, reduceCtorEq, not_false_eq_true, true_and, and_true, if_true, if_false, Bool.false_eq_true, Option.some.injEq, exists_eq_left', Bool.not_true, Bool.not_false]
    refine ⟨by simp, ?_⟩
    exact bnd_turns hM hM' hL hL2 hx
inductive G7 : Str → List D → D → Prop where
  | iexp (x M L : Int) (hM : 0 < M) (hM' : M < 10 ^ 90) (hx : (x.natAbs : Int) ≤ 64 * M) (hL : 1 ≤ L) (hL' : L ≤ 64) : G7 "_iexp" [.int x, .int M, .int L] (.int (iexp x M L))
  | exp (x M : Int) (hM : 1000 ≤ M) (hM' : M ≤ 10 ^ 9) (hx : (x.natAbs : Int) ≤ 24 * M) (h1 : 0 < wLo x M - x * un) (h2 : 0 < wHi x M - x * un) : G7 "_law_exp" [.int x, .int M] (.tup [.int (eLo x M), .int (eHi x M)])
  | bound (x M L : Int) (hM : 1000 ≤ M) (hM' : M ≤ 10 ^ 9) (hL : 2 ≤ L) (hL2 : L ≤ 12) (hx : (x.natAbs : Int) ≤ 24 * M) : G7 "_law_bound" [.int x, .int M, .int L] (.int (bndB x M L))
abbrev Q7 (a0 : D) (M L : Int) : Option D → List D → Prop := onN (fun ρ => ∃ d3 d4 d5 d6 d7 d8, ρ = [a0, .int M, .int L, d3, d4, d5, d6, d7, d8]) (fun o _ => o = some (.bool true))
theorem fdiv_sz {p q : Int} {k : Nat} (hq : 0 < q) (h : p.natAbs < 2 ^ k) : (p.fdiv q).natAbs < 2 ^ (k + 1) := by
  rw [Int.fdiv_eq_ediv_of_nonneg _ (by first | with_reducible assumption | with_reducible exact Int.le_of_lt (by assumption) | with_reducible exact Nat.le_of_lt (by assumption) | omega)]
  have l1 := Int.ediv_mul_le p (show q ≠ 0 by omega)
  have l2 := Int.lt_ediv_add_one_mul_self p hq
  rw [Nat.pow_succ]
  have h1 : (1 : Nat) ≤ 2 ^ k := Nat.pow_pos (by decide)
  generalize (2 : Nat) ^ k = P at *
  generalize p / q = c at *
  rcases Int.le_total 0 c with h | h
  · have h8 : c * 1 ≤ c * q := Int.mul_le_mul_of_nonneg_left (by first | with_reducible assumption | with_reducible exact Int.le_of_lt (by assumption) | with_reducible exact Nat.le_of_lt (by assumption) | omega) h
    omega
  · have h8 : (c + 1) * q ≤ (c + 1) * 1 ∨ c = 0 := by
      by_cases h9 : c = 0
      · exact .inr h9
      · exact .inl (Int.mul_le_mul_of_nonpos_left (show c + 1 ≤ 0 by omega) (show (1 : Int) ≤ q by omega))
    omega
theorem eHi_sz {x M : Int} (hM : 1000 ≤ M) (hM' : M ≤ 10 ^ 9) (hx : (x.natAbs : Int) ≤ 24 * M) (h2 : 0 < wHi x M - x * un) : (eHi x M).natAbs < 2 ^ 400 := by
  obtain ⟨hsq0, hsq1⟩ := exp_sq hM' hx
  obtain ⟨a1, a2, a3, a4⟩ := brk_sz (show 0 < M by omega) (show 0 < un by decide) hsq0 31 (Nat.le_refl _)
  obtain ⟨_, s2M, sM, _⟩ := szM hM hM'
  have sx := szX hM' hx
  have hw : (wHi x M).natAbs < 2 ^ 164 := by
    have h1 := bigger 81 163 (szm s2M un41)
    unfold wHi bk
    split
    · exact add_sz rfl (szof a1 (by first | with_reducible assumption | with_reducible exact Int.le_of_lt (by assumption) | with_reducible exact Nat.le_of_lt (by assumption) | omega)) h1
    · exact add_sz rfl (szof a3 (by first | with_reducible assumption | with_reducible exact Int.le_of_lt (by assumption) | with_reducible exact Nat.le_of_lt (by assumption) | omega)) h1
  have h3 := fdiv_sz h2 (szm sM (add_sz rfl hw (bigger 81 164 (szm sx un41))))
  unfold eHi
  exact bigger (60 + (164 + 1) + 1 + 1) 400 (add_sz rfl h3 (show (1 : Int).natAbs < 2 ^ (60 + (164 + 1) + 1) by decide))
theorem l7_rest {a0 d3 d5 d6 d7 d8 : D} {M L x : Int} (hM : 1000 ≤ M) (hM' : M ≤ 10 ^ 9) (hL : 2 ≤ L) (hL2 : L ≤ 12) (hx : (0 ≤ x ∧ x ≤ 8 * M) ∨ (x < 0 ∧ -(24 * M) ≤ x)) :
    wpS G7 s_law_2j [a0, .int M, .int L, d3, .int x, d5, d6, d7, d8] (Q7 a0 M L) := by
  have hxa : (x.natAbs : Int) ≤ 24 * M := by omega
  obtain ⟨t1, t2, t3, t4⟩ := t07 hM hM' hL hL2 hx
  have hsz := eHi_sz hM hM' hxa t2
  obtain ⟨bn0, bn1⟩ := bndB_le hM hL hL2 hxa
  have b10 : (Builtin.Int.intBits 10 : Int) * 6 ≤ 2 ^ 27 := by
    have := intBits_le (a := 10) (k := 4) (by decide)
    omega
  have e6 : (10 : Int) ^ (6 : Int).toNat = 10 ^ 6 := rfl
  unfold s_law_2j
  simp only [wlit, wbo, wvar, wbin, wneg, wnot, wcmp, wcmp2, wany, wite, wcall, wbi, wisI, wisB, wlst, wtup, widx, wslc, wand, wor, wnil, wcons, snil, srais, sret, sset, sset2, saug, site, Mine.get, binW, cmpW, biW, truth, isBP, isIP, intP, Mine.ii, ibP, ilP, slP, tlP, lP, tP, Mine.l1, Mine.l2, Mine.l3, t2P, t3P, augW, Mine.onN, cutP, partP, E.isNil, List.isEmpty_nil, List.isEmpty_cons, List.set, ne_eq, reduceCtorEq, not_false_eq_true, true_and, and_true, if_true, if_false, Bool.false_eq_true, Option.some.injEq, exists_eq_left', Bool.not_true, Bool.not_false]
  refine ⟨_, .iexp x M L (by first | with_reducible assumption | with_reducible exact Int.le_of_lt (by assumption) | with_reducible exact Nat.le_of_lt (by assumption) | omega) (by first | with_reducible assumption | with_reducible exact Int.le_of_lt (by assumption) | with_reducible exact Nat.le_of_lt (by assumption) | omega) (by first | with_reducible assumption | with_reducible exact Int.le_of_lt (by assumption) | with_reducible exact Nat.le_of_lt (by assumption) | omega) (by first | with_reducible assumption | with_reducible exact Int.le_of_lt (by assumption) | with_reducible exact Nat.le_of_lt (by assumption) | omega) (by first | with_reducible assumption | with_reducible exact Int.le_of_lt (by assumption) | with_reducible exact Nat.le_of_lt (by assumption) | omega), ?_⟩
  generalize hg : iexp x M L = told at *
  generalize hlo : eLo x M = lo at *
  generalize hhi : eHi x M = hi at *
  try simp only [wlit, wbo, wvar, wbin, wneg, wnot, wcmp, wcmp2, wany, wite, wcall, wbi, wisI, wisB, wlst, wtup, widx, wslc, wand, wor, wnil, wcons, snil, srais, sret, sset, sset2, saug, site, Mine.get, binW, cmpW, biW, truth, isBP, isIP, intP, Mine.ii, ibP, ilP, slP, tlP, lP, tP, Mine.l1, Mine.l2, Mine.l3, t2P, t3P, augW, Mine.onN, cutP, partP, E.isNil, List.isEmpty_nil, List.isEmpty_cons, List.set, ne_eq, reduceCtorEq, not_false_eq_true, true_and, and_true, if_true, if_false, Bool.false_eq_true, Option.some.injEq, exists_eq_left', Bool.not_true, Bool.not_false]
  refine ⟨_, .exp x M hM hM' hxa t1 t2, ?_⟩
  rw [hlo, hhi]
  try simp only [wlit, wbo, wvar, wbin, wneg, wnot, wcmp, wcmp2, wany, wite, wcall, wbi, wisI, wisB, wlst, wtup, widx, wslc, wand, wor, wnil, wcons, snil, srais, sret, sset, sset2, saug, site, Mine.get, binW, cmpW, biW, truth, isBP, isIP, intP, Mine.ii, ibP, ilP, slP, tlP, lP, tP, Mine.l1, Mine.l2, Mine.l3, t2P, t3P, augW, Mine.onN, cutP, partP, E.isNil, List.isEmpty_nil, List.isEmpty_cons, List.set, ne_eq, reduceCtorEq, not_false_eq_true, true_and, and_true, if_true, if_false, Bool.false_eq_true, Option.some.injEq, exists_eq_left', Bool.not_true, Bool.not_false]
  refine ⟨_, .bound x M L hM hM' hL hL2 hxa, ?_⟩
  have hbs : (bndB x M L).natAbs < 2 ^ 31 := sz 31 (by first | with_reducible assumption | with_reducible exact Int.le_of_lt (by assumption) | with_reducible exact Nat.le_of_lt (by assumption) | omega) (by first | with_reducible assumption | with_reducible exact Int.le_of_lt (by assumption) | with_reducible exact Nat.le_of_lt (by assumption) | omega)
  generalize bndB x M L = bnd at *
  try simp only [wlit, wbo, wvar, wbin, wneg, wnot, wcmp, wcmp2, wany, wite, wcall, wbi, wisI, wisB, wlst, wtup, widx, wslc, wand, wor, wnil, wcons, snil, srais, sret, sset, sset2, saug, site, Mine.get, binW, cmpW, biW, truth, isBP, isIP, intP, Mine.ii, ibP, ilP, slP, tlP, lP, tP, Mine.l1, Mine.l2, Mine.l3, t2P, t3P, augW, Mine.onN, cutP, partP, E.isNil, List.isEmpty_nil, List.isEmpty_cons, List.set, ne_eq, reduceCtorEq, not_false_eq_true, true_and, and_true, if_true, if_false, Bool.false_eq_true, Option.some.injEq, exists_eq_left', Bool.not_true, Bool.not_false]
  rw [e6]
  have fin : ∀ b : Int, lo - b ≤ 10 ^ 6 * told → 10 ^ 6 * told ≤ hi + b → wpS G7 s_law_3j [a0, .int M, .int L, d3, .int x, .int told, .int lo, .int hi, .int b] (Q7 a0 M L) := by
    intro b h1 h2
    unfold s_law_3j
    simp only [wlit, wbo, wvar, wbin, wneg, wnot, wcmp, wcmp2, wany, wite, wcall, wbi, wisI, wisB, wlst, wtup, widx, wslc, wand, wor, wnil, wcons, snil, srais, sret, sset, sset2, saug, site, Mine.get, binW, cmpW, biW, truth, isBP, isIP, intP, Mine.ii, ibP, ilP, slP, tlP, lP, tP, Mine.l1, Mine.l2, Mine.l3, t2P, t3P, augW, Mine.onN, cutP, partP, E.isNil, List.isEmpty_nil, List.isEmpty_cons, List.set, ne_eq, reduceCtorEq, not_false_eq_true, true_and, and_true, if_true, if_false, Bool.false_eq_true, Option.some.injEq, exists_eq_left', Bool.not_true, Bool.not_false]
    rw [e6]
    have q1 : decide (lo - b ≤ 10 ^ 6 * told) = true := by simpa using h1
    have q2 : decide (10 ^ 6 * told ≤ hi + b) = true := by simpa using h2
    rw [q1, q2]
    refine ⟨by decide, b10, .of_left (by decide), ?_⟩
    simp only [if_true, Bool.not_true, Bool.false_eq_true, if_false]
    exact ⟨_, _, _, _, _, _, rfl⟩
  by_cases h0 : x ≥ 0
  · rw [if_pos (by simpa using h0)]
    obtain ⟨r1, r2⟩ := t3 h0
    refine ⟨Sm.mul (.of _ hsz) (.of _ hbs), by decide, b10, .of_left (by decide), by omega, lg 60 (sz 60 (by first | with_reducible assumption | with_reducible exact Int.le_of_lt (by assumption) | with_reducible exact Nat.le_of_lt (by assumption) | omega) (by first | with_reducible assumption | with_reducible exact Int.le_of_lt (by assumption) | with_reducible exact Nat.le_of_lt (by assumption) | omega)), ?_⟩
    exact fin _ r1 r2
  · rw [if_neg (by simpa using h0)]
    obtain ⟨r1, r2⟩ := t4 (by first | with_reducible assumption | with_reducible exact Int.le_of_lt (by assumption) | with_reducible exact Nat.le_of_lt (by assumption) | omega)
    exact fin _ r1 r2
theorem l7_turn {a0 d4 d5 d6 d7 d8 : D} {M L v : Int} (hM : 1000 ≤ M) (hM' : M ≤ 10 ^ 9) (hL : 2 ≤ L) (hL2 : L ≤ 12) :
    wpS G7 s_law_1b [a0, .int M, .int L, .int v, d4, d5, d6, d7, d8] (Q7 a0 M L) := by
  have hM0 : 0 < M := by omega
  have e2 : M.fdiv 7 = M / 7 := Int.fdiv_eq_ediv_of_nonneg _ (by decide)
  have hmul : IntMulOk (v.natAbs : Int) (M / 7 + 1) := IntMulOk.of_right (Nat.le_trans (intBits_le (k := 60) (show (M / 7 + 1).natAbs < 2 ^ 60 by omega)) (by decide))
  unfold s_law_1b
  simp only [wlit, wbo, wvar, wbin, wneg, wnot, wcmp, wcmp2, wany, wite, wcall, wbi, wisI, wisB, wlst, wtup, widx, wslc, wand, wor, wnil, wcons, snil, srais, sret, sset, sset2, saug, site, Mine.get, binW, cmpW, biW, truth, isBP, isIP, intP, Mine.ii, ibP, ilP, slP, tlP, lP, tP, Mine.l1, Mine.l2, Mine.l3, t2P, t3P, augW, Mine.onN, cutP, partP, E.isNil, List.isEmpty_nil, List.isEmpty_cons, List.set, ne_eq, reduceCtorEq, not_false_eq_true, true_and, and_true, if_true, if_false, Bool.false_eq_true, Option.some.injEq, exists_eq_left', Bool.not_true, Bool.not_false]
  rw [e2, abs_if]
  refine ⟨by decide, by decide, hmul, ?_⟩
  by_cases h0 : v ≥ 0
  · rw [if_pos (by simpa using h0), if_neg (by simpa using (show ¬ v < 0 by omega))]
    have e3 : ∀ z : Int, z.fmod (8 * M) = z % (8 * M) := fun z => Int.fmod_eq_emod_of_nonneg _ (by first | with_reducible assumption | with_reducible exact Int.le_of_lt (by assumption) | with_reducible exact Nat.le_of_lt (by assumption) | omega)
    rw [e3]
    have hx0 : 0 ≤ (v.natAbs : Int) * (M / 7 + 1) % (8 * M) := Int.emod_nonneg _ (by first | with_reducible assumption | with_reducible exact Int.le_of_lt (by assumption) | with_reducible exact Nat.le_of_lt (by assumption) | omega)
    have hx1 : (v.natAbs : Int) * (M / 7 + 1) % (8 * M) < 8 * M := Int.emod_lt_of_pos _ (by first | with_reducible assumption | with_reducible exact Int.le_of_lt (by assumption) | with_reducible exact Nat.le_of_lt (by assumption) | omega)
    generalize (v.natAbs : Int) * (M / 7 + 1) % (8 * M) = x at *
    refine ⟨.of_left (by decide), by omega, ?_⟩
    exact l7_rest hM hM' hL hL2 (.inl ⟨hx0, by omega⟩)
  · rw [if_neg (by simpa using h0), if_pos (by simpa using (show v < 0 by omega))]
    have e3 : ∀ z : Int, z.fmod (24 * M) = z % (24 * M) := fun z => Int.fmod_eq_emod_of_nonneg _ (by first | with_reducible assumption | with_reducible exact Int.le_of_lt (by assumption) | with_reducible exact Nat.le_of_lt (by assumption) | omega)
    rw [e3]
    have hx0 : 0 ≤ (v.natAbs : Int) * (M / 7 + 1) % (24 * M) := Int.emod_nonneg _ (by first | with_reducible assumption | with_reducible exact Int.le_of_lt (by assumption) | with_reducible exact Nat.le_of_lt (by assumption) | omega)
    have hx1 : (v.natAbs : Int) * (M / 7 + 1) % (24 * M) < 24 * M := Int.emod_lt_of_pos _ (by first | with_reducible assumption | with_reducible exact Int.le_of_lt (by assumption) | with_reducible exact Nat.le_of_lt (by assumption) | omega)
    generalize (v.natAbs : Int) * (M / 7 + 1) % (24 * M) = x at *
    refine ⟨.of_left (by decide), by omega, ?_⟩
    refine l7_rest hM hM' hL hL2 ?_
    omega
theorem l7_list {d3 d4 d5 d6 d7 d8 : D} {M L : Int} (ns : List Int) (hl : ns.length ≤ 63) (hM : 1000 ≤ M) (hM' : M ≤ 10 ^ 9) (hL : 2 ≤ L) (hL2 : L ≤ 12) :
    wpS G7 s_law_1 [.list (ns.map .int), .int M, .int L, d3, d4, d5, d6, d7, d8] (fun o _ => o = some (.bool true)) := by
  unfold s_law_1
  have e : cut (ns.map D.int) (some 2) (some 4) = ((ns.drop 2).take 2).map D.int := by
    rw [show (2 : Int) = ((2 : Nat) : Int) from rfl, show (4 : Int) = ((4 : Nat) : Int) from rfl, cut_both _ _ _ (by decide), List.map_take, List.map_drop]
  refine forL_ok (([7, -5, -60] ++ (ns.drop 2).take 2).map .int) ?_ (fun _ ρ => ∃ d3 d4 d5 d6 d7 d8, ρ = [.list (ns.map .int), .int M, .int L, d3, d4, d5, d6, d7, d8]) ⟨_, _, _, _, _, _, rfl⟩ ?_ ?_
  · simp only [wlit, wbo, wvar, wbin, wneg, wnot, wcmp, wcmp2, wany, wite, wcall, wbi, wisI, wisB, wlst, wtup, widx, wslc, wand, wor, wnil, wcons, snil, srais, sret, sset, sset2, saug, site, Mine.get, binW, cmpW, biW, truth, isBP, isIP, intP, Mine.ii, ibP, ilP, slP, tlP, lP, tP, Mine.l1, Mine.l2, Mine.l3, t2P, t3P, augW, Mine.onN, cutP, partP, E.isNil, List.isEmpty_nil, List.isEmpty_cons, List.set, ne_eq, reduceCtorEq, not_false_eq_true, true_and, and_true, if_true, if_false, Bool.false_eq_true, Option.some.injEq, exists_eq_left', Bool.not_true, Bool.not_false]
    rw [e]
    have hz : (((ns.drop 2).take 2).map D.int).length ≤ 2 := by simp; omega
    refine ⟨by simp, by rw [List.length_map]; omega, by omega, by simp only [List.length_cons, List.length_nil]; omega, ?_⟩
    simp
  · rintro k x ρ hx ⟨d3, d4, d5, d6, d7, d8, rfl⟩
    obtain ⟨v, rfl⟩ : ∃ v, x = .int v := by
      rw [List.getElem?_map] at hx
      cases hq : ([7, -5, -60] ++ (ns.drop 2).take 2)[k]? with
      | none => rw [hq] at hx; cases hx
      | some v => rw [hq] at hx; cases hx; exact ⟨v, rfl⟩
    exact l7_turn hM hM' hL hL2
  · rintro ρ ⟨d3, d4, d5, d6, d7, d8, rfl⟩
    unfold s_law_1r
    simp only [wlit, wbo, wvar, wbin, wneg, wnot, wcmp, wcmp2, wany, wite, wcall, wbi, wisI, wisB, wlst, wtup, widx, wslc, wand, wor, wnil, wcons, snil, srais, sret, sset, sset2, saug, site, Mine.get, binW, cmpW, biW, truth, isBP, isIP, intP, Mine.ii, ibP, ilP, slP, tlP, lP, tP, Mine.l1, Mine.l2, Mine.l3, t2P, t3P, augW, Mine.onN, cutP, partP, E.isNil, List.isEmpty_nil, List.isEmpty_cons, List.set, ne_eq, reduceCtorEq, not_false_eq_true, true_and, and_true, if_true, if_false, Bool.false_eq_true, Option.some.injEq, exists_eq_left', Bool.not_true, Bool.not_false]
theorem l7_law (ns : List Int) (hl : ns.length ≤ 63) : wpS G7 s_law (.list (ns.map .int) :: List.replicate 8 .undef) (fun o _ => o = some (.bool true)) := by
  unfold s_law
  simp only [List.replicate]
  rw [sset]
  have go1 : ∀ M : Int, 1000 ≤ M → M ≤ 10 ^ 9 → wpS G7 (.set 2 (.ite (.cmp .Gt (.bi .len (.cons (.var 0) .nil)) (.lit 1)) (.bin .Add (.lit 2) (.bin .Mod (.bi .abs (.cons (.idx (.var 0) (.lit 1)) .nil)) (.lit 11))) (.lit 3))
      s_law_1) [.list (ns.map .int), .int M, .undef, .undef, .undef, .undef, .undef, .undef, .undef] (fun o _ => o = some (.bool true)) := by
    intro M hM hM'
    rw [sset]
    refine if_len hl (fun h => ?_) fun h => ?_
    · rw [wbin, wlit]
      refine draw_mod (c := 11) hl (by decide) h (by decide) (fun P' hP => by rw [wlit]; exact hP) fun v h1 h2 => ?_
      exact l7_list ns hl hM hM' (by first | with_reducible assumption | with_reducible exact Int.le_of_lt (by assumption) | with_reducible exact Nat.le_of_lt (by assumption) | omega) (by first | with_reducible assumption | with_reducible exact Int.le_of_lt (by assumption) | with_reducible exact Nat.le_of_lt (by assumption) | omega)
    · rw [wlit]
      exact l7_list ns hl hM hM' (by decide) (by decide)
  have hb : (Builtin.Int.intBits 10 : Int) * 9 ≤ 2 ^ 27 := by
    have := intBits_le (a := 10) (k := 4) (by decide)
    omega
  refine if_script hl (fun h => ?_) fun h => ?_
  · rw [wbin, wlit]
    refine draw_mod (c := 10 ^ 9 - 999) hl (by decide) (by have := List.length_pos_iff.mpr h; omega) (by decide) (fun P' hP => ?_) fun v h1 h2 => ?_
    · simp only [wlit, wbo, wvar, wbin, wneg, wnot, wcmp, wcmp2, wany, wite, wcall, wbi, wisI, wisB, wlst, wtup, widx, wslc, wand, wor, wnil, wcons, snil, srais, sret, sset, sset2, saug, site, Mine.get, binW, cmpW, biW, truth, isBP, isIP, intP, Mine.ii, ibP, ilP, slP, tlP, lP, tP, Mine.l1, Mine.l2, Mine.l3, t2P, t3P, augW, Mine.onN, cutP, partP, E.isNil, List.isEmpty_nil, List.isEmpty_cons, List.set, ne_eq, reduceCtorEq, not_false_eq_true, true_and, and_true, if_true, if_false, Bool.false_eq_true, Option.some.injEq, exists_eq_left', Bool.not_true, Bool.not_false]
      exact ⟨by decide, hb, hP⟩
    · exact go1 _ (by first | with_reducible assumption | with_reducible exact Int.le_of_lt (by assumption) | with_reducible exact Nat.le_of_lt (by assumption) | omega) (by first | with_reducible assumption | with_reducible exact Int.le_of_lt (by assumption) | with_reducible exact Nat.le_of_lt (by assumption) | omega)
  · rw [wlit]
    exact go1 _ (by decide) (by decide)

set_option maxHeartbeats 8000000 in
open_top hd for PySem.Challenge.rw_dm0265_07
noncomputable abbrev KK (w : World) : Frag := hd.heap_39 w.params
noncomputable def fdOf (w : World) (f : Str) : FuncData := ((fnAt (KK w) f).getD (0, default)).2
noncomputable def adOf (w : World) (f : Str) : Addr := ((fnAt (KK w) f).getD (0, default)).1
theorem f_div (w : World) : fnAt (KK w) "_div_nearest" = some (adOf w "_div_nearest", fdOf w "_div_nearest") := by kernel_rfl
theorem c_div (w : World) : chkFn u_divnearest n_divnearest p_divnearest s_divnearest (fdOf w "_div_nearest") = true := by kernel_rfl
theorem b_div (w : World) (a b : Value) : bindArgs (fdOf w "_div_nearest") ⟨[a, b], []⟩ = pure [(("a" : Str), a), (("b" : Str), b)] := by kernel_rfl
theorem f_iexp (w : World) : fnAt (KK w) "_iexp" = some (adOf w "_iexp", fdOf w "_iexp") := by kernel_rfl
theorem c_iexp (w : World) : chkFn u_iexp n_iexp p_iexp s_iexp (fdOf w "_iexp") = true := by kernel_rfl
theorem b_iexp (w : World) (a b c : Value) (S : Setting) : peek (KK w) S (bindArgs (fdOf w "_iexp") ⟨[a, b, c], []⟩) = some [(("x" : Str), a), (("M" : Str), b), (("L" : Str), c)] := by kernel_rfl
theorem bt_iexp {w : World} {hB : Heap} (KX : (KK w).In hB) (s : Shared) (vs : List Value) (hk : Kp hB s.heap) (hl : vs.length = p_iexp.length) : BindsTo s (fdOf w "_iexp") ⟨vs, []⟩ (p_iexp.zip vs) := by
  match vs, hl with
  | [a, b, c], _ => exact kp_binds (KX.keeps hk) (b_iexp w a b c)
theorem f_exp (w : World) : fnAt (KK w) "_law_exp" = some (adOf w "_law_exp", fdOf w "_law_exp") := by kernel_rfl
theorem c_exp (w : World) : chkFn u_lawexp n_lawexp p_lawexp s_lawexp (fdOf w "_law_exp") = true := by kernel_rfl
theorem b_exp (w : World) (a b : Value) : bindArgs (fdOf w "_law_exp") ⟨[a, b], []⟩ = pure [(("x" : Str), a), (("M" : Str), b)] := by kernel_rfl
theorem f_bnd (w : World) : fnAt (KK w) "_law_bound" = some (adOf w "_law_bound", fdOf w "_law_bound") := by kernel_rfl
theorem c_bnd (w : World) : chkFn u_lawbound n_lawbound p_lawbound s_lawbound (fdOf w "_law_bound") = true := by kernel_rfl
theorem b_bnd (w : World) (a b c : Value) : bindArgs (fdOf w "_law_bound") ⟨[a, b, c], []⟩ = pure [(("x" : Str), a), (("M" : Str), b), (("L" : Str), c)] := by kernel_rfl
theorem us_exp (w : World) : u_lawexp.all (chkB (KK w)) = true := by kernel_rfl
theorem us_bnd (w : World) : u_lawbound.all (chkB (KK w)) = true := by kernel_rfl
theorem us_ok (w : World) : u_law.all (chkB (KK w)) = true := by kernel_rfl
theorem us_div (w : World) : u_divnearest.all (chkB (KK w)) = true := by kernel_rfl
theorem us_iexp (w : World) : u_iexp.all (chkB (KK w)) = true := by kernel_rfl
section
variable {prog : Program} {w : World} {hB : Heap} {p : Program} {loose : List Str} {mean : ExcName → Option Value} {mg mb : Str → Option Value}
theorem gd_ok (KX : (KK w).In hB) (T : Top p loose mean mg mb hB) (f : Str) (ds : List D) (r : D) (h : GD f ds r) : CallsTo prog w hB mg 1 f ds r := by
  cases h with
  | div a b hb hs => exact callsTo_ok KX (wd_of KX T (us_div w)) (f_div w) (c_div w) (Γ := fun _ _ _ => False) (fun _ _ _ h => h.elim) (fun s vs _ hl => two_zip rfl (b_div w) s vs hl) rfl (div_body a b hb hs)
theorem g_ok (KX : (KK w).In hB) (T : Top p loose mean mg mb hB) (f : Str) (ds : List D) (r : D) (h : G7 f ds r) : CallsTo prog w hB mg 2 f ds r := by
  cases h with
  | iexp x M L hM hM' hx hL hL' => exact callsTo_ok KX (wd_of KX T (us_iexp w)) (f_iexp w) (c_iexp w) (Γ := GD) (gd_ok KX T) (bt_iexp KX) rfl (iexp_body x M L hM hM' (by first | with_reducible assumption | with_reducible exact Int.le_of_lt (by assumption) | with_reducible exact Nat.le_of_lt (by assumption) | omega) hL hL')
  | exp x M hM hM' hx h1 h2 => exact (callsTo_ok (n := 1) KX (wd_of KX T (us_exp w)) (f_exp w) (c_exp w) (Γ := fun _ _ _ => False) (fun _ _ _ h => h.elim) (fun s vs _ hl => two_zip rfl (b_exp w) s vs hl) rfl (exp_body x M hM hM' hx h1 h2))
  | bound x M L hM hM' hL hL2 hx => exact (callsTo_ok (n := 1) KX (wd_of KX T (us_bnd w)) (f_bnd w) (c_bnd w) (Γ := fun _ _ _ => False) (fun _ _ _ h => h.elim) (fun s vs _ hl => three_zip rfl (b_bnd w) s vs hl) rfl (bound_body x M L hM hM' hL hL2 hx))
end
end Mine
open Mine in
set_option maxHeartbeats 8000000 in
theorem PySem.Challenge.cw_dm0265_07_holds : PySem.Challenge.rw_dm0265_07.Holds :=
  hd (by
  k_go0; (all_goals try k_fold)
  rename Top _ _ _ _ _ _ => T'
  rename Frag.In _ _ => KX'
  rename Fr _ _ _ _ => F'
  rename IntsAre _ _ => hI'
  rename ¬ ((63 : Int) < _) => hL'
  refine wpAny_mono (law_ok (n := 2) (us := u_law) (x := "script") (N := n_law.tail) (c := s_law) (Γ := G7) (wd_of KX' T' (us_ok _)) (g_ok KX' T') (by kernel_rfl) F' (by assumption) hI' ((aok_law _).le (by decide)) rfl (l7_law _ (by first | with_reducible assumption | with_reducible exact Int.le_of_lt (by assumption) | with_reducible exact Nat.le_of_lt (by assumption) | omega))) (fun f s' h => ?_) (fun _ _ x => x.elim)
  obtain ⟨rfl, m, h', tk, rfl, F2⟩ := h
  dsimp only
  wrow_close)

