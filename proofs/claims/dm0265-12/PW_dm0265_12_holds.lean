import PyProof.Rows.All
import Wide.All
import OpenK.AllK
import Wide.FinOn
import PySem.Challenge.RW_dm0265_12
open PySem PySem.W PyProof.Rows PySem.Spec PySem.Calls
set_option Elab.async false
set_option maxRecDepth 100000
set_option autoImplicit false
set_option genSizeOf false
set_option genSizeOfSpec false
set_option linter.all false
namespace Mine
theorem qz2 {M : Int} (h : 10 ^ 6 ≤ M) : 0 < M := by omega
theorem qz3 {M : Int} (h : 1000 ≤ M) : 0 < M := by omega
theorem qz5 {L : Int} (h : 3 ≤ L) : 1 ≤ L := by omega
theorem qz7 {L : Int} (h : 1 ≤ L) : 0 ≤ L := by omega
theorem qza {L : Int} (h : 0 < L) : L ≠ 0 := by omega
theorem qzc {n : Nat} : (0 : Int) < (n : Int) + 1 := by omega
theorem qzd {n : Nat} : (0 : Int) ≤ (n : Int) := by omega
theorem qr1 {m : Rat} (h : 1000000 ≤ m) : 0 ≤ m := by grind
theorem qr2 {m : Rat} (h : 1000000 ≤ m) : 0 < m := by grind
theorem qr3 {m : Rat} (h : 1 ≤ m) : 0 ≤ m := by grind
theorem qr4 {m : Rat} (h : 0 ≤ m) : 0 ≤ m + 1 := by grind
theorem qr5 {m : Rat} (h : 0 < m) : 0 ≤ 1 + m := by grind
theorem qr6 {m : Rat} (h : 0 < m) : 0 ≤ m + 1 := by grind
theorem qr7 {m : Rat} (h : 1 ≤ m) : 0 < m := by grind
theorem qr8 {a b : Rat} (h : a ≤ b) : 0 ≤ b - a := by grind
theorem qr9 {a : Rat} (h : a ≤ 0) : 0 ≤ -a := by grind
/-! the discrete exponential: powers of 1 + d for a tiny d -/
theorem rmul {a b c d : Rat} (ha : 0 ≤ a) (hd : 0 ≤ d) (h1 : a ≤ b) (h2 : c ≤ d) : a * c ≤ b * d :=
  Rat.le_trans (Rat.mul_le_mul_of_nonneg_left h2 ha) (Rat.mul_le_mul_of_nonneg_right h1 hd)
noncomputable def ex (d : Rat) (p : Int) : Rat := (1 + d) ^ p
section
variable {d : Rat} (hd : 0 < d)
include hd
theorem ex_ne : (1 + d) ≠ 0 := by grind
theorem ex_pos (p : Int) : 0 < ex d p := Rat.zpow_pos (by grind)
omit hd in
theorem ex_zero : ex d 0 = 1 := Rat.zpow_zero _
theorem ex_add (p q : Int) : ex d (p + q) = ex d p * ex d q := Rat.zpow_add (ex_ne hd) p q
theorem ex_succ (p : Int) : ex d (p + 1) = ex d p * (1 + d) := Rat.zpow_add_one (ex_ne hd) p
theorem ex_neg (p : Int) : ex d p * ex d (-p) = 1 := by rw [← ex_add hd, Int.add_right_neg, ex_zero]
theorem ex_two (p : Int) : ex d (2 * p) = ex d p * ex d p := by rw [← ex_add hd]; congr 1; (first | (clear hd; omega) | omega)
theorem ex_ge_nat (n : Nat) : 1 + (n : Rat) * d ≤ ex d (n : Int) := by
  induction n with
  | zero => rw [show ((0 : Nat) : Int) = 0 from rfl, ex_zero]; (first | (clear hd; grind) | grind)
  | succ n ih =>
    rw [show ((n + 1 : Nat) : Int) = (n : Int) + 1 by (first | (clear hd ih; omega) | omega), ex_succ hd, show ((n + 1 : Nat) : Rat) = (n : Rat) + 1 by norm_cast]
    have h1 := Rat.mul_le_mul_of_nonneg_right ih (show 0 ≤ 1 + d by first | with_reducible assumption | with_reducible exact Rat.le_of_lt (by assumption) | decide +kernel | with_reducible exact qr1 (by assumption) | with_reducible exact qr2 (by assumption) | with_reducible exact qr3 (by assumption) | with_reducible exact qr4 (by assumption) | with_reducible exact qr5 (by assumption) | with_reducible exact qr6 (by assumption) | with_reducible exact qr7 (by assumption) | with_reducible exact qr8 (by assumption) | with_reducible exact qr9 (by assumption) | grind)
    have h2 : 0 ≤ (n : Rat) * d * d := Rat.mul_nonneg (Rat.mul_nonneg Rat.natCast_nonneg (by first | with_reducible assumption | with_reducible exact Rat.le_of_lt (by assumption) | decide +kernel | with_reducible exact qr1 (by assumption) | with_reducible exact qr2 (by assumption) | with_reducible exact qr3 (by assumption) | with_reducible exact qr4 (by assumption) | with_reducible exact qr5 (by assumption) | with_reducible exact qr6 (by assumption) | with_reducible exact qr7 (by assumption) | with_reducible exact qr8 (by assumption) | with_reducible exact qr9 (by assumption) | grind)) (by first | with_reducible assumption | with_reducible exact Rat.le_of_lt (by assumption) | decide +kernel | with_reducible exact qr1 (by assumption) | with_reducible exact qr2 (by assumption) | with_reducible exact qr3 (by assumption) | with_reducible exact qr4 (by assumption) | with_reducible exact qr5 (by assumption) | with_reducible exact qr6 (by assumption) | with_reducible exact qr7 (by assumption) | with_reducible exact qr8 (by assumption) | with_reducible exact qr9 (by assumption) | grind)
    (first | (clear hd ih; grind) | grind)
theorem ex_neg_nat (n : Nat) : 1 - (n : Rat) * d ≤ ex d (-(n : Int)) := by
  induction n with
  | zero => rw [show (-((0 : Nat) : Int)) = 0 from rfl, ex_zero]; (first | (clear hd; grind) | grind)
  | succ n ih =>
    have e := ex_succ hd (-((n + 1 : Nat) : Int))
    rw [show -((n + 1 : Nat) : Int) + 1 = -(n : Int) by (first | (clear hd ih e; omega) | omega)] at e
    have e1 : ex d (-(n : Int)) ≤ 1 := by
      have h1 := ex_ge_nat hd n
      have h2 := ex_neg hd (n : Int)
      have h3 := ex_pos hd (-(n : Int))
      have h4 : 0 ≤ (n : Rat) * d := Rat.mul_nonneg Rat.natCast_nonneg (by first | with_reducible assumption | with_reducible exact Rat.le_of_lt (by assumption) | decide +kernel | with_reducible exact qr1 (by assumption) | with_reducible exact qr2 (by assumption) | with_reducible exact qr3 (by assumption) | with_reducible exact qr4 (by assumption) | with_reducible exact qr5 (by assumption) | with_reducible exact qr6 (by assumption) | with_reducible exact qr7 (by assumption) | with_reducible exact qr8 (by assumption) | with_reducible exact qr9 (by assumption) | grind)
      have h5 := Rat.mul_le_mul_of_nonneg_right (show 1 ≤ ex d (n : Int) by (first | (clear hd ih e h2 h3; grind) | grind)) (show 0 ≤ ex d (-(n : Int)) by first | with_reducible assumption | with_reducible exact Rat.le_of_lt (by assumption) | decide +kernel | with_reducible exact qr1 (by assumption) | with_reducible exact qr2 (by assumption) | with_reducible exact qr3 (by assumption) | with_reducible exact qr4 (by assumption) | with_reducible exact qr5 (by assumption) | with_reducible exact qr6 (by assumption) | with_reducible exact qr7 (by assumption) | with_reducible exact qr8 (by assumption) | with_reducible exact qr9 (by assumption) | grind)
      (first | (clear hd ih e h1 h3 h4; grind) | grind)
    have h6 : ex d (-((n + 1 : Nat) : Int)) ≤ ex d (-(n : Int)) := by
      have h3 := ex_pos hd (-((n + 1 : Nat) : Int))
      have := Rat.mul_nonneg (show 0 ≤ ex d (-((n + 1 : Nat) : Int)) by first | with_reducible assumption | with_reducible exact Rat.le_of_lt (by assumption) | decide +kernel | with_reducible exact qr1 (by assumption) | with_reducible exact qr2 (by assumption) | with_reducible exact qr3 (by assumption) | with_reducible exact qr4 (by assumption) | with_reducible exact qr5 (by assumption) | with_reducible exact qr6 (by assumption) | with_reducible exact qr7 (by assumption) | with_reducible exact qr8 (by assumption) | with_reducible exact qr9 (by assumption) | grind) (show 0 ≤ d by first | with_reducible assumption | with_reducible exact Rat.le_of_lt (by assumption) | decide +kernel | with_reducible exact qr1 (by assumption) | with_reducible exact qr2 (by assumption) | with_reducible exact qr3 (by assumption) | with_reducible exact qr4 (by assumption) | with_reducible exact qr5 (by assumption) | with_reducible exact qr6 (by assumption) | with_reducible exact qr7 (by assumption) | with_reducible exact qr8 (by assumption) | with_reducible exact qr9 (by assumption) | grind)
      (first | (clear hd ih e1 h3; grind) | grind)
    have h7 := Rat.mul_le_mul_of_nonneg_right (show ex d (-((n + 1 : Nat) : Int)) ≤ 1 by (first | (clear hd ih e; grind) | grind)) (show 0 ≤ d by first | with_reducible assumption | with_reducible exact Rat.le_of_lt (by assumption) | decide +kernel | with_reducible exact qr1 (by assumption) | with_reducible exact qr2 (by assumption) | with_reducible exact qr3 (by assumption) | with_reducible exact qr4 (by assumption) | with_reducible exact qr5 (by assumption) | with_reducible exact qr6 (by assumption) | with_reducible exact qr7 (by assumption) | with_reducible exact qr8 (by assumption) | with_reducible exact qr9 (by assumption) | grind)
    rw [show ((n + 1 : Nat) : Rat) = (n : Rat) + 1 by norm_cast]
    (first | (clear hd e1 h6; grind) | grind)
/-- 1 + x is at most exp x -/
theorem ex_ge (p : Int) : 1 + (p : Rat) * d ≤ ex d p := by
  by_cases h : 0 ≤ p
  · obtain ⟨n, rfl⟩ := Int.eq_ofNat_of_zero_le h
    exact ex_ge_nat hd n
  · obtain ⟨n, hn⟩ := Int.eq_ofNat_of_zero_le (show 0 ≤ -p by (first | (clear hd; omega) | omega))
    have : p = -(n : Int) := by (first | (clear hd h; omega) | omega)
    subst this
    have := ex_neg_nat hd n
    rw [Rat.intCast_neg, Rat.intCast_natCast]
    (first | (clear hd h hn; grind) | grind)
/-- exp x is at most 1 / (1 - x) -/
theorem ex_le (p : Int) : (1 - (p : Rat) * d) * ex d p ≤ 1 := by
  have h1 := ex_ge hd (-p)
  have h2 := ex_pos hd p
  rw [Rat.intCast_neg] at h1
  have h3 := Rat.mul_le_mul_of_nonneg_right h1 (Rat.le_of_lt h2)
  have h4 := ex_neg hd p
  (first | (clear hd h1 h2; grind) | grind)
theorem ex_mono {p q : Int} (h : p ≤ q) : ex d p ≤ ex d q := by
  have e : q = p + (q - p) := by (first | (clear hd h; omega) | omega)
  rw [e, ex_add hd]
  have h1 := ex_ge hd (q - p)
  have h2 := ex_pos hd p
  have h3 : 0 ≤ ((q - p : Int) : Rat) := Rat.intCast_nonneg.mpr (by (first | (clear hd e h1 h2; omega) | omega))
  have h4 := Rat.mul_nonneg h3 (Rat.le_of_lt hd)
  have := Rat.mul_le_mul_of_nonneg_left (show 1 ≤ ex d (q - p) by (first | (clear hd h e h2 h3; grind) | grind)) (Rat.le_of_lt h2)
  (first | (clear hd h e h1 h2 h3 h4; grind) | grind)
theorem ex_one_le {p : Int} (h : 0 ≤ p) : 1 ≤ ex d p := by
  have := ex_mono hd h
  rwa [ex_zero] at this
theorem ex_le_one {p : Int} (h : p ≤ 0) : ex d p ≤ 1 := by
  have := ex_mono hd h
  rwa [ex_zero] at this
end

/-! the rows of exp -/
noncomputable def tm : Nat → Rat → Rat
  | 0, _ => 1
  | n + 1, x => tm n x * x / ((n : Rat) + 1)
noncomputable def sm : Nat → Rat → Rat
  | 0, _ => 1
  | n + 1, x => sm n x + tm (n + 1) x
theorem npos (n : Nat) : (0 : Rat) < (n : Rat) + 1 := by
  have : (0 : Rat) ≤ (n : Rat) := Rat.natCast_nonneg
  grind
theorem tm_succ (n : Nat) (x : Rat) : ((n : Rat) + 1) * tm (n + 1) x = tm n x * x := by
  have := npos n
  show ((n : Rat) + 1) * (tm n x * x / ((n : Rat) + 1)) = _
  (first | (clear this; grind) | grind)
theorem tm_nonneg {x : Rat} (hx : 0 ≤ x) (n : Nat) : 0 ≤ tm n x := by
  induction n with
  | zero => show (0 : Rat) ≤ 1; decide
  | succ n ih =>
    have h1 := tm_succ n x
    have h2 := Rat.mul_nonneg ih hx
    have h3 := npos n
    refine Rat.not_lt.mp fun hlt => ?_
    have := Rat.mul_lt_mul_of_pos_left hlt h3
    (first | (clear hx ih h3 hlt; grind) | grind)
theorem sm_ge_one {x : Rat} (hx : 0 ≤ x) (n : Nat) : 1 ≤ sm n x := by
  induction n with
  | zero => exact Rat.le_refl
  | succ n ih =>
    have := tm_nonneg hx (n + 1)
    show 1 ≤ sm n x + tm (n + 1) x
    (first | (clear hx; grind) | grind)
theorem div_le' {a b c : Rat} (hc : 0 < c) (h : c * a ≤ c * b) : a ≤ b := Rat.le_of_mul_le_mul_left h hc
/-- a row's growth, from below -/
theorem tm_lo {x d : Rat} (hx : 0 ≤ x) (hd : 0 ≤ d) (n : Nat) : tm (n + 1) x + d * tm n x ≤ tm (n + 1) (x + d) := by
  induction n with
  | zero =>
    show 1 * x / (((0 : Nat) : Rat) + 1) + d * 1 ≤ 1 * (x + d) / (((0 : Nat) : Rat) + 1)
    rw [show ((0 : Nat) : Rat) = 0 from rfl]
    (first | (clear hx hd; grind) | grind)
  | succ n ih =>
    have h1 := tm_succ (n + 1) x
    have h2 := tm_succ (n + 1) (x + d)
    have h3 := tm_succ n x
    have h4 := Rat.mul_le_mul_of_nonneg_right ih (show 0 ≤ x + d by (first | (clear ih h1 h2 h3; grind) | grind))
    have h5 := Rat.mul_nonneg (Rat.mul_nonneg hd hd) (tm_nonneg hx n)
    have h6 := npos (n + 1)
    rw [show ((n + 1 : Nat) : Rat) = (n : Rat) + 1 by norm_cast] at *
    refine div_le' h6 ?_
    generalize tm (n + 1 + 1) (x + d) = a at *
    generalize tm (n + 1 + 1) x = b at *
    generalize tm (n + 1) (x + d) = a' at *
    generalize tm (n + 1) x = b' at *
    generalize tm n x = c at *
    have h7 : d * (((n : Rat) + 1) * b') = d * (c * x) := by rw [h3]
    (first | (clear hx hd h6 h3 ih; grind) | grind)
/-- and from above -/
theorem tm_hi {x d : Rat} (hx : 0 ≤ x) (hd : 0 ≤ d) (n : Nat) : tm (n + 1) (x + d) ≤ tm (n + 1) x + d * tm n (x + d) := by
  induction n with
  | zero =>
    show 1 * (x + d) / (((0 : Nat) : Rat) + 1) ≤ 1 * x / (((0 : Nat) : Rat) + 1) + d * 1
    rw [show ((0 : Nat) : Rat) = 0 from rfl]
    (first | (clear hx hd; grind) | grind)
  | succ n ih =>
    have h1 := tm_succ (n + 1) x
    have h2 := tm_succ (n + 1) (x + d)
    have h3 := tm_succ n (x + d)
    have h4 := Rat.mul_le_mul_of_nonneg_right ih hx
    have h5 := Rat.mul_nonneg (Rat.mul_nonneg hd hd) (tm_nonneg (show 0 ≤ x + d by (first | (clear ih h1 h2 h3 h4; grind) | grind)) n)
    have h6 := npos (n + 1)
    rw [show ((n + 1 : Nat) : Rat) = (n : Rat) + 1 by norm_cast] at *
    refine div_le' h6 ?_
    generalize tm (n + 1 + 1) (x + d) = a at *
    generalize tm (n + 1 + 1) x = b at *
    generalize tm (n + 1) (x + d) = a' at *
    generalize tm (n + 1) x = b' at *
    generalize tm n (x + d) = c at *
    have h7 : d * (((n : Rat) + 1) * a') = d * (c * (x + d)) := by rw [h3]
    (first | (clear hx hd h6 h3 ih; grind) | grind)
theorem tm_mono {x y : Rat} (hx : 0 ≤ x) (h : x ≤ y) (n : Nat) : tm n x ≤ tm n y := by
  cases n with
  | zero => exact Rat.le_refl
  | succ n =>
    have := tm_lo hx (show 0 ≤ y - x by first | with_reducible assumption | with_reducible exact Rat.le_of_lt (by assumption) | decide +kernel | with_reducible exact qr1 (by assumption) | with_reducible exact qr2 (by assumption) | with_reducible exact qr3 (by assumption) | with_reducible exact qr4 (by assumption) | with_reducible exact qr5 (by assumption) | with_reducible exact qr6 (by assumption) | with_reducible exact qr7 (by assumption) | with_reducible exact qr8 (by assumption) | with_reducible exact qr9 (by assumption) | grind) n
    have h2 := Rat.mul_nonneg (show 0 ≤ y - x by first | with_reducible assumption | with_reducible exact Rat.le_of_lt (by assumption) | decide +kernel | with_reducible exact qr1 (by assumption) | with_reducible exact qr2 (by assumption) | with_reducible exact qr3 (by assumption) | with_reducible exact qr4 (by assumption) | with_reducible exact qr5 (by assumption) | with_reducible exact qr6 (by assumption) | with_reducible exact qr7 (by assumption) | with_reducible exact qr8 (by assumption) | with_reducible exact qr9 (by assumption) | grind) (tm_nonneg hx n)
    rw [show x + (y - x) = y by (first | (clear hx h this h2; grind) | grind)] at this
    (first | (clear hx h; grind) | grind)
theorem sm_mono {x y : Rat} (hx : 0 ≤ x) (h : x ≤ y) (n : Nat) : sm n x ≤ sm n y := by
  induction n with
  | zero => exact Rat.le_refl
  | succ n ih =>
    have := tm_mono hx h (n + 1)
    show sm n x + tm (n + 1) x ≤ sm n y + tm (n + 1) y
    (first | (clear hx h; grind) | grind)

theorem sm_succ (T : Nat) (x : Rat) : sm (T + 1) x = sm T x + tm (T + 1) x := rfl
theorem tm_one (x : Rat) : tm 1 x = x := by
  show 1 * x / (((0 : Nat) : Rat) + 1) = x
  rw [show ((0 : Nat) : Rat) = 0 from rfl]
  grind
theorem tm_zero (n : Nat) : tm (n + 1) 0 = 0 := by
  show tm n 0 * 0 / ((n : Rat) + 1) = 0
  rw [Rat.mul_zero, Rat.div_def, Rat.zero_mul]
theorem sm_zero (n : Nat) : sm n 0 = 1 := by
  induction n with
  | zero => rfl
  | succ n ih => rw [sm_succ, ih, tm_zero]; (first | (clear ih; grind) | grind)
theorem sm_lo {x d : Rat} (hx : 0 ≤ x) (hd : 0 ≤ d) (T : Nat) : sm (T + 1) x + d * sm T x ≤ sm (T + 1) (x + d) := by
  induction T with
  | zero => have := tm_lo hx hd 0; show 1 + tm 1 x + d * 1 ≤ 1 + tm 1 (x + d); have e : tm 0 x = 1 := rfl; rw [e] at this; (first | (clear hx hd e; grind) | grind)
  | succ T ih =>
    have := tm_lo hx hd (T + 1)
    rw [sm_succ (T + 1), sm_succ (T + 1)]
    have e : d * sm (T + 1) x = d * sm T x + d * tm (T + 1) x := by rw [sm_succ]; (first | (clear hx hd ih this; grind) | grind)
    (first | (clear hx hd; grind) | grind)
theorem sm_hi {x d : Rat} (hx : 0 ≤ x) (hd : 0 ≤ d) (T : Nat) : sm (T + 1) (x + d) ≤ sm (T + 1) x + d * sm T (x + d) := by
  induction T with
  | zero => have := tm_hi hx hd 0; show 1 + tm 1 (x + d) ≤ 1 + tm 1 x + d * 1; have e : tm 0 (x + d) = 1 := rfl; rw [e] at this; (first | (clear hx hd e; grind) | grind)
  | succ T ih =>
    have := tm_hi hx hd (T + 1)
    rw [sm_succ (T + 1), sm_succ (T + 1)]
    have e : d * sm (T + 1) (x + d) = d * sm T (x + d) + d * tm (T + 1) (x + d) := by rw [sm_succ]; (first | (clear hx hd ih this; grind) | grind)
    (first | (clear hx hd; grind) | grind)
theorem sm_hi' {x d : Rat} (hx : 0 ≤ x) (hd : 0 ≤ d) (T : Nat) : sm T (x + d) * (1 - d) ≤ sm T x := by
  cases T with
  | zero => show 1 * (1 - d) ≤ 1; (first | (clear hx; grind) | grind)
  | succ T =>
    have h1 := sm_hi hx hd T
    have h2 := tm_nonneg (show 0 ≤ x + d by (first | (clear h1; grind) | grind)) (T + 1)
    have h3 := Rat.mul_nonneg hd h2
    have e := sm_succ T (x + d)
    have e2 : d * sm (T + 1) (x + d) = d * sm T (x + d) + d * tm (T + 1) (x + d) := by rw [e]; (first | (clear hx hd h1 h2 h3 e; grind) | grind)
    (first | (clear hx hd h2 e; grind) | grind)
theorem cast_succ (n : Nat) : ((n + 1 : Nat) : Rat) = (n : Rat) + 1 := by norm_cast
section
variable {d : Rat} (hd : 0 < d)
include hd
/-- the rows and what they leave out, from above -/
theorem ex_up (T p : Nat) : ex d p ≤ sm T ((p : Rat) * d) + tm (T + 1) ((p : Rat) * d) * ex d p := by
  induction T generalizing p with
  | zero =>
    have := ex_le hd (p : Int)
    rw [Rat.intCast_natCast] at this
    rw [tm_one]
    show ex d p ≤ 1 + _
    (first | (clear hd; grind) | grind)
  | succ T ih =>
    induction p with
    | zero =>
      rw [show (((0 : Nat) : Int)) = 0 from rfl, ex_zero]
      have h1 := sm_ge_one (x := ((0 : Nat) : Rat) * d) (by rw [show ((0 : Nat) : Rat) = 0 from rfl]; (first | (clear hd ih; grind) | grind)) (T + 1)
      have h2 := tm_nonneg (x := ((0 : Nat) : Rat) * d) (by rw [show ((0 : Nat) : Rat) = 0 from rfl]; (first | (clear hd ih h1; grind) | grind)) (T + 1 + 1)
      (first | (clear hd ih; grind) | grind)
    | succ p ihp =>
      have hx : 0 ≤ (p : Rat) * d := Rat.mul_nonneg Rat.natCast_nonneg (Rat.le_of_lt hd)
      have e1 : ex d ((p + 1 : Nat) : Int) = ex d p * (1 + d) := by rw [show ((p + 1 : Nat) : Int) = (p : Int) + 1 by (first | (clear hd ih ihp hx; omega) | omega), ex_succ hd]
      have e2 : ((p + 1 : Nat) : Rat) * d = (p : Rat) * d + d := by rw [cast_succ]; (first | (clear hd ih ihp hx e1; grind) | grind)
      have h1 := ih p
      have h2 := sm_lo hx (Rat.le_of_lt hd) T
      have h3 := tm_lo hx (Rat.le_of_lt hd) (T + 1)
      have h4 := ex_pos hd p
      have h5 := tm_nonneg (show 0 ≤ (p : Rat) * d + d by (first | (clear ih ihp e1 e2 h1 h2 h3 h4; grind) | grind)) (T + 1 + 1)
      rw [e1, e2]
      generalize (p : Rat) * d = x at *
      generalize sm (T + 1) (x + d) = s' at *
      generalize tm (T + 1 + 1) (x + d) = t' at *
      generalize tm (T + 1 + 1) x = t2 at *
      generalize tm (T + 1) x = t1 at *
      generalize sm (T + 1) x = s1 at *
      generalize sm T x = s0 at *
      generalize ex d p = e at *
      have h6 := Rat.mul_le_mul_of_nonneg_right h3 (Rat.le_of_lt h4)
      have h7 := Rat.mul_le_mul_of_nonneg_left h1 (Rat.le_of_lt hd)
      have h8 := Rat.mul_nonneg (Rat.mul_nonneg h5 (Rat.le_of_lt h4)) (Rat.le_of_lt hd)
      (first | (clear hd ih hx e2 h5 h3 e1 h4 h1; grind) | grind)
/-- and from below -/
theorem ex_dn (T p : Nat) (h : (p : Rat) * d * d ≤ 1) : sm T ((p : Rat) * d) * (1 - (p : Rat) * d * d) ≤ ex d p := by
  induction p with
  | zero =>
    rw [show (((0 : Nat) : Int)) = 0 from rfl, ex_zero, show ((0 : Nat) : Rat) * d = 0 by rw [show ((0 : Nat) : Rat) = 0 from rfl]; (first | (clear hd h; grind) | grind)]
    rw [sm_zero]
    (first | (clear hd h; grind) | grind)
  | succ p ih =>
    have hx : 0 ≤ (p : Rat) * d := Rat.mul_nonneg Rat.natCast_nonneg (Rat.le_of_lt hd)
    have e1 : ex d ((p + 1 : Nat) : Int) = ex d p * (1 + d) := by rw [show ((p + 1 : Nat) : Int) = (p : Int) + 1 by (first | (clear hd ih h hx; omega) | omega), ex_succ hd]
    have e2 : ((p + 1 : Nat) : Rat) * d = (p : Rat) * d + d := by rw [cast_succ]; (first | (clear hd ih h hx e1; grind) | grind)
    rw [e2] at h
    have hdd : 0 < d * d := Rat.mul_pos hd hd
    have h1 := ih (by (first | (clear hd ih hx e1 e2; grind) | grind))
    have h2 := sm_hi' hx (Rat.le_of_lt hd) T
    have h3 := sm_ge_one (show 0 ≤ (p : Rat) * d + d by (first | (clear ih h e1 e2 hdd h1 h2; grind) | grind)) T
    have h4 : 0 ≤ 1 - (p : Rat) * d * d := by (first | (clear hd ih hx e1 e2 h1 h2 h3; grind) | grind)
    rw [e1, e2]
    have h0 : 0 ≤ (p : Rat) * d * d := Rat.mul_nonneg hx (Rat.le_of_lt hd)
    generalize (p : Rat) * d = x at *
    generalize sm T (x + d) = s' at *
    generalize sm T x = s at *
    generalize ex d p = e at *
    have h5 := Rat.mul_le_mul_of_nonneg_right h2 h4
    have h6 := Rat.mul_le_mul_of_nonneg_right (Rat.le_trans h5 h1) (show 0 ≤ 1 + d by first | with_reducible assumption | with_reducible exact Rat.le_of_lt (by assumption) | decide +kernel | with_reducible exact qr1 (by assumption) | with_reducible exact qr2 (by assumption) | with_reducible exact qr3 (by assumption) | with_reducible exact qr4 (by assumption) | with_reducible exact qr5 (by assumption) | with_reducible exact qr6 (by assumption) | with_reducible exact qr7 (by assumption) | with_reducible exact qr8 (by assumption) | with_reducible exact qr9 (by assumption) | grind)
    have h7 := Rat.mul_nonneg (Rat.mul_nonneg (show 0 ≤ s' by first | with_reducible assumption | with_reducible exact Rat.le_of_lt (by assumption) | decide +kernel | with_reducible exact qr1 (by assumption) | with_reducible exact qr2 (by assumption) | with_reducible exact qr3 (by assumption) | with_reducible exact qr4 (by assumption) | with_reducible exact qr5 (by assumption) | with_reducible exact qr6 (by assumption) | with_reducible exact qr7 (by assumption) | with_reducible exact qr8 (by assumption) | with_reducible exact qr9 (by assumption) | grind) h0) (Rat.le_of_lt hdd)
    (first | (clear hd hdd h hx e2 h4 h0 h3 h2 e1 ih h1 h5; grind) | grind)
end

/-! below nought -/
noncomputable def sg : Nat → Rat
  | 0 => 1
  | n + 1 => - sg n
theorem sg_cases (n : Nat) : sg n = 1 ∨ sg n = -1 := by
  induction n with
  | zero => exact .inl rfl
  | succ n ih => rcases ih with h | h <;> simp [sg, h]
theorem tm_neg (n : Nat) (x : Rat) : tm n (-x) = sg n * tm n x := by
  induction n with
  | zero => show (1 : Rat) = 1 * 1; grind
  | succ n ih =>
    show tm n (-x) * (-x) / ((n : Rat) + 1) = - sg n * (tm n x * x / ((n : Rat) + 1))
    rw [ih]
    have := npos n
    (first | (clear ih this; grind) | grind)
theorem tm_turn {x d : Rat} (hx : 0 ≤ x) (hd : 0 ≤ d) (n : Nat) :
    -(d * d * tm n (x + d)) ≤ tm (n + 2) (-(x + d)) - tm (n + 2) (-x) + d * tm (n + 1) (-x) ∧ tm (n + 2) (-(x + d)) - tm (n + 2) (-x) + d * tm (n + 1) (-x) ≤ d * d * tm n (x + d) := by
  rw [tm_neg, tm_neg, tm_neg]
  have h1 := tm_lo hx hd (n + 1)
  have h2 := tm_hi hx hd (n + 1)
  have h3 := Rat.mul_le_mul_of_nonneg_left (tm_hi hx hd n) hd
  have e : sg (n + 2) = sg n := by show - - sg n = sg n; (first | (clear hx hd h1 h2 h3; grind) | grind)
  have e1 : sg (n + 1) = - sg n := rfl
  rw [e, e1]
  have h4 := Rat.mul_nonneg (Rat.mul_nonneg hd hd) (tm_nonneg (show 0 ≤ x + d by (first | (clear h1 h2 h3 e e1; grind) | grind)) n)
  generalize tm (n + 1 + 1) (x + d) = a at *
  generalize tm (n + 1) (x + d) = b at *
  generalize tm n (x + d) = c at *
  have e3 : tm (n + 2) x = tm (n + 1 + 1) x := rfl
  have e4 : tm (n + 2) (x + d) = tm (n + 1 + 1) (x + d) := rfl
  rcases sg_cases n with h | h <;> rw [h] <;> constructor <;> (first | (clear hx hd e e1 h4 e3 e4 h; grind) | grind)
theorem sm_turn {x d : Rat} (hx : 0 ≤ x) (hd : 0 ≤ d) (T : Nat) :
    -(d * d * sm T (x + d)) ≤ sm (T + 2) (-(x + d)) - sm (T + 2) (-x) + d * sm (T + 1) (-x) ∧ sm (T + 2) (-(x + d)) - sm (T + 2) (-x) + d * sm (T + 1) (-x) ≤ d * d * sm T (x + d) := by
  induction T with
  | zero =>
    have h1 := tm_turn hx hd 0
    have e : ∀ y, sm (0 + 1) y = 1 + y := fun y => by show 1 + tm 1 y = 1 + y; rw [tm_one]
    have e2 : ∀ y, sm (0 + 2) y = 1 + y + tm (0 + 2) y := fun y => by rw [← e y]; rfl
    have e0 : ∀ y, sm 0 y = 1 := fun y => rfl
    have e3 : tm 0 (x + d) = 1 := rfl
    rw [e2, e2, e, e0]
    rw [tm_one, e3] at h1
    constructor <;> (first | (clear hx hd e e2 e0 e3; grind) | grind)
  | succ T ih =>
    have h1 := tm_turn hx hd (T + 1)
    rw [sm_succ (T + 1 + 1), sm_succ (T + 1 + 1)]
    have e : d * sm (T + 1 + 1) (-x) = d * sm (T + 1) (-x) + d * tm (T + 1 + 1) (-x) := by rw [sm_succ]; (first | (clear hx hd ih h1; grind) | grind)
    have e2 : d * d * sm (T + 1) (x + d) = d * d * sm T (x + d) + d * d * tm (T + 1) (x + d) := by rw [sm_succ]; (first | (clear hx hd ih h1 e; grind) | grind)
    rw [e, e2]
    constructor <;> (first | (clear hx hd e e2; grind) | grind)
theorem sm_one_le (T : Nat) : sm T 1 ≤ 3 := by
  cases T with
  | zero => show (1 : Rat) ≤ 3; decide
  | succ T =>
    have key : sm (T + 1) 1 + tm (T + 1) 1 ≤ 3 := by
      induction T with
      | zero => rw [sm_succ, tm_one]; show (1 : Rat) + 1 + 1 ≤ 3; grind
      | succ T ih =>
        have h1 := tm_succ (T + 1) 1
        have h2 := tm_nonneg (show (0 : Rat) ≤ 1 by decide) (T + 1 + 1)
        have h3 : (0 : Rat) ≤ (T : Rat) := Rat.natCast_nonneg
        have h4 := Rat.mul_nonneg h3 h2
        rw [cast_succ] at h1
        rw [sm_succ (T + 1)]
        (first | (clear h2 h3; grind) | grind)
    have := tm_nonneg (show (0 : Rat) ≤ 1 by decide) (T + 1)
    grind
theorem sm_turn3 {x d : Rat} (hx : 0 ≤ x) (hd : 0 ≤ d) (h : x + d ≤ 1) (T : Nat) :
    -(3 * d * d) ≤ sm (T + 1) (-(x + d)) - sm (T + 1) (-x) + d * sm T (-x) ∧ sm (T + 1) (-(x + d)) - sm (T + 1) (-x) + d * sm T (-x) ≤ 3 * d * d := by
  have hdd := Rat.mul_nonneg hd hd
  cases T with
  | zero =>
    have e : ∀ y, sm (0 + 1) y = 1 + y := fun y => by show 1 + tm 1 y = 1 + y; rw [tm_one]
    have e0 : ∀ y, sm 0 y = 1 := fun y => rfl
    rw [e, e, e0]
    constructor <;> (first | (clear hx hd h e e0; grind) | grind)
  | succ T =>
    have h1 := sm_turn hx hd T
    have h2 := Rat.mul_le_mul_of_nonneg_left (Rat.le_trans (sm_mono (show 0 ≤ x + d by (first | (clear h hdd h1; grind) | grind)) h T) (sm_one_le T)) hdd
    constructor <;> (first | (clear hx hd h hdd; grind) | grind)
section
variable {d : Rat} (hd : 0 < d)
include hd
/-- below nought the rows turn about exp -/
theorem ex_alt (T p : Nat) (h : (p : Rat) * d ≤ 1) :
    -(tm (T + 1) ((p : Rat) * d) + 4 * (T : Rat) * d * ((p : Rat) * d)) ≤ ex d (-(p : Int)) - sm T (-((p : Rat) * d)) ∧ ex d (-(p : Int)) - sm T (-((p : Rat) * d)) ≤ tm (T + 1) ((p : Rat) * d) + 4 * (T : Rat) * d * ((p : Rat) * d) := by
  induction T generalizing p with
  | zero =>
    have h1 := ex_neg_nat hd p
    have h2 := ex_le_one hd (show -(p : Int) ≤ 0 by (first | (clear hd h h1; omega) | omega))
    have hx : 0 ≤ (p : Rat) * d := Rat.mul_nonneg Rat.natCast_nonneg (Rat.le_of_lt hd)
    have e0 : sm 0 (-((p : Rat) * d)) = 1 := rfl
    rw [tm_one, e0, show ((0 : Nat) : Rat) = 0 from rfl]
    constructor <;> (first | (clear hd h e0; grind) | grind)
  | succ T ih =>
    induction p with
    | zero =>
      have e : ((0 : Nat) : Rat) * d = 0 := by rw [show ((0 : Nat) : Rat) = 0 from rfl]; (first | (clear hd ih h; grind) | grind)
      rw [e, show (-((0 : Nat) : Int)) = 0 from rfl, ex_zero, show -(0 : Rat) = 0 from rfl]
      rw [sm_zero, tm_zero]
      constructor <;> (first | (clear hd ih h e; grind) | grind)
    | succ p ihp =>
      have hx : 0 ≤ (p : Rat) * d := Rat.mul_nonneg Rat.natCast_nonneg (Rat.le_of_lt hd)
      have e1 : ex d (-(p : Int)) = ex d (-((p + 1 : Nat) : Int)) * (1 + d) := by rw [← ex_succ hd]; congr 1; (first | (clear hd ih ihp h hx; omega) | omega)
      have e2 : ((p + 1 : Nat) : Rat) * d = (p : Rat) * d + d := by rw [cast_succ]; (first | (clear hd ih ihp h hx e1; grind) | grind)
      rw [e2] at h ⊢
      have h0 := ihp (by (first | (clear ih ihp hx e1 e2; grind) | grind))
      have h1 := ih p (by (first | (clear ih ihp hx e1 e2 h0; grind) | grind))
      have h2 := sm_turn3 hx (Rat.le_of_lt hd) h T
      have h3 := tm_lo hx (Rat.le_of_lt hd) (T + 1)
      have h4 := ex_pos hd (-((p + 1 : Nat) : Int))
      have h5 := ex_le_one hd (show -((p + 1 : Nat) : Int) ≤ 0 by (first | (clear hd ih ihp h hx e1 e2 h0 h1 h2 h3 h4; omega) | omega))
      have hT : (0 : Rat) ≤ (T : Rat) := Rat.natCast_nonneg
      rw [e1] at h0 h1
      rw [cast_succ] at *
      generalize (p : Rat) * d = x at *
      generalize ex d (-((p + 1 : Nat) : Int)) = e at *
      generalize sm (T + 1) (-(x + d)) = s' at *
      generalize sm (T + 1) (-x) = s1 at *
      generalize sm T (-x) = s0 at *
      generalize tm (T + 1 + 1) (x + d) = t' at *
      generalize tm (T + 1 + 1) x = t2 at *
      generalize tm (T + 1) x = t1 at *
      generalize (T : Rat) = T at *
      have hdd : 0 ≤ d * d := Rat.mul_nonneg (Rat.le_of_lt hd) (Rat.le_of_lt hd)
      have h6 := Rat.mul_le_mul_of_nonneg_left h1.1 (Rat.le_of_lt hd)
      have h7 := Rat.mul_le_mul_of_nonneg_left h1.2 (Rat.le_of_lt hd)
      have h8 := Rat.mul_le_mul_of_nonneg_left h5 hdd
      have h9 := Rat.mul_nonneg hdd (Rat.le_of_lt h4)
      have h10 := Rat.mul_le_mul_of_nonneg_left (show x ≤ 1 by (first | (clear hx e2 e1 h4 h5 h2 h3 ih hT ihp h0 h1 hdd h6 h7 h8 h9; grind) | grind)) (Rat.mul_nonneg hT hdd)
      constructor <;> (first | (clear hd h hx e2 e1 h4 h5 ih hT ihp h1; grind) | grind)
end


/-- plain data -/
inductive D where
  | undef | none
  | int (i : Int) | bool (b : Bool) | str (x : Str)
  | list (l : List D) | tup (l : List D) | obj (a : Addr)

/-- the value v is the datum d in the heap h -/
inductive RV (h : Heap) : Value → D → Prop where
  | none : RV h .none .none
  | int (i : Int) (t : Tok) : RV h (.int i t) (.int i)
  | bool (b : Bool) : RV h (.bool b) (.bool b)
  | str (x : Str) (t : Tok) : RV h (.str x t) (.str x)
  | obj (a : Addr) : RV h (.ref a) (.obj a)
  | list {a : Addr} {vs : List Value} {ds : List D} (hl : h.IsList a vs.toArray) (hn : vs.length = ds.length)
      (hi : ∀ (i : Nat) (v : Value) (d : D), vs[i]? = some v → ds[i]? = some d → RV h v d) : RV h (.ref a) (.list ds)
  | tup {a : Addr} {vs : List Value} {ds : List D} (hl : h.IsTuple a vs.toArray) (hn : vs.length = ds.length)
      (hi : ∀ (i : Nat) (v : Value) (d : D), vs[i]? = some v → ds[i]? = some d → RV h v d) : RV h (.ref a) (.tup ds)

noncomputable def SeqK (h h' : Heap) : Prop := ∀ b o items n, h.get? b = some o → o.data = .seq items n → h'.get? b = some o
theorem SeqK.of {h h' : Heap} (hk : ∀ b o, h.get? b = some o → h'.get? b = some o) : SeqK h h' := fun b o _ _ e _ => hk b o e

theorem RV.keep {h h' : Heap} (hk : SeqK h h') {v : Value} {d : D} (r : RV h v d) : RV h' v d := by
  induction r with
  | none => exact .none
  | int i t => exact .int i t
  | bool b => exact .bool b
  | str x t => exact .str x t
  | obj a => exact .obj a
  | list hl hn _ ih =>
    obtain ⟨o, ho, hc, n, hd⟩ := hl
    exact .list ⟨o, hk _ o _ n ho hd, hc, n, hd⟩ hn ih
  | tup hl hn _ ih =>
    obtain ⟨o, ho, hc, n, hd⟩ := hl
    exact .tup ⟨o, hk _ o _ n ho hd, hc, n, hd⟩ hn ih

/-- values in a row -/
noncomputable def RVs (h : Heap) (vs : List Value) (ds : List D) : Prop := vs.length = ds.length ∧ ∀ (i : Nat) (v : Value) (d : D), vs[i]? = some v → ds[i]? = some d → RV h v d
theorem RVs.nil {h : Heap} : RVs h [] [] := ⟨rfl, fun i v d e => by simp at e⟩
theorem RVs.cons {h : Heap} {v : Value} {d : D} {vs : List Value} {ds : List D} (r : RV h v d) (rs : RVs h vs ds) : RVs h (v :: vs) (d :: ds) := by
  refine ⟨by simp [rs.1], fun i v' d' e1 e2 => ?_⟩
  cases i with
  | zero => simp at e1 e2; subst e1; subst e2; exact r
  | succ i => simp at e1 e2; exact rs.2 i v' d' e1 e2
theorem RVs.keep {h h' : Heap} (hk : SeqK h h') {vs : List Value} {ds : List D} (r : RVs h vs ds) : RVs h' vs ds := ⟨r.1, fun i v d e1 e2 => (r.2 i v d e1 e2).keep hk⟩
theorem RVs.inv_nil {h : Heap} {vs : List Value} (r : RVs h vs []) : vs = [] := List.length_eq_zero_iff.mp (by simpa using r.1)
theorem RVs.inv_cons {h : Heap} {vs : List Value} {d : D} {ds : List D} (r : RVs h vs (d :: ds)) : ∃ v vs', vs = v :: vs' ∧ RV h v d ∧ RVs h vs' ds := by
  cases vs with
  | nil => simp [RVs] at r
  | cons v vs => exact ⟨v, vs, rfl, r.2 0 v d rfl rfl, by simpa using r.1, fun i v' d' e1 e2 => r.2 (i + 1) v' d' (by simpa using e1) (by simpa using e2)⟩

theorem RV.inv_int {h : Heap} {v : Value} {i : Int} (r : RV h v (.int i)) : ∃ t, v = .int i t := by cases r; exact ⟨_, rfl⟩
theorem RV.inv_bool {h : Heap} {v : Value} {b : Bool} (r : RV h v (.bool b)) : v = .bool b := by cases r; rfl
theorem RV.inv_str {h : Heap} {v : Value} {x : Str} (r : RV h v (.str x)) : ∃ t, v = .str x t := by cases r; exact ⟨_, rfl⟩
theorem RV.inv_none {h : Heap} {v : Value} (r : RV h v .none) : v = .none := by cases r; rfl
theorem RV.inv_list {h : Heap} {v : Value} {ds : List D} (r : RV h v (.list ds)) : ∃ a vs, v = .ref a ∧ h.IsList a vs.toArray ∧ RVs h vs ds := by
  cases r with | list hl hn hi => exact ⟨_, _, rfl, hl, hn, hi⟩
theorem RV.inv_tup {h : Heap} {v : Value} {ds : List D} (r : RV h v (.tup ds)) : ∃ a vs, v = .ref a ∧ h.IsTuple a vs.toArray ∧ RVs h vs ds := by
  cases r with | tup hl hn hi => exact ⟨_, _, rfl, hl, hn, hi⟩
theorem kRefl (s : Shared) : Keeps s s := ⟨s.heap, s.toks, rfl, fun _ _ e => e⟩
theorem kTrans {s s' s'' : Shared} (a : Keeps s s') (b : Keeps s' s'') : Keeps s s'' := by
  obtain ⟨h', tk, rfl, hk⟩ := a
  obtain ⟨h'', tk', rfl, hk'⟩ := b
  exact ⟨h'', tk', rfl, fun b o e => hk' b o (hk b o e)⟩
theorem kTok (s : Shared) (tk : Nat) : Keeps s { s with toks := tk } := ⟨s.heap, tk, rfl, fun _ _ e => e⟩
theorem kSeq {s s' : Shared} (a : Keeps s s') : SeqK s.heap s'.heap := by
  obtain ⟨h', tk, rfl, hk⟩ := a
  exact .of hk
theorem kAll {s s' : Shared} (a : Keeps s s') : ∀ b o, s.heap.get? b = some o → s'.heap.get? b = some o := by
  obtain ⟨h', tk, rfl, hk⟩ := a
  exact hk

/-- the slots' data in the frame -/
noncomputable def Rep (N : List Str) (ρ : List D) (h : Heap) (m : Str → Option Value) : Prop :=
  ∀ (i : Nat) (x : Str) (d : D), N[i]? = some x → ρ[i]? = some d → d ≠ .undef → ∃ v, m x = some v ∧ RV h v d
/-- a frame: the own names, and all else as it was -/
structure Fm (h₀ : Heap) (L : Addr) (h : Heap) (m : Str → Option Value) : Prop where
  ns : h.Ns L m
  keep : ∀ b o, b ≠ L → h₀.get? b = some o → h.get? b = some o
theorem Fm.grownK {h₀ h h' : Heap} {L : Addr} {m : Str → Option Value} (F : Fm h₀ L h m) (hk : ∀ b o, h.get? b = some o → h'.get? b = some o) : Fm h₀ L h' m :=
  ⟨F.ns.keeps hk, fun b o hb e => hk b o (F.keep b o hb e)⟩
theorem Fm.set {h₀ h h' : Heap} {L : Addr} {m m' : Str → Option Value} (F : Fm h₀ L h m) (hn : h'.Ns L m') (hs : Heap.SameBut L h h') : Fm h₀ L h' m' :=
  ⟨hn, fun b o hb e => (hs.2 b hb).trans (F.keep b o hb e)⟩
/-- a frame's surroundings -/
noncomputable def eOf (name : Str) (scope : Scope) (L : Addr) (a : Option Addr × Option Addr) (cd : Value) (cs : List (Str × Addr)) : Env :=
  { scope := scope, locals := L, globals := mainGlobals, cells := cs, qual := name, func := a.1, code := cd, frame := a.2, builtins := builtinsNs }
noncomputable def St (h₀ : Heap) (L : Addr) (N : List Str) (ρ : List D) (s : Shared) : Prop := ∃ m, Fm h₀ L s.heap m ∧ Rep N ρ s.heap m
theorem St.keeps {h₀ : Heap} {L : Addr} {N : List Str} {ρ : List D} {s s' : Shared} (x : St h₀ L N ρ s) (k : Keeps s s') : St h₀ L N ρ s' := by
  obtain ⟨m, F, R⟩ := x
  refine ⟨m, F.grownK (kAll k), fun i x d e1 e2 e3 => ?_⟩
  obtain ⟨v, hv, r⟩ := R i x d e1 e2 e3
  exact ⟨v, hv, r.keep (kSeq k)⟩

/-- all but the frame's own object is kept -/
noncomputable def Tr (L : Addr) (s s' : Shared) : Prop := ∃ h' tk, s' = { s with heap := h', toks := tk } ∧ ∀ b o, b ≠ L → s.heap.get? b = some o → h'.get? b = some o
theorem Tr.refl (L : Addr) (s : Shared) : Tr L s s := ⟨s.heap, s.toks, rfl, fun _ _ _ e => e⟩
theorem Tr.trans {L : Addr} {s s' s'' : Shared} (a : Tr L s s') (b : Tr L s' s'') : Tr L s s'' := by
  obtain ⟨h', tk, rfl, hk⟩ := a
  obtain ⟨h'', tk', rfl, hk'⟩ := b
  exact ⟨h'', tk', rfl, fun b o n e => hk' b o n (hk b o n e)⟩
theorem kTr {L : Addr} {s s' : Shared} (a : Keeps s s') : Tr L s s' := by
  obtain ⟨h', tk, rfl, hk⟩ := a
  exact ⟨h', tk, rfl, fun b o _ e => hk b o e⟩
theorem Tr.all {L : Addr} {s s' : Shared} (a : Tr L s s') : ∀ b o, b ≠ L → s.heap.get? b = some o → s'.heap.get? b = some o := by
  obtain ⟨h', tk, rfl, hk⟩ := a
  exact hk
theorem ns_notSeq {h : Heap} {L : Addr} {m : Str → Option Value} (n : h.Ns L m) {o : Obj} (ho : h.get? L = some o) : ∀ items k, o.data ≠ .seq items k := by
  obtain ⟨oL, es, ep, hL, hLd, _, _⟩ := n
  rw [hL] at ho; cases ho
  intro items k e
  rw [hLd] at e; cases e
theorem seqK_of_but {h h' : Heap} {L : Addr} {m : Str → Option Value} (n : h.Ns L m) (hk : ∀ b o, b ≠ L → h.get? b = some o → h'.get? b = some o) : SeqK h h' := by
  intro b o items k e hd
  by_cases hb : b = L
  · subst hb; exact absurd hd (ns_notSeq n e _ _)
  · exact hk b o hb e

theorem get_set_ne {α : Type} {l : List α} {i j : Nat} {x : α} (h : i ≠ j) : (l.set i x)[j]? = l[j]? := by
  rw [List.getElem?_set]; simp [h]

section store
variable {M : Model} {A : Around} {E : Value → Shared → Prop} {s : Shared} {name : Str} {scope : Scope} {L : Addr} {a : Option Addr × Option Addr} {cd : Value} {cs : List (Str × Addr)} {h₀ : Heap}
/-- a store into the slot i -/
theorem St.store {N : List Str} {ρ : List D} {i : Nat} {x : Str} {v : Value} {d : D} {Q : Unit → Shared → Prop} (S : St h₀ L N ρ s) (hx : N[i]? = some x) (hnd : N.Nodup) (r : RV s.heap v d)
    (h : ∀ s', St h₀ L N (ρ.set i d) s' → Tr L s s' → Q () s')
    (hk : scope.kind = .function) (hl : scope.names.lookup x = some .local) :
    wpAny M A (storeName (eOf name scope L a cd cs) x v) Q E s := by
  obtain ⟨m, F, R⟩ := S
  refine wpAny_storeName_local hl F.ns (fun h' hn hs => ?_) (by show (scope.kind == .class || (scope.kind == .module && L != mainGlobals)) = false; rw [hk]; rfl)
  have hkb : ∀ b o, b ≠ L → s.heap.get? b = some o → h'.get? b = some o := fun b o hb e => (hs.2 b hb).trans e
  have sk : SeqK s.heap h' := seqK_of_but F.ns hkb
  refine h _ ⟨_, F.set hn hs, fun j y e e1 e2 e3 => ?_⟩ ⟨h', _, rfl, hkb⟩
  by_cases hij : i = j
  · subst hij
    rw [hx] at e1; cases e1
    have hd : e = d := by
      rw [List.getElem?_set] at e2
      simp at e2
      exact e2.2.symm
    subst hd
    exact ⟨v, by simp, r.keep sk⟩
  · rw [get_set_ne hij] at e2
    obtain ⟨v', hv', r'⟩ := R j y e e1 e2 e3
    have hne : y ≠ x := by
      intro e; subst e
      have hi' : i < N.length := (List.getElem?_eq_some_iff.mp hx).1
      have hj' : j < N.length := (List.getElem?_eq_some_iff.mp e1).1
      have e4 : N[i] = N[j] := by
        rw [List.getElem?_eq_getElem hi'] at hx
        rw [List.getElem?_eq_getElem hj'] at e1
        exact (Option.some.inj hx).trans (Option.some.inj e1).symm
      exact hij ((List.getElem_inj hnd).mp e4)
    exact ⟨v', by simp [hne, hv'], r'.keep sk⟩
end store


/-- built-in functions served -/
inductive B where
  | abs | max | min | int | len | str | divmod | list | nbits | isinstance | bool | range | sum | fn (x : Str)
  deriving DecidableEq
noncomputable def B.name : B → Str
  | .abs => "abs" | .max => "max" | .min => "min" | .int => "int" | .len => "len" | .str => "str" | .divmod => "divmod" | .list => "list" | .nbits => "_nbits" | .isinstance => "isinstance" | .bool => "bool" | .range => "range" | .sum => "sum" | .fn x => x
noncomputable def B.val : B → Value
  | .abs => .builtin "abs" | .max => .builtin "max" | .min => .builtin "min" | .int => .type "int" | .len => .builtin "len" | .str => .type "str" | .divmod => .builtin "divmod" | .list => .type "list"
  | .nbits => .builtin "int.bit_length" | .isinstance => .builtin "isinstance" | .bool => .type "bool" | .range => .type "range" | .sum => .builtin "sum" | .fn _ => .none
noncomputable def B.plain : B → Bool
  | .fn _ => false
  | _ => true

inductive E where
  | lit (i : Int) | bo (b : Bool) | var (i : Nat)
  | bin (op : Operator) (a b : E)
  | neg (a : E) | not (a : E)
  | cmp (op : CmpOp) (a b : E) | cmp2 (a : E) (o1 : CmpOp) (b : E) (o2 : CmpOp) (c : E)
  | all (l : E) | any (l : E)
  | ite (c a b : E)
  | call (f : Str) (l : E)
  | bi (f : B) (l : E)
  | isI (a : E) | isB (a : E)
  | nil | cons (a r : E)
  | lst (l : E) | tup (l : E)
  | slc (a lo hi : E)

noncomputable def truth : D → Option Bool
  | .int i => some (i != 0)
  | .bool b => some b
  | .none => some false
  | .list l => if l.length < 2 ^ 60 then some (!l.isEmpty) else Option.none
  | _ => Option.none
@[simp] theorem truth_c_undef  : truth  (.undef) = (Option.none) := rfl
@[simp] theorem truth_c_none  : truth  (.none) = (some false) := rfl
@[simp] theorem truth_c_int  {i : Int} : truth  (.int i) = (some (i != 0)) := rfl
@[simp] theorem truth_c_bool  {b : Bool} : truth  (.bool b) = (some b) := rfl
@[simp] theorem truth_c_str  {z0 : Str} : truth  (.str z0) = (Option.none) := rfl
@[simp] theorem truth_c_list  {l : List D} : truth  (.list l) = (if l.length < 2 ^ 60 then some (!l.isEmpty) else Option.none) := rfl
@[simp] theorem truth_c_tup  {z0 : List D} : truth  (.tup z0) = (Option.none) := rfl
@[simp] theorem truth_c_obj  {z0 : Addr} : truth  (.obj z0) = (Option.none) := rfl

noncomputable def intP (P : Int → Prop) : D → Prop
  | .int i => P i
  | _ => False
@[simp] theorem intP_c_undef {P : Int → Prop} : intP P (.undef) = (False) := rfl
@[simp] theorem intP_c_none {P : Int → Prop} : intP P (.none) = (False) := rfl
@[simp] theorem intP_c_int {P : Int → Prop} {i : Int} : intP P (.int i) = (P i) := rfl
@[simp] theorem intP_c_bool {P : Int → Prop} {z0 : Bool} : intP P (.bool z0) = (False) := rfl
@[simp] theorem intP_c_str {P : Int → Prop} {z0 : Str} : intP P (.str z0) = (False) := rfl
@[simp] theorem intP_c_list {P : Int → Prop} {z0 : List D} : intP P (.list z0) = (False) := rfl
@[simp] theorem intP_c_tup {P : Int → Prop} {z0 : List D} : intP P (.tup z0) = (False) := rfl
@[simp] theorem intP_c_obj {P : Int → Prop} {z0 : Addr} : intP P (.obj z0) = (False) := rfl
noncomputable def lP (P : List D → Prop) : D → Prop
  | .list l => P l
  | _ => False
@[simp] theorem lP_c_undef {P : List D → Prop} : lP P (.undef) = (False) := rfl
@[simp] theorem lP_c_none {P : List D → Prop} : lP P (.none) = (False) := rfl
@[simp] theorem lP_c_int {P : List D → Prop} {z0 : Int} : lP P (.int z0) = (False) := rfl
@[simp] theorem lP_c_bool {P : List D → Prop} {z0 : Bool} : lP P (.bool z0) = (False) := rfl
@[simp] theorem lP_c_str {P : List D → Prop} {z0 : Str} : lP P (.str z0) = (False) := rfl
@[simp] theorem lP_c_list {P : List D → Prop} {l : List D} : lP P (.list l) = (P l) := rfl
@[simp] theorem lP_c_tup {P : List D → Prop} {z0 : List D} : lP P (.tup z0) = (False) := rfl
@[simp] theorem lP_c_obj {P : List D → Prop} {z0 : Addr} : lP P (.obj z0) = (False) := rfl
@[simp] noncomputable def ii (x y : D) (k : Int → Int → Prop) : Prop := intP (fun a => intP (fun b => k a b) y) x
noncomputable def ibP (P : Int → Prop) (Q : Bool → Prop) : D → Prop
  | .int i => P i
  | .bool b => Q b
  | _ => False
@[simp] theorem ibP_c_undef {P : Int → Prop} {Q : Bool → Prop} : ibP P Q (.undef) = (False) := rfl
@[simp] theorem ibP_c_none {P : Int → Prop} {Q : Bool → Prop} : ibP P Q (.none) = (False) := rfl
@[simp] theorem ibP_c_int {P : Int → Prop} {Q : Bool → Prop} {i : Int} : ibP P Q (.int i) = (P i) := rfl
@[simp] theorem ibP_c_bool {P : Int → Prop} {Q : Bool → Prop} {b : Bool} : ibP P Q (.bool b) = (Q b) := rfl
@[simp] theorem ibP_c_str {P : Int → Prop} {Q : Bool → Prop} {z0 : Str} : ibP P Q (.str z0) = (False) := rfl
@[simp] theorem ibP_c_list {P : Int → Prop} {Q : Bool → Prop} {z0 : List D} : ibP P Q (.list z0) = (False) := rfl
@[simp] theorem ibP_c_tup {P : Int → Prop} {Q : Bool → Prop} {z0 : List D} : ibP P Q (.tup z0) = (False) := rfl
@[simp] theorem ibP_c_obj {P : Int → Prop} {Q : Bool → Prop} {z0 : Addr} : ibP P Q (.obj z0) = (False) := rfl
noncomputable def ilP (P : Int → Prop) (Q : List D → Prop) : D → Prop
  | .int i => P i
  | .list l => Q l
  | _ => False
@[simp] theorem ilP_c_undef {P : Int → Prop} {Q : List D → Prop} : ilP P Q (.undef) = (False) := rfl
@[simp] theorem ilP_c_none {P : Int → Prop} {Q : List D → Prop} : ilP P Q (.none) = (False) := rfl
@[simp] theorem ilP_c_int {P : Int → Prop} {Q : List D → Prop} {i : Int} : ilP P Q (.int i) = (P i) := rfl
@[simp] theorem ilP_c_bool {P : Int → Prop} {Q : List D → Prop} {z0 : Bool} : ilP P Q (.bool z0) = (False) := rfl
@[simp] theorem ilP_c_str {P : Int → Prop} {Q : List D → Prop} {z0 : Str} : ilP P Q (.str z0) = (False) := rfl
@[simp] theorem ilP_c_list {P : Int → Prop} {Q : List D → Prop} {l : List D} : ilP P Q (.list l) = (Q l) := rfl
@[simp] theorem ilP_c_tup {P : Int → Prop} {Q : List D → Prop} {z0 : List D} : ilP P Q (.tup z0) = (False) := rfl
@[simp] theorem ilP_c_obj {P : Int → Prop} {Q : List D → Prop} {z0 : Addr} : ilP P Q (.obj z0) = (False) := rfl
noncomputable def slP (P : Str → Prop) (Q : List D → Prop) : D → Prop
  | .str i => P i
  | .list l => Q l
  | _ => False
@[simp] theorem slP_c_undef {P : Str → Prop} {Q : List D → Prop} : slP P Q (.undef) = (False) := rfl
@[simp] theorem slP_c_none {P : Str → Prop} {Q : List D → Prop} : slP P Q (.none) = (False) := rfl
@[simp] theorem slP_c_int {P : Str → Prop} {Q : List D → Prop} {z0 : Int} : slP P Q (.int z0) = (False) := rfl
@[simp] theorem slP_c_bool {P : Str → Prop} {Q : List D → Prop} {z0 : Bool} : slP P Q (.bool z0) = (False) := rfl
@[simp] theorem slP_c_str {P : Str → Prop} {Q : List D → Prop} {i : Str} : slP P Q (.str i) = (P i) := rfl
@[simp] theorem slP_c_list {P : Str → Prop} {Q : List D → Prop} {l : List D} : slP P Q (.list l) = (Q l) := rfl
@[simp] theorem slP_c_tup {P : Str → Prop} {Q : List D → Prop} {z0 : List D} : slP P Q (.tup z0) = (False) := rfl
@[simp] theorem slP_c_obj {P : Str → Prop} {Q : List D → Prop} {z0 : Addr} : slP P Q (.obj z0) = (False) := rfl
noncomputable def tlP (P : List D → Prop) (Q : List D → Prop) : D → Prop
  | .tup i => P i
  | .list l => Q l
  | _ => False
@[simp] theorem tlP_c_undef {P : List D → Prop} {Q : List D → Prop} : tlP P Q (.undef) = (False) := rfl
@[simp] theorem tlP_c_none {P : List D → Prop} {Q : List D → Prop} : tlP P Q (.none) = (False) := rfl
@[simp] theorem tlP_c_int {P : List D → Prop} {Q : List D → Prop} {z0 : Int} : tlP P Q (.int z0) = (False) := rfl
@[simp] theorem tlP_c_bool {P : List D → Prop} {Q : List D → Prop} {z0 : Bool} : tlP P Q (.bool z0) = (False) := rfl
@[simp] theorem tlP_c_str {P : List D → Prop} {Q : List D → Prop} {z0 : Str} : tlP P Q (.str z0) = (False) := rfl
@[simp] theorem tlP_c_list {P : List D → Prop} {Q : List D → Prop} {l : List D} : tlP P Q (.list l) = (Q l) := rfl
@[simp] theorem tlP_c_tup {P : List D → Prop} {Q : List D → Prop} {i : List D} : tlP P Q (.tup i) = (P i) := rfl
@[simp] theorem tlP_c_obj {P : List D → Prop} {Q : List D → Prop} {z0 : Addr} : tlP P Q (.obj z0) = (False) := rfl
@[simp] noncomputable def l1 (k : D → Prop) : List D → Prop
  | [] => False
  | x :: r => if r.isEmpty = true then k x else False
@[simp] noncomputable def l2 (k : D → D → Prop) : List D → Prop
  | [] => False
  | x :: r => l1 (k x) r

noncomputable def binW (op : Operator) (x y : D) (P : D → Prop) : Prop :=
  match op with
  | .Add => ilP (fun a => ibP (fun b => P (.int (a + b))) (fun b => P (.int (a + if b = true then 1 else 0))) y) (fun a => lP (fun b => a.length + b.length ≤ 2 ^ 20 ∧ P (.list (a ++ b))) y) x
  | .Sub => ii x y fun a b => P (.int (a - b))
  | .Mult => ii x y fun a b => IntMulOk a b ∧ P (.int (a * b))
  | .FloorDiv => ii x y fun a b => b ≠ 0 ∧ b.natAbs.log2 < 9000 ∧ P (.int (a.fdiv b))
  | .Mod => ii x y fun a b => b ≠ 0 ∧ P (.int (a.fmod b))
  | .Pow => ii x y fun a n => 0 ≤ n ∧ (Builtin.Int.intBits a : Int) * n ≤ 2 ^ 27 ∧ P (.int (a ^ n.toNat))
  | .LShift => ii x y fun a n => 0 ≤ n ∧ (Builtin.Int.intBits a : Int) + n ≤ 2 ^ 27 ∧ P (.int (a * 2 ^ n.toNat))
  | .RShift => ii x y fun a n => 0 ≤ n ∧ P (.int (a.fdiv (2 ^ n.toNat)))
  | .BitAnd => ii x y fun a b => P (.int (Builtin.bitAnd a b))
  | _ => False
@[simp] theorem binW_c_Add {x y : D} {P : D → Prop} : binW .Add x y P = (ilP (fun a => ibP (fun b => P (.int (a + b))) (fun b => P (.int (a + if b = true then 1 else 0))) y) (fun a => lP (fun b => a.length + b.length ≤ 2 ^ 20 ∧ P (.list (a ++ b))) y) x) := rfl
@[simp] theorem binW_c_Sub {x y : D} {P : D → Prop} : binW .Sub x y P = (ii x y fun a b => P (.int (a - b))) := rfl
@[simp] theorem binW_c_Mult {x y : D} {P : D → Prop} : binW .Mult x y P = (ii x y fun a b => IntMulOk a b ∧ P (.int (a * b))) := rfl
@[simp] theorem binW_c_FloorDiv {x y : D} {P : D → Prop} : binW .FloorDiv x y P = (ii x y fun a b => b ≠ 0 ∧ b.natAbs.log2 < 9000 ∧ P (.int (a.fdiv b))) := rfl
@[simp] theorem binW_c_Mod {x y : D} {P : D → Prop} : binW .Mod x y P = (ii x y fun a b => b ≠ 0 ∧ P (.int (a.fmod b))) := rfl
@[simp] theorem binW_c_Pow {x y : D} {P : D → Prop} : binW .Pow x y P = (ii x y fun a n => 0 ≤ n ∧ (Builtin.Int.intBits a : Int) * n ≤ 2 ^ 27 ∧ P (.int (a ^ n.toNat))) := rfl
@[simp] theorem binW_c_LShift {x y : D} {P : D → Prop} : binW .LShift x y P = (ii x y fun a n => 0 ≤ n ∧ (Builtin.Int.intBits a : Int) + n ≤ 2 ^ 27 ∧ P (.int (a * 2 ^ n.toNat))) := rfl
@[simp] theorem binW_c_RShift {x y : D} {P : D → Prop} : binW .RShift x y P = (ii x y fun a n => 0 ≤ n ∧ P (.int (a.fdiv (2 ^ n.toNat)))) := rfl
@[simp] theorem binW_c_BitAnd {x y : D} {P : D → Prop} : binW .BitAnd x y P = (ii x y fun a b => P (.int (Builtin.bitAnd a b))) := rfl

noncomputable def cmpW (op : CmpOp) (x y : D) (P : Bool → Prop) : Prop :=
  match op with
  | .Eq => ii x y fun a b => P (a == b)
  | .NotEq => ii x y fun a b => P (a != b)
  | .Lt => ii x y fun a b => P (decide (a < b))
  | .LtE => ii x y fun a b => P (decide (a ≤ b))
  | .Gt => ii x y fun a b => P (decide (a > b))
  | .GtE => ii x y fun a b => P (decide (a ≥ b))
  | _ => False
@[simp] theorem cmpW_c_Eq {x y : D} {P : Bool → Prop} : cmpW .Eq x y P = (ii x y fun a b => P (a == b)) := rfl
@[simp] theorem cmpW_c_NotEq {x y : D} {P : Bool → Prop} : cmpW .NotEq x y P = (ii x y fun a b => P (a != b)) := rfl
@[simp] theorem cmpW_c_Lt {x y : D} {P : Bool → Prop} : cmpW .Lt x y P = (ii x y fun a b => P (decide (a < b))) := rfl
@[simp] theorem cmpW_c_LtE {x y : D} {P : Bool → Prop} : cmpW .LtE x y P = (ii x y fun a b => P (decide (a ≤ b))) := rfl
@[simp] theorem cmpW_c_Gt {x y : D} {P : Bool → Prop} : cmpW .Gt x y P = (ii x y fun a b => P (decide (a > b))) := rfl
@[simp] theorem cmpW_c_GtE {x y : D} {P : Bool → Prop} : cmpW .GtE x y P = (ii x y fun a b => P (decide (a ≥ b))) := rfl

noncomputable def biW (f : B) (ds : List D) (P : D → Prop) : Prop :=
  match f with
  | .abs => l1 (intP fun a => P (.int (if a < 0 then -a else a))) ds
  | .max => l2 (fun x y => ii x y fun a b => P (.int (if b > a then b else a))) ds
  | .int => l1 (intP fun a => P (.int a)) ds
  | .len => l1 (slP (fun x => x.length < 2 ^ 60 ∧ P (.int x.length)) (fun l => l.length < 2 ^ 60 ∧ P (.int l.length))) ds
  | .str => l1 (intP fun a => a.natAbs.log2 < 1920 ∧ P (.str (Str.ofString (toString a)))) ds
  | .divmod => l2 (fun x y => ii x y fun a b => b ≠ 0 ∧ b.natAbs.log2 < 9000 ∧ P (.tup [.int (a.fdiv b), .int (a.fmod b)])) ds
  | .list => l1 (lP fun l => l.length ≤ 2 ^ 20 ∧ P (.list l)) ds
  | .nbits => l1 (intP fun a => P (.int (Builtin.Int.intBits a : Nat))) ds
  | _ => False
@[simp] theorem biW_c_abs {ds : List D} {P : D → Prop} : biW .abs ds P = (l1 (intP fun a => P (.int (if a < 0 then -a else a))) ds) := rfl
@[simp] theorem biW_c_max {ds : List D} {P : D → Prop} : biW .max ds P = (l2 (fun x y => ii x y fun a b => P (.int (if b > a then b else a))) ds) := rfl
@[simp] theorem biW_c_int {ds : List D} {P : D → Prop} : biW .int ds P = (l1 (intP fun a => P (.int a)) ds) := rfl
@[simp] theorem biW_c_len {ds : List D} {P : D → Prop} : biW .len ds P = (l1 (slP (fun x => x.length < 2 ^ 60 ∧ P (.int x.length)) (fun l => l.length < 2 ^ 60 ∧ P (.int l.length))) ds) := rfl
@[simp] theorem biW_c_str {ds : List D} {P : D → Prop} : biW .str ds P = (l1 (intP fun a => a.natAbs.log2 < 1920 ∧ P (.str (Str.ofString (toString a)))) ds) := rfl
@[simp] theorem biW_c_divmod {ds : List D} {P : D → Prop} : biW .divmod ds P = (l2 (fun x y => ii x y fun a b => b ≠ 0 ∧ b.natAbs.log2 < 9000 ∧ P (.tup [.int (a.fdiv b), .int (a.fmod b)])) ds) := rfl
@[simp] theorem biW_c_list {ds : List D} {P : D → Prop} : biW .list ds P = (l1 (lP fun l => l.length ≤ 2 ^ 20 ∧ P (.list l)) ds) := rfl
@[simp] theorem biW_c_nbits {ds : List D} {P : D → Prop} : biW .nbits ds P = (l1 (intP fun a => P (.int (Builtin.Int.intBits a : Nat))) ds) := rfl


/-- a cut of a list -/
noncomputable def cut (l : List D) (lo hi : Option Int) : List D :=
  (l.drop (lo.elim 0 (clipAt l.length))).take (hi.elim l.length (clipAt l.length) - lo.elim 0 (clipAt l.length))

@[simp] noncomputable def get : List D → Nat → D
  | [], _ => .undef
  | d :: _, 0 => d
  | _ :: l, n + 1 => get l n
theorem get_eq {ρ : List D} {i : Nat} {d : D} (h : get ρ i = d) (hd : d ≠ .undef) : ρ[i]? = some d := by
  induction ρ generalizing i with
  | nil => simp [get] at h; exact absurd h.symm hd
  | cons a l ih =>
    cases i with
    | zero => simp [get] at h; simp [h]
    | succ i => simp [get] at h; simpa using ih h

@[simp] noncomputable def isIP (P : D → Prop) (d : D) : Prop := ibP (fun _ => P (.bool true)) (fun _ => P (.bool true)) d
@[simp] noncomputable def isBP (P : D → Prop) (d : D) : Prop := ibP (fun _ => P (.bool false)) (fun _ => P (.bool true)) d
@[simp] noncomputable def cutP (i j : Option Int) (P : D → Prop) (d : D) : Prop := lP (fun l => l.length ≤ 2 ^ 20 ∧ P (.list (cut l i j))) d
@[simp] noncomputable def E.isNil : E → Bool
  | .nil => true
  | _ => false
@[simp] noncomputable def partP (b : Bool) (w : (D → Prop) → Prop) (P : Option Int → Prop) : Prop := if b = true then P none else w (intP fun i => P (some i))
section
variable (Γ : Str → List D → D → Prop)
mutual
noncomputable def wp0 : E → List D → (D → Prop) → Prop
  | .lit i, _, P => P (.int i)
  | .bo b, _, P => P (.bool b)
  | .var i, ρ, P => get ρ i ≠ .undef ∧ P (get ρ i)
  | .bin op a b, ρ, P => wp0 a ρ fun x => wp0 b ρ fun y => binW op x y P
  | .neg a, ρ, P => wp0 a ρ (intP fun i => P (.int (-i)))
  | .not a, ρ, P => wp0 a ρ fun x => ∃ b, truth x = some b ∧ P (.bool !b)
  | .cmp op a b, ρ, P => wp0 a ρ fun x => wp0 b ρ fun y => cmpW op x y fun c => P (.bool c)
  | .cmp2 a o1 b o2 c, ρ, P => wp0 a ρ fun x => wp0 b ρ fun y => cmpW o1 x y fun t => if t = true then wp0 c ρ fun z => cmpW o2 y z fun u => P (.bool u) else P (.bool false)
  | .all l, ρ, P => wpAnd0 l ρ P
  | .any l, ρ, P => wpOr0 l ρ P
  | .ite c a b, ρ, P => wp0 c ρ fun x => ∃ t, truth x = some t ∧ if t = true then wp0 a ρ P else wp0 b ρ P
  | .call f l, ρ, P => wpL0 l ρ fun ds => ∃ r, Γ f ds r ∧ P r
  | .bi f l, ρ, P => wpL0 l ρ fun ds => biW f ds P
  | .isI a, ρ, P => wp0 a ρ (isIP P)
  | .isB a, ρ, P => wp0 a ρ (isBP P)
  | .nil, _, _ => False
  | .cons _ _, _, _ => False
  | .lst l, ρ, P => wpL0 l ρ fun ds => ds.length ≤ 2 ^ 20 ∧ P (.list ds)
  | .tup l, ρ, P => wpL0 l ρ fun ds => ds.length ≤ 2 ^ 20 ∧ P (.tup ds)
  | .slc a lo hi, ρ, P => wp0 a ρ fun x => partP lo.isNil (wp0 lo ρ) fun i => partP hi.isNil (wp0 hi ρ) fun j => cutP i j P x
noncomputable def wpAnd0 : E → List D → (D → Prop) → Prop
  | .cons a r, ρ, P => wp0 a ρ fun d => if r.isNil = true then P d else ∃ b, truth d = some b ∧ if b = true then wpAnd0 r ρ P else P d
  | _, _, _ => False
noncomputable def wpOr0 : E → List D → (D → Prop) → Prop
  | .cons a r, ρ, P => wp0 a ρ fun d => if r.isNil = true then P d else ∃ b, truth d = some b ∧ if b = true then P d else wpOr0 r ρ P
  | _, _, _ => False
noncomputable def wpL0 : E → List D → (List D → Prop) → Prop
  | .nil, _, P => P []
  | .cons a r, ρ, P => wp0 a ρ fun d => wpL0 r ρ fun ds => P (d :: ds)
  | _, _, _ => False
end
theorem wp0_lit {i : Int} {z0 : List D} {P : D → Prop} : (wp0 Γ (.lit i) z0 P) = (P (.int i)) := rfl
theorem wp0_bo {b : Bool} {z0 : List D} {P : D → Prop} : (wp0 Γ (.bo b) z0 P) = (P (.bool b)) := rfl
theorem wp0_var {i : Nat} {ρ : List D} {P : D → Prop} : (wp0 Γ (.var i) ρ P) = (get ρ i ≠ .undef ∧ P (get ρ i)) := rfl
theorem wp0_bin {op : Operator} {a : E} {b : E} {ρ : List D} {P : D → Prop} : (wp0 Γ (.bin op a b) ρ P) = (wp0 Γ a ρ fun x => wp0 Γ b ρ fun y => binW op x y P) := rfl
theorem wp0_neg {a : E} {ρ : List D} {P : D → Prop} : (wp0 Γ (.neg a) ρ P) = (wp0 Γ a ρ (intP fun i => P (.int (-i)))) := rfl
theorem wp0_not {a : E} {ρ : List D} {P : D → Prop} : (wp0 Γ (.not a) ρ P) = (wp0 Γ a ρ fun x => ∃ b, truth x = some b ∧ P (.bool !b)) := rfl
theorem wp0_cmp {op : CmpOp} {a : E} {b : E} {ρ : List D} {P : D → Prop} : (wp0 Γ (.cmp op a b) ρ P) = (wp0 Γ a ρ fun x => wp0 Γ b ρ fun y => cmpW op x y fun c => P (.bool c)) := rfl
theorem wp0_cmp2 {a : E} {o1 : CmpOp} {b : E} {o2 : CmpOp} {c : E} {ρ : List D} {P : D → Prop} : (wp0 Γ (.cmp2 a o1 b o2 c) ρ P) = (wp0 Γ a ρ fun x => wp0 Γ b ρ fun y => cmpW o1 x y fun t => if t = true then wp0 Γ c ρ fun z => cmpW o2 y z fun u => P (.bool u) else P (.bool false)) := rfl
theorem wp0_all {l : E} {ρ : List D} {P : D → Prop} : (wp0 Γ (.all l) ρ P) = (wpAnd0 Γ l ρ P) := rfl
theorem wp0_any {l : E} {ρ : List D} {P : D → Prop} : (wp0 Γ (.any l) ρ P) = (wpOr0 Γ l ρ P) := rfl
theorem wp0_ite {c : E} {a : E} {b : E} {ρ : List D} {P : D → Prop} : (wp0 Γ (.ite c a b) ρ P) = (wp0 Γ c ρ fun x => ∃ t, truth x = some t ∧ if t = true then wp0 Γ a ρ P else wp0 Γ b ρ P) := rfl
theorem wp0_call {f : Str} {l : E} {ρ : List D} {P : D → Prop} : (wp0 Γ (.call f l) ρ P) = (wpL0 Γ l ρ fun ds => ∃ r, Γ f ds r ∧ P r) := rfl
theorem wp0_bi {f : B} {l : E} {ρ : List D} {P : D → Prop} : (wp0 Γ (.bi f l) ρ P) = (wpL0 Γ l ρ fun ds => biW f ds P) := rfl
theorem wp0_isI {a : E} {ρ : List D} {P : D → Prop} : (wp0 Γ (.isI a) ρ P) = (wp0 Γ a ρ (isIP P)) := rfl
theorem wp0_isB {a : E} {ρ : List D} {P : D → Prop} : (wp0 Γ (.isB a) ρ P) = (wp0 Γ a ρ (isBP P)) := rfl
theorem wp0_nil {z0 : List D} {z1 : D → Prop} : (wp0 Γ (.nil) z0 z1) = (False) := rfl
theorem wp0_cons {y0 : E} {y1 : E} {z0 : List D} {z1 : D → Prop} : (wp0 Γ (.cons y0 y1) z0 z1) = (False) := rfl
theorem wp0_lst {l : E} {ρ : List D} {P : D → Prop} : (wp0 Γ (.lst l) ρ P) = (wpL0 Γ l ρ fun ds => ds.length ≤ 2 ^ 20 ∧ P (.list ds)) := rfl
theorem wp0_tup {l : E} {ρ : List D} {P : D → Prop} : (wp0 Γ (.tup l) ρ P) = (wpL0 Γ l ρ fun ds => ds.length ≤ 2 ^ 20 ∧ P (.tup ds)) := rfl
theorem wp0_slc {a : E} {lo : E} {hi : E} {ρ : List D} {P : D → Prop} : (wp0 Γ (.slc a lo hi) ρ P) = (wp0 Γ a ρ fun x => partP lo.isNil (wp0 Γ lo ρ) fun i => partP hi.isNil (wp0 Γ hi ρ) fun j => cutP i j P x) := rfl
theorem wpAnd0_cons {a : E} {r : E} {ρ : List D} {P : D → Prop} : (wpAnd0 Γ (.cons a r) ρ P) = (wp0 Γ a ρ fun d => if r.isNil = true then P d else ∃ b, truth d = some b ∧ if b = true then wpAnd0 Γ r ρ P else P d) := rfl
theorem wpAnd0_nil {z0 : List D} {z1 : D → Prop} : wpAnd0 Γ .nil z0 z1 = False := rfl
theorem wpOr0_cons {a : E} {r : E} {ρ : List D} {P : D → Prop} : (wpOr0 Γ (.cons a r) ρ P) = (wp0 Γ a ρ fun d => if r.isNil = true then P d else ∃ b, truth d = some b ∧ if b = true then P d else wpOr0 Γ r ρ P) := rfl
theorem wpOr0_nil {z0 : List D} {z1 : D → Prop} : wpOr0 Γ .nil z0 z1 = False := rfl
theorem wpL0_nil {z0 : List D} {P : List D → Prop} : (wpL0 Γ (.nil) z0 P) = (P []) := rfl
theorem wpL0_cons {a : E} {r : E} {ρ : List D} {P : List D → Prop} : (wpL0 Γ (.cons a r) ρ P) = (wp0 Γ a ρ fun d => wpL0 Γ r ρ fun ds => P (d :: ds)) := rfl
end

noncomputable def notStarred : Expr → Bool
  | .Starred .. => false
  | _ => true
/-! what an expression is made of -/
noncomputable def dsC : Expr → Option Const
  | .Constant c _ _ => some c
  | _ => none
noncomputable def dsN : Expr → Option Str
  | .Name x _ => some x
  | _ => none
noncomputable def dsBin : Expr → Option (Expr × Operator × Expr)
  | .BinOp l o r _ => some (l, o, r)
  | _ => none
noncomputable def dsUn : Expr → Option (UnaryOp × Expr)
  | .UnaryOp o x _ => some (o, x)
  | _ => none
noncomputable def dsCmp : Expr → Option (Expr × List CmpOp × List Expr)
  | .Compare l os rs _ => some (l, os, rs)
  | _ => none
noncomputable def dsBool : Expr → Option (BoolOp × List Expr)
  | .BoolOp o es _ => some (o, es)
  | _ => none
noncomputable def dsIf : Expr → Option (Expr × Expr × Expr)
  | .IfExp t x y _ => some (t, x, y)
  | _ => none
noncomputable def dsCall : Expr → Option (Expr × List Expr × List Keyword)
  | .Call f es ks _ => some (f, es, ks)
  | _ => none
noncomputable def dsList : Expr → Option (List Expr)
  | .List es _ => some es
  | _ => none
noncomputable def dsTup : Expr → Option (List Expr)
  | .Tuple es _ _ => some es
  | _ => none
noncomputable def dsSub : Expr → Option (Expr × Expr)
  | .Subscript v i _ => some (v, i)
  | _ => none
noncomputable def dsSl : Expr → Option (Option Expr × Option Expr × Option Expr)
  | .Slice l u s _ => some (l, u, s)
  | _ => none

/-- what a def's form may name: built-ins and defs; opaque expressions and ends, by a check each -/
structure Us where
  l : List B
  o : Str → Expr → Bool
  t : Str → List Stmt → Bool
  s : Str → Stmt → Bool
  k : Around → Prop
noncomputable def pl (l : List B) : Us := ⟨l, fun _ _ => false, fun _ _ => false, fun _ _ => false, fun _ => True⟩
/-- an opaque expression's shape -/
noncomputable def plainE : Expr → Bool
  | .Name .. => true
  | .ListComp .. => true
  | .Subscript .. => true
  | .Call .. => true
  | _ => false
section
variable (us : Us) (N : List Str) (sc : Scope)
noncomputable def glb (x : Str) : Bool := sc.names.lookup x == some .globalImplicit && x != "__debug__"
/-- a call of a global name upon at least one argument -/
noncomputable def dsCallN (ex : Expr) : Option (Str × List Expr) :=
  (dsCall ex).bind fun t => (dsN t.1).bind fun g => if t.2.2.isEmpty && !t.2.1.isEmpty && glb sc g then some (g, t.2.1) else none
mutual
noncomputable def chkE : E → Expr → Bool
  | .lit i, ex => dsC ex == some (.int i)
  | .bo b, ex => dsC ex == some (.bool b)
  | .var i, ex => (dsN ex).any fun x => N[i]? == some x
  | .bin op a b, ex => (dsBin ex).any fun t => op == t.2.1 && chkE a t.1 && chkE b t.2.2
  | .neg a, ex => (dsUn ex).any fun t => t.1 == .USub && chkE a t.2
  | .not a, ex => (dsUn ex).any fun t => t.1 == .Not && chkE a t.2
  | .cmp op a b, ex => (dsCmp ex).any fun t => t.2.1 == [op] && t.2.2.length == 1 && t.2.2.head?.any fun r => behindInMarks op r == false && chkE a t.1 && chkE b r
  | .cmp2 a o1 b o2 c, ex => (dsCmp ex).any fun t => t.2.1 == [o1, o2] && t.2.2.length == 2 && t.2.2.head?.any fun r1 => t.2.2.tail.head?.any fun r2 => behindInMarks o2 r2 == false && chkE a t.1 && chkE b r1 && chkE c r2
  | .all l, ex => (dsBool ex).any fun t => t.1 == .And && chkEs l t.2
  | .any l, ex => (dsBool ex).any fun t => t.1 == .Or && chkEs l t.2
  | .ite c a b, ex => (dsIf ex).any fun t => chkE c t.1 && chkE a t.2.1 && chkE b t.2.2
  | .call f l, ex => (dsCallN sc ex).any fun t => us.l.contains (.fn f) && f == t.1 && chkEs l t.2
  | .bi f l, ex => (dsCallN sc ex).any fun t => us.l.contains f && f.plain && f.name == t.1 && chkEs l t.2
  | .isI a, ex => (dsCallN sc ex).any fun t => us.l.contains .isinstance && us.l.contains .int && B.isinstance.name == t.1 && t.2.length == 2 && t.2.head?.any fun e => t.2.tail.head?.any fun c => (dsN c).any fun y => B.int.name == y && glb sc y && notStarred e && chkE a e
  | .isB a, ex => (dsCallN sc ex).any fun t => us.l.contains .isinstance && us.l.contains .bool && B.isinstance.name == t.1 && t.2.length == 2 && t.2.head?.any fun e => t.2.tail.head?.any fun c => (dsN c).any fun y => B.bool.name == y && glb sc y && notStarred e && chkE a e
  | .nil, _ => false
  | .cons _ _, _ => false
  | .lst l, ex => (dsList ex).any fun es => chkEs l es
  | .tup l, ex => (dsTup ex).any fun es => chkEs l es
  | .slc a lo hi, ex => (dsSub ex).any fun t => chkE a t.1 && (dsSl t.2).any fun u => u.2.2.isNone && (if lo.isNil then u.1.isNone else u.1.any fun x => chkE lo x) && (if hi.isNil then u.2.1.isNone else u.2.1.any fun x => chkE hi x)
noncomputable def chkEs : E → List Expr → Bool
  | .nil, es => es.isEmpty
  | .cons a r, es => es.head?.any fun e => notStarred e && chkE a e && chkEs r es.tail
  | _, _ => false
end
theorem chkE_lit {i : Int} {ex : Expr} : (chkE us N sc (.lit i) ex) = (dsC ex == some (.int i)) := rfl
theorem chkE_bo {b : Bool} {ex : Expr} : (chkE us N sc (.bo b) ex) = (dsC ex == some (.bool b)) := rfl
theorem chkE_var {i : Nat} {ex : Expr} : (chkE us N sc (.var i) ex) = ((dsN ex).any fun x => N[i]? == some x) := rfl
theorem chkE_bin {op : Operator} {a : E} {b : E} {ex : Expr} : (chkE us N sc (.bin op a b) ex) = ((dsBin ex).any fun t => op == t.2.1 && chkE us N sc a t.1 && chkE us N sc b t.2.2) := rfl
theorem chkE_neg {a : E} {ex : Expr} : (chkE us N sc (.neg a) ex) = ((dsUn ex).any fun t => t.1 == .USub && chkE us N sc a t.2) := rfl
theorem chkE_not {a : E} {ex : Expr} : (chkE us N sc (.not a) ex) = ((dsUn ex).any fun t => t.1 == .Not && chkE us N sc a t.2) := rfl
theorem chkE_cmp {op : CmpOp} {a : E} {b : E} {ex : Expr} : (chkE us N sc (.cmp op a b) ex) = ((dsCmp ex).any fun t => t.2.1 == [op] && t.2.2.length == 1 && t.2.2.head?.any fun r => behindInMarks op r == false && chkE us N sc a t.1 && chkE us N sc b r) := rfl
theorem chkE_cmp2 {a : E} {o1 : CmpOp} {b : E} {o2 : CmpOp} {c : E} {ex : Expr} : (chkE us N sc (.cmp2 a o1 b o2 c) ex) = ((dsCmp ex).any fun t => t.2.1 == [o1, o2] && t.2.2.length == 2 && t.2.2.head?.any fun r1 => t.2.2.tail.head?.any fun r2 => behindInMarks o2 r2 == false && chkE us N sc a t.1 && chkE us N sc b r1 && chkE us N sc c r2) := rfl
theorem chkE_all {l : E} {ex : Expr} : (chkE us N sc (.all l) ex) = ((dsBool ex).any fun t => t.1 == .And && chkEs us N sc l t.2) := rfl
theorem chkE_any {l : E} {ex : Expr} : (chkE us N sc (.any l) ex) = ((dsBool ex).any fun t => t.1 == .Or && chkEs us N sc l t.2) := rfl
theorem chkE_ite {c : E} {a : E} {b : E} {ex : Expr} : (chkE us N sc (.ite c a b) ex) = ((dsIf ex).any fun t => chkE us N sc c t.1 && chkE us N sc a t.2.1 && chkE us N sc b t.2.2) := rfl
theorem chkE_call {f : Str} {l : E} {ex : Expr} : (chkE us N sc (.call f l) ex) = ((dsCallN sc ex).any fun t => us.l.contains (.fn f) && f == t.1 && chkEs us N sc l t.2) := rfl
theorem chkE_bi {f : B} {l : E} {ex : Expr} : (chkE us N sc (.bi f l) ex) = ((dsCallN sc ex).any fun t => us.l.contains f && f.plain && f.name == t.1 && chkEs us N sc l t.2) := rfl
theorem chkE_isI {a : E} {ex : Expr} : (chkE us N sc (.isI a) ex) = ((dsCallN sc ex).any fun t => us.l.contains .isinstance && us.l.contains .int && B.isinstance.name == t.1 && t.2.length == 2 && t.2.head?.any fun e => t.2.tail.head?.any fun c => (dsN c).any fun y => B.int.name == y && glb sc y && notStarred e && chkE us N sc a e) := rfl
theorem chkE_isB {a : E} {ex : Expr} : (chkE us N sc (.isB a) ex) = ((dsCallN sc ex).any fun t => us.l.contains .isinstance && us.l.contains .bool && B.isinstance.name == t.1 && t.2.length == 2 && t.2.head?.any fun e => t.2.tail.head?.any fun c => (dsN c).any fun y => B.bool.name == y && glb sc y && notStarred e && chkE us N sc a e) := rfl
theorem chkE_nil {z0 : Expr} : (chkE us N sc (.nil) z0) = (false) := rfl
theorem chkE_cons {y0 : E} {y1 : E} {z0 : Expr} : (chkE us N sc (.cons y0 y1) z0) = (false) := rfl
theorem chkE_lst {l : E} {ex : Expr} : (chkE us N sc (.lst l) ex) = ((dsList ex).any fun es => chkEs us N sc l es) := rfl
theorem chkE_tup {l : E} {ex : Expr} : (chkE us N sc (.tup l) ex) = ((dsTup ex).any fun es => chkEs us N sc l es) := rfl
theorem chkE_slc {a : E} {lo : E} {hi : E} {ex : Expr} : (chkE us N sc (.slc a lo hi) ex) = ((dsSub ex).any fun t => chkE us N sc a t.1 && (dsSl t.2).any fun u => u.2.2.isNone && (if lo.isNil then u.1.isNone else u.1.any fun x => chkE us N sc lo x) && (if hi.isNil then u.2.1.isNone else u.2.1.any fun x => chkE us N sc hi x)) := rfl
theorem chkEs_nil {es : List Expr} : (chkEs us N sc (.nil) es) = (es.isEmpty) := rfl
theorem chkEs_cons {a : E} {r : E} {es : List Expr} : (chkEs us N sc (.cons a r) es) = (es.head?.any fun e => notStarred e && chkE us N sc a e && chkEs us N sc r es.tail) := rfl
end

theorem starEach_cons {e : Expr} {rest : List Expr} {env : Env} (h : notStarred e = true) : starEach (e :: rest) env = (false, eval e env) :: starEach rest env := by
  cases e <;> first | rfl | exact absurd (show false = true from h) Bool.false_ne_true



noncomputable def AOk (n : Nat) (A : Around) : Prop := A.handled = none ∧ A.depth + n < recursionLimit ∧ A.units + 3 * n + 200 < cLine
noncomputable def Kp (h h' : Heap) : Prop := ∀ b o, h.get? b = some o → h'.get? b = some o
theorem Kp.trans {h h' h'' : Heap} (a : Kp h h') (b : Kp h' h'') : Kp h h'' := fun x o e => b x o (a x o e)

/-- what the module's run has left -/
structure Wd (hB : Heap) (mg mb : Str → Option Value) (us : List B) : Prop where
  g : hB.Ns mainGlobals mg
  b : hB.Ns builtinsNs mb
  nl : hB.NoLimit
  fn : ∀ x, B.fn x ∈ us → ∃ a o fd, mg x = some (.ref a) ∧ hB.get? a = some o ∧ o.data = .func fd
  bi : ∀ f ∈ us, f.plain = true → (mg f.name = none ∧ mb f.name = some f.val) ∨ mg f.name = some f.val

abbrev Fls : Value → Shared → Prop := fun _ _ => False

/-- a call of the def f upon ds gives r -/
noncomputable def CallsTo (prog : Program) (w : World) (hB : Heap) (mg : Str → Option Value) (n : Nat) (f : Str) (ds : List D) (r : D) : Prop :=
  ∃ a o fd, mg f = some (.ref a) ∧ hB.get? a = some o ∧ o.data = .func fd ∧ ∀ (A : Around) (s : Shared) (vs : List Value), AOk n A → Kp hB s.heap → RVs s.heap vs ds →
    wpAny (model prog w) A (call (.ref a) vs) (fun v s' => Keeps s s' ∧ RV s'.heap v r) Fls s

section ops
variable {prog : Program} {w : World} {A : Around} {s : Shared}

theorem tok_ok {P : D → Prop} {i : Int} {t tk : Nat} (h : P (.int i)) : Keeps s { s with toks := tk } ∧ ∃ d, RV ({ s with toks := tk } : Shared).heap (.int i t) d ∧ P d :=
  ⟨kTok s tk, _, .int i t, h⟩

theorem truthy_ok {v : Value} {d : D} {b : Bool} (r : RV s.heap v d) (h : truth d = some b) : wpAny (model prog w) A (truthy v) (fun c s' => Keeps s s' ∧ c = b) Fls s := by
  cases d with
  | int i =>
    obtain ⟨t, rfl⟩ := r.inv_int
    simp only [truth_c_undef, truth_c_none, truth_c_int, truth_c_bool, truth_c_str, truth_c_list, truth_c_tup, truth_c_obj, Option.some.injEq] at h
    exact PySem.P.truthy_int ⟨kRefl s, h⟩
  | bool c =>
    obtain rfl := r.inv_bool
    simp only [truth_c_undef, truth_c_none, truth_c_int, truth_c_bool, truth_c_str, truth_c_list, truth_c_tup, truth_c_obj, Option.some.injEq] at h
    exact wpAny_truthy_bool ⟨kRefl s, h⟩
  | none =>
    obtain rfl := r.inv_none
    simp only [truth_c_undef, truth_c_none, truth_c_int, truth_c_bool, truth_c_str, truth_c_list, truth_c_tup, truth_c_obj, Option.some.injEq] at h
    exact truthy_none ⟨kRefl s, h⟩
  | list l =>
    obtain ⟨a, vs, rfl, hl, hv⟩ := r.inv_list
    simp only [truth_c_undef, truth_c_none, truth_c_int, truth_c_bool, truth_c_str, truth_c_list, truth_c_tup, truth_c_obj] at h
    split at h
    · rename_i hlt
      have hlen := hv.1
      refine wpAny_truthy_list hl (by rw [List.size_toArray, hlen]; (first | (clear r hl hv h; omega) | omega)) ?_
      simp only [Option.some.injEq] at h
      refine ⟨kTok s _, ?_⟩
      rw [← h]
      cases vs with
      | nil => cases l with
        | nil => rfl
        | cons _ _ => simp at hlen
      | cons _ _ => cases l with
        | nil => simp at hlen
        | cons _ _ => rfl
    · cases h
  | undef => cases r
  | obj a => cases h
  | str x => cases h
  | tup l => cases h

theorem RVs.append {h : Heap} {vs us : List Value} {ds es : List D} (a : RVs h vs ds) (b : RVs h us es) : RVs h (vs ++ us) (ds ++ es) := by
  refine ⟨by simp [a.1, b.1], fun i v d e1 e2 => ?_⟩
  have hl := a.1
  by_cases hi : i < vs.length
  · rw [List.getElem?_append_left hi] at e1
    rw [List.getElem?_append_left (by (first | (clear a b e1 e2; omega) | omega))] at e2
    exact a.2 i v d e1 e2
  · rw [List.getElem?_append_right (by (first | (clear a b e1 e2; omega) | omega))] at e1
    rw [List.getElem?_append_right (by (first | (clear a b e1 e2; omega) | omega))] at e2
    exact b.2 (i - vs.length) v d e1 (by rw [hl]; exact e2)
theorem RVs.drop {h : Heap} {vs : List Value} {ds : List D} (a : RVs h vs ds) (k : Nat) : RVs h (vs.drop k) (ds.drop k) := by
  refine ⟨by simp [a.1], fun i v d e1 e2 => ?_⟩
  rw [List.getElem?_drop] at e1 e2
  exact a.2 _ v d e1 e2
theorem RVs.take {h : Heap} {vs : List Value} {ds : List D} (a : RVs h vs ds) (k : Nat) : RVs h (vs.take k) (ds.take k) := by
  refine ⟨by simp [a.1], fun i v d e1 e2 => ?_⟩
  rw [List.getElem?_take] at e1 e2
  split at e1
  · rename_i hlt
    rw [if_pos hlt] at e2
    exact a.2 _ v d e1 e2
  · cases e1

theorem new_list {vs : List Value} {ds : List D} (h : RVs s.heap vs ds) {hs : Heap} (hh : hs = s.heap.push { cls := .type "list", data := .seq vs.toArray }) : RV hs (.ref s.heap.objs.size) (.list ds) := by
  subst hh
  have hk : SeqK s.heap (s.heap.push { cls := .type "list", data := .seq vs.toArray }) := .of fun b o e => Heap.get?_push_of_some _ e
  have h' := h.keep hk
  exact .list ⟨_, Heap.get?_push_size _ rfl, rfl, _, rfl⟩ h'.1 h'.2
theorem new_tup {vs : List Value} {ds : List D} (h : RVs s.heap vs ds) {hs : Heap} (hh : hs = s.heap.push { cls := .type "tuple", data := .seq vs.toArray }) : RV hs (.ref s.heap.objs.size) (.tup ds) := by
  subst hh
  have hk : SeqK s.heap (s.heap.push { cls := .type "tuple", data := .seq vs.toArray }) := .of fun b o e => Heap.get?_push_of_some _ e
  have h' := h.keep hk
  exact .tup ⟨_, Heap.get?_push_size _ rfl, rfl, _, rfl⟩ h'.1 h'.2
theorem push_keeps (o : Obj) : Keeps s { s with heap := s.heap.push o } := ⟨_, s.toks, rfl, fun _ _ e => Heap.get?_push_of_some _ e⟩

theorem size_le {n : Nat} (h : n ≤ 2 ^ 20) : n ≤ sizeLine := by rw [PySem.sizeLine_eq]; omega

theorem addl_ok {l1 l2 : Addr} {vs us : List Value} {a b : List D} {P : D → Prop} (hl : s.heap.IsList l1 vs.toArray) (hl2 : s.heap.IsList l2 us.toArray) (hv : RVs s.heap vs a) (hu : RVs s.heap us b)
    (hz : a.length + b.length ≤ 2 ^ 20) (h : P (.list (a ++ b))) :
    wpAny (model prog w) A (binaryOp .Add (.ref l1) (.ref l2)) (fun v s' => Keeps s s' ∧ ∃ d, RV s'.heap v d ∧ P d) Fls s := by
  obtain ⟨⟨c1, d1, t1, s1⟩, ho, hc, n, hd⟩ := hl
  obtain ⟨⟨c2, d2, t2, s2⟩, ho2, hc2, n2, hd2⟩ := hl2
  dsimp only at hc hd hc2 hd2
  subst hc hd hc2 hd2
  refine concat_meets ⟨_, ho, rfl⟩ ⟨_, ho2, rfl⟩ noFill_list_add seq_list_add PySem.F.slot_list_add PySem.F.entry_list_add (PySem.F.args_list_add_2 _ _)
    (list_addW l1 l2 vs.toArray us.toArray n n2 d1 d2 s1 s2 (by simp only [List.size_toArray]; rw [hv.1, hu.1]; exact size_le hz)) ⟨ho, ho2, ?_⟩
  exact ⟨push_keeps _, _, new_list (hv.append hu) (by simp), h⟩

theorem intP_inv {P : Int → Prop} {d : D} (h : intP P d) : ∃ i, d = .int i ∧ P i := by cases d <;> first | exact ⟨_, rfl, h⟩ | exact h.elim
theorem lP_inv {P : List D → Prop} {d : D} (h : lP P d) : ∃ i, d = .list i ∧ P i := by cases d <;> first | exact ⟨_, rfl, h⟩ | exact h.elim
theorem ibP_inv {P : Int → Prop} {Q : Bool → Prop} {d : D} (h : ibP P Q d) : (∃ i, d = .int i ∧ P i) ∨ (∃ b, d = .bool b ∧ Q b) := by
  cases d <;> first | exact .inl ⟨_, rfl, h⟩ | exact .inr ⟨_, rfl, h⟩ | exact h.elim
theorem ilP_inv {P : Int → Prop} {Q : List D → Prop} {d : D} (h : ilP P Q d) : (∃ i, d = .int i ∧ P i) ∨ (∃ b, d = .list b ∧ Q b) := by
  cases d <;> first | exact .inl ⟨_, rfl, h⟩ | exact .inr ⟨_, rfl, h⟩ | exact h.elim
theorem slP_inv {P : Str → Prop} {Q : List D → Prop} {d : D} (h : slP P Q d) : (∃ i, d = .str i ∧ P i) ∨ (∃ b, d = .list b ∧ Q b) := by
  cases d <;> first | exact .inl ⟨_, rfl, h⟩ | exact .inr ⟨_, rfl, h⟩ | exact h.elim
theorem ii_inv {k : Int → Int → Prop} {x y : D} (h : ii x y k) : ∃ a b, x = .int a ∧ y = .int b ∧ k a b := by
  obtain ⟨a, rfl, h1⟩ := intP_inv h
  obtain ⟨b, rfl, h2⟩ := intP_inv h1
  exact ⟨a, b, rfl, rfl, h2⟩
theorem l1_inv {k : D → Prop} {ds : List D} (h : l1 k ds) : ∃ x, ds = [x] ∧ k x := by
  cases ds with
  | nil => exact h.elim
  | cons x r => cases r with
    | nil => exact ⟨x, rfl, h⟩
    | cons _ _ => exact h.elim
theorem l2_inv {k : D → D → Prop} {ds : List D} (h : l2 k ds) : ∃ x y, ds = [x, y] ∧ k x y := by
  cases ds with
  | nil => exact h.elim
  | cons x r => obtain ⟨y, rfl, h⟩ := l1_inv h; exact ⟨x, y, rfl, h⟩

theorem ii_ok {t : Value → Value → Sem Value} {v u : Value} {x y : D} {k : Int → Int → Prop} {P : D → Prop} (r1 : RV s.heap v x) (r2 : RV s.heap u y) (h : ii x y k)
    (go : ∀ a b t1 t2, k a b → wpAny (model prog w) A (t (.int a t1) (.int b t2)) (fun v s' => Keeps s s' ∧ ∃ d, RV s'.heap v d ∧ P d) Fls s) :
    wpAny (model prog w) A (t v u) (fun v s' => Keeps s s' ∧ ∃ d, RV s'.heap v d ∧ P d) Fls s := by
  obtain ⟨a, b, rfl, rfl, h⟩ := ii_inv h
  obtain ⟨t1, rfl⟩ := r1.inv_int; obtain ⟨t2, rfl⟩ := r2.inv_int
  exact go a b t1 t2 h

theorem bin_ok {op : Operator} {v u : Value} {x y : D} {P : D → Prop} (r1 : RV s.heap v x) (r2 : RV s.heap u y) (h : binW op x y P) :
    wpAny (model prog w) A (binaryOp op v u) (fun v s' => Keeps s s' ∧ ∃ d, RV s'.heap v d ∧ P d) Fls s := by
  cases op with
  | Add =>
    rcases ilP_inv h with ⟨a, rfl, h⟩ | ⟨l, rfl, h⟩
    · obtain ⟨t1, rfl⟩ := r1.inv_int
      rcases ibP_inv h with ⟨b, rfl, h⟩ | ⟨b, rfl, h⟩
      · obtain ⟨t2, rfl⟩ := r2.inv_int
        exact PySem.P.add_int (tok_ok h)
      · obtain rfl := r2.inv_bool
        exact PySem.add_int_bool (tok_ok h)
    · obtain ⟨l2, rfl, h⟩ := lP_inv h
      obtain ⟨l1, vs, rfl, hl, hv⟩ := r1.inv_list; obtain ⟨l2, us, rfl, hl2, hu⟩ := r2.inv_list
      exact addl_ok hl hl2 hv hu h.1 h.2
  | Sub => exact ii_ok (t := binaryOp .Sub) r1 r2 h fun _ _ _ _ h => PySem.P.sub_int (tok_ok h)
  | Mult => exact ii_ok (t := binaryOp .Mult) r1 r2 h fun _ _ _ _ h => PySem.P.mul_int (tok_ok h.2) h.1
  | FloorDiv => exact ii_ok (t := binaryOp .FloorDiv) r1 r2 h fun _ _ _ _ h => floordiv_int h.1 (tok_ok h.2.2) (Or.inl (PyProof.noPylong_of_log2 h.2.1))
  | Mod => exact ii_ok (t := binaryOp .Mod) r1 r2 h fun _ _ _ _ h => mod_int' h.1 (tok_ok h.2)
  | Pow => exact ii_ok (t := binaryOp .Pow) r1 r2 h fun _ _ _ _ h => pow_int h.1 h.2.1 (tok_ok h.2.2)
  | LShift => exact ii_ok (t := binaryOp .LShift) r1 r2 h fun _ _ _ _ h => lshift_int h.1 h.2.1 (tok_ok h.2.2)
  | RShift => exact ii_ok (t := binaryOp .RShift) r1 r2 h fun _ _ _ _ h => rshift_int h.1 (tok_ok h.2)
  | BitAnd => exact ii_ok (t := binaryOp .BitAnd) r1 r2 h fun _ _ _ _ h => and_int (tok_ok h)
  | MatMult => exact h.elim
  | Div => exact h.elim
  | BitOr => exact h.elim
  | BitXor => exact h.elim

theorem ic_ok {op : CmpOp} {v u : Value} {x y : D} {k : Int → Int → Prop} {P : Bool → Prop} (r1 : RV s.heap v x) (r2 : RV s.heap u y) (h : ii x y k)
    (go : ∀ a b t1 t2, k a b → wpAny (model prog w) A (compareOp op (.int a t1) (.int b t2)) (fun v s' => s' = s ∧ ∃ c, v = .bool c ∧ P c) Fls s) :
    wpAny (model prog w) A (compareOp op v u) (fun v s' => s' = s ∧ ∃ c, v = .bool c ∧ P c) Fls s := by
  obtain ⟨a, b, rfl, rfl, h⟩ := ii_inv h
  obtain ⟨t1, rfl⟩ := r1.inv_int; obtain ⟨t2, rfl⟩ := r2.inv_int
  exact go a b t1 t2 h
theorem cmp_ok {op : CmpOp} {v u : Value} {x y : D} {P : Bool → Prop} (r1 : RV s.heap v x) (r2 : RV s.heap u y) (h : cmpW op x y P) :
    wpAny (model prog w) A (compareOp op v u) (fun v s' => s' = s ∧ ∃ c, v = .bool c ∧ P c) Fls s := by
  cases op with
  | Eq => exact ic_ok r1 r2 h fun _ _ _ _ h => PySem.P.eq_int ⟨rfl, _, rfl, h⟩
  | NotEq => exact ic_ok r1 r2 h fun _ _ _ _ h => PySem.P.ne_int ⟨rfl, _, rfl, h⟩
  | Lt => exact ic_ok r1 r2 h fun _ _ _ _ h => PySem.P.lt_int ⟨rfl, _, rfl, h⟩
  | LtE => exact ic_ok r1 r2 h fun _ _ _ _ h => PySem.P.le_int ⟨rfl, _, rfl, h⟩
  | Gt => exact ic_ok r1 r2 h fun _ _ _ _ h => PySem.P.gt_int ⟨rfl, _, rfl, h⟩
  | GtE => exact ic_ok r1 r2 h fun _ _ _ _ h => PySem.P.ge_int ⟨rfl, _, rfl, h⟩
  | Is => exact h.elim
  | IsNot => exact h.elim
  | In => exact h.elim
  | NotIn => exact h.elim
end ops


section ops2
variable {prog : Program} {w : World} {A : Around} {s : Shared}

theorem bitlen_ok {a : Int} {t : Tok} {P : D → Prop} (h : P (.int (Builtin.Int.intBits a : Nat))) :
    wpAny (model prog w) A (call (.builtin "int.bit_length") [.int a t]) (fun v s' => Keeps s s' ∧ ∃ d, RV s'.heap v d ∧ P d) Fls s :=
  call_gives PySem.F.slot_int_bit_length (typeIs_int s a t) PySem.F.entry_int_bit_length (PySem.F.args_int_bit_length_1 _) (PySem.AutoIntG2.int_bit_length_int_0 a t) (tok_ok h)

theorem max_ok {a b : Int} {t u : Tok} {P : D → Prop} (hA : A.handled = none) (h : P (.int (if b > a then b else a))) :
    wpAny (model prog w) A (call (.builtin "max") [.int a t, .int b u]) (fun v s' => Keeps s s' ∧ ∃ d, RV s'.heap v d ∧ P d) Fls s := by
  refine max_two_ints hA fun h' tk hk => ?_
  refine ⟨⟨h', tk, rfl, hk⟩, _, ?_, h⟩
  by_cases c : b > a
  · rw [if_pos c, if_pos c]; exact .int _ _
  · rw [if_neg c, if_neg c]; exact .int _ _
theorem b1_ok {t : List Value → Sem Value} {vs : List Value} {ds : List D} {k : D → Prop} {P : D → Prop} (r : RVs s.heap vs ds) (h : l1 k ds)
    (go : ∀ v d, RV s.heap v d → k d → wpAny (model prog w) A (t [v]) (fun v s' => Keeps s s' ∧ ∃ d, RV s'.heap v d ∧ P d) Fls s) : wpAny (model prog w) A (t vs) (fun v s' => Keeps s s' ∧ ∃ d, RV s'.heap v d ∧ P d) Fls s := by
  obtain ⟨x, rfl, h⟩ := l1_inv h
  obtain ⟨v, vs, rfl, r1, r⟩ := r.inv_cons; obtain rfl := r.inv_nil
  exact go v x r1 h
theorem b1i_ok {t : List Value → Sem Value} {vs : List Value} {ds : List D} {k : Int → Prop} {P : D → Prop} (r : RVs s.heap vs ds) (h : l1 (intP k) ds)
    (go : ∀ a t1, k a → wpAny (model prog w) A (t [.int a t1]) (fun v s' => Keeps s s' ∧ ∃ d, RV s'.heap v d ∧ P d) Fls s) : wpAny (model prog w) A (t vs) (fun v s' => Keeps s s' ∧ ∃ d, RV s'.heap v d ∧ P d) Fls s :=
  b1_ok r h fun v d r1 h => by
    obtain ⟨a, rfl, h⟩ := intP_inv h
    obtain ⟨t1, rfl⟩ := r1.inv_int
    exact go a t1 h
theorem b2i_ok {t : List Value → Sem Value} {vs : List Value} {ds : List D} {k : Int → Int → Prop} {P : D → Prop} (r : RVs s.heap vs ds) (h : l2 (fun x y => ii x y k) ds)
    (go : ∀ a b t1 t2, k a b → wpAny (model prog w) A (t [.int a t1, .int b t2]) (fun v s' => Keeps s s' ∧ ∃ d, RV s'.heap v d ∧ P d) Fls s) : wpAny (model prog w) A (t vs) (fun v s' => Keeps s s' ∧ ∃ d, RV s'.heap v d ∧ P d) Fls s := by
  obtain ⟨x, y, rfl, h⟩ := l2_inv h
  obtain ⟨a, b, rfl, rfl, h⟩ := ii_inv h
  obtain ⟨v, vs, rfl, r1, r⟩ := r.inv_cons; obtain ⟨v2, vs, rfl, r2, r⟩ := r.inv_cons; obtain rfl := r.inv_nil; obtain ⟨t1, rfl⟩ := r1.inv_int; obtain ⟨t2, rfl⟩ := r2.inv_int
  exact go a b t1 t2 h
theorem len_ok {v : Value} {d : D} {P : D → Prop} (r1 : RV s.heap v d) (h : slP (fun x => x.length < 2 ^ 60 ∧ P (.int x.length)) (fun l => l.length < 2 ^ 60 ∧ P (.int l.length)) d) :
    wpAny (model prog w) A (call (.builtin "len") [v]) (fun v s' => Keeps s s' ∧ ∃ d, RV s'.heap v d ∧ P d) Fls s := by
  rcases slP_inv h with ⟨x, rfl, h⟩ | ⟨l, rfl, h⟩
  · obtain ⟨t, rfl⟩ := r1.inv_str
    exact PyProof.Rows.len_str (by have := h.1; (first | (clear h r1 this; omega) | omega)) (tok_ok h.2)
  · obtain ⟨a, us, rfl, hl, hu⟩ := r1.inv_list
    have e : us.toArray.size = l.length := (List.size_toArray ..).trans hu.1
    refine PyProof.Rows.len_list hl (by rw [e]; (first | (clear h r1 hl hu; omega) | omega)) ?_
    rw [e]
    exact tok_ok h.2
theorem bi_ok {f : B} {vs : List Value} {ds : List D} {P : D → Prop} (hA : A.handled = none) (r : RVs s.heap vs ds) (h : biW f ds P) :
    wpAny (model prog w) A (call f.val vs) (fun v s' => Keeps s s' ∧ ∃ d, RV s'.heap v d ∧ P d) Fls s := by
  cases f with
  | abs => exact b1i_ok (t := fun vs => call (.builtin "abs") vs) r h fun _ _ h => call_abs_int fun u tk => tok_ok h
  | max => exact b2i_ok (t := fun vs => call (.builtin "max") vs) r h fun _ _ _ _ h => max_ok hA h
  | min => exact h.elim
  | int => exact b1i_ok (t := fun vs => call (.type "int") vs) r h fun _ _ h => call_int_int ⟨kRefl s, _, .int _ _, h⟩
  | len => exact b1_ok (t := fun vs => call (.builtin "len") vs) r h fun _ _ r1 h => len_ok r1 h
  | str => exact b1i_ok (t := fun vs => call (.type "str") vs) r h fun _ _ h => PySem.P.str_of_int h.1 ⟨kTok s _, _, .str _ _, h.2⟩
  | divmod =>
    refine b2i_ok (t := fun vs => call (.builtin "divmod") vs) r h fun _ _ _ _ h => ?_
    refine divmod_int h.1 ?_ (Or.inl (PyProof.noPylong_of_log2 h.2.1))
    refine ⟨⟨_, _, rfl, fun _ _ e => Heap.get?_push_of_some _ e⟩, _, ?_, h.2.2⟩
    exact new_tup (vs := [_, _]) (RVs.cons (.int _ _) (RVs.cons (.int _ _) RVs.nil)) rfl
  | list =>
    refine b1_ok (t := fun vs => call (.type "list") vs) r h fun v d r1 h => ?_
    obtain ⟨l, rfl, h⟩ := lP_inv h
    obtain ⟨a, us, rfl, hl, hu⟩ := r1.inv_list
    obtain ⟨o, ho, hc, n, hd⟩ := hl
    refine call_list_seq (hsz := by rw [List.size_toArray, hu.1]; exact size_le h.1) a (.inl rfl) ho hc hd fun h' c' hk hD => ?_
    have hD : h'.IsList s.heap.objs.size us.toArray := ⟨_, hD, rfl, c', rfl⟩
    refine ⟨⟨h', s.toks, rfl, hk⟩, _, ?_, h.2⟩
    have hu' := hu.keep (SeqK.of hk)
    exact .list hD hu'.1 hu'.2
  | nbits => exact b1i_ok (t := fun vs => call (.builtin "int.bit_length") vs) r h fun _ _ h => bitlen_ok h
  | sum => exact h.elim
  | isinstance => exact h.elim
  | bool => exact h.elim
  | range => exact h.elim
  | fn x => exact h.elim

theorem getElem_to {l : List Value} {ds : List D} {h : Heap} {i : Nat} {d : D} (r : RVs h l ds) (e : ds[i]? = some d) : ∃ v, l[i]? = some v ∧ RV h v d := by
  have hi : i < ds.length := (List.getElem?_eq_some_iff.mp e).1
  have hl : i < l.length := by rw [r.1]; exact hi
  exact ⟨l[i], List.getElem?_eq_getElem hl, r.2 i _ d (List.getElem?_eq_getElem hl) e⟩


theorem slc_ok {value : Expr} {q : Pos} {lo hi : Option Expr} {a sl : Addr} {vs : List Value} {ds : List D} {vl vu : Value} {i j : Option Int} {P : D → Prop} (hl : s.heap.IsList a vs.toArray) (hv : RVs s.heap vs ds)
    (hs : s.heap.IsSliceOf sl vl vu .none) (pl : IsPart vl i) (pu : IsPart vu j) (hz : ds.length ≤ 2 ^ 20) (h : P (.list (cut ds i j))) :
    wpAny (model prog w) A (subscriptTail value (.Slice lo hi none q) (.ref a) (.ref sl)) (fun v s' => Keeps s s' ∧ ∃ d, RV s'.heap v d ∧ P d) Fls s := by
  refine tail_any hl.typeIs slot_list_getitem.lookup (wpAny_getItem_list_slice hl hs pl pu .none (by simp) ?_ (by rw [List.size_toArray, hv.1]; exact size_le hz)) (ops := [.ref sl, .ref a]) rfl
  rw [slicePick_plain]
  refine ⟨push_keeps _, _, new_list (ds := cut ds i j) ?_ rfl, h⟩
  unfold cut
  simp only [List.size_toArray, hv.1]
  exact (hv.drop _).take _
end ops2


section sound
variable {prog : Program} {w : World} {hB h₀ : Heap} {mg mb : Str → Option Value} {us : Us} {N : List Str} {sc : Scope} {Γ : Str → List D → D → Prop} {n : Nat} {name : Str} {L : Addr} {a : Option Addr × Option Addr} {cd : Value} {cs : List (Str × Addr)}

/-- the facts of a frame that never change -/
structure Cx (prog : Program) (w : World) (hB h₀ : Heap) (mg mb : Str → Option Value) (us : Us) (N : List Str) (sc : Scope) (Γ : Str → List D → D → Prop) (n : Nat) (name : Str) (L : Addr) (a : Option Addr × Option Addr) (cd : Value) (cs : List (Str × Addr)) : Prop where
  W : Wd hB mg mb us.l
  G : ∀ f ds r, us.l.contains (.fn f) = true → Γ f ds r → CallsTo prog w hB mg n f ds r
  hk : sc.kind = .function
  loc : ∀ x ∈ N, sc.names.lookup x = some .local ∧ (x == ("__debug__" : Str)) = false
  nd : N.Nodup
  base : ∀ b o, hB.get? b = some o → b ≠ L ∧ h₀.get? b = some o
  orc : ∀ x ρ r ex, Γ x ρ r → plainE ex = true → us.o x ex = true → ∀ (A : Around) (s : Shared), AOk n A → St h₀ L N ρ s →
    wpAny (model prog w) A (eval ex (eOf name sc L a cd cs)) (fun v s' => Keeps s s' ∧ RV s'.heap v r) Fls s
  tl : ∀ x ρ r body, Γ x ρ r → us.t x body = true → ∀ (A : Around) (s : Shared), AOk n A → us.k A → St h₀ L N ρ s →
    wpAny (model prog w) A (execs body (eOf name sc L a cd cs)) (fun f s' => Tr L s s' ∧ ∃ ρ' v, St h₀ L N ρ' s' ∧ f = .ret v ∧ RV s'.heap v r) Fls s
  op : ∀ x ρ ρ' st, Γ x ρ (.list ρ') → us.s x st = true → ∀ (A : Around) (s : Shared), AOk n A → us.k A → St h₀ L N ρ s →
    wpAny (model prog w) A (exec st (eOf name sc L a cd cs)) (fun f s' => f = .next ∧ Tr L s s' ∧ St h₀ L N ρ' s') Fls s

/-- what is shown of an expression -/
structure Snd (prog : Program) (w : World) (h₀ : Heap) (us : Us) (N : List Str) (sc : Scope) (Γ : Str → List D → D → Prop) (n : Nat) (name : Str) (L : Addr) (a : Option Addr × Option Addr) (cd : Value) (cs : List (Str × Addr)) (e : E) : Prop where
  val : ∀ ex, chkE us N sc e ex = true → ∀ (A : Around) (s : Shared) (ρ : List D) (P : D → Prop), AOk n A → St h₀ L N ρ s → wp0 Γ e ρ P →
    wpAny (model prog w) A (eval ex (eOf name sc L a cd cs)) (fun v s' => Keeps s s' ∧ ∃ d, RV s'.heap v d ∧ P d) Fls s
  tst : ∀ ex, chkE us N sc e ex = true → ∀ (A : Around) (s : Shared) (ρ : List D) (P : Bool → Prop), AOk n A → St h₀ L N ρ s → wp0 Γ e ρ (fun d => ∃ b, truth d = some b ∧ P b) →
    wpAny (model prog w) A (isTrue ex (eOf name sc L a cd cs) (eval ex (eOf name sc L a cd cs))) (fun b s' => Keeps s s' ∧ P b) Fls s
  lst : ∀ es pos, chkEs us N sc e es = true → ∀ (A : Around) (s : Shared) (ρ : List D) (P : List D → Prop), AOk n A → St h₀ L N ρ s → wpL0 Γ e ρ P →
    wpAny (model prog w) A (spliced (backTo pos (starEach es (eOf name sc L a cd cs)))) (fun vs s' => Keeps s s' ∧ ∃ ds, RVs s'.heap vs ds ∧ P ds) Fls s
  andV : ∀ es pos, chkEs us N sc e es = true → ∀ (A : Around) (s : Shared) (ρ : List D) (P : D → Prop), AOk n A → St h₀ L N ρ s → wpAnd0 Γ e ρ P →
    wpAny (model prog w) A (eval (.BoolOp .And es pos) (eOf name sc L a cd cs)) (fun v s' => Keeps s s' ∧ ∃ d, RV s'.heap v d ∧ P d) Fls s
  orV : ∀ es pos, chkEs us N sc e es = true → ∀ (A : Around) (s : Shared) (ρ : List D) (P : D → Prop), AOk n A → St h₀ L N ρ s → wpOr0 Γ e ρ P →
    wpAny (model prog w) A (eval (.BoolOp .Or es pos) (eOf name sc L a cd cs)) (fun v s' => Keeps s s' ∧ ∃ d, RV s'.heap v d ∧ P d) Fls s
  andT : ∀ es pos whole, chkEs us N sc e es = true → ∀ (A : Around) (s : Shared) (ρ : List D) (P : Bool → Prop), AOk n A → St h₀ L N ρ s → wpAnd0 Γ e ρ (fun d => ∃ b, truth d = some b ∧ P b) →
    wpAny (model prog w) A (isTrue (.BoolOp .And es pos) (eOf name sc L a cd cs) whole) (fun b s' => Keeps s s' ∧ P b) Fls s
  orT : ∀ es pos whole, chkEs us N sc e es = true → ∀ (A : Around) (s : Shared) (ρ : List D) (P : Bool → Prop), AOk n A → St h₀ L N ρ s → wpOr0 Γ e ρ (fun d => ∃ b, truth d = some b ∧ P b) →
    wpAny (model prog w) A (isTrue (.BoolOp .Or es pos) (eOf name sc L a cd cs) whole) (fun b s' => Keeps s s' ∧ P b) Fls s

/-- a value's test -/
theorem tst_of_val {A : Around} {s : Shared} {P : Bool → Prop} {t : Sem Value} (h : wpAny (model prog w) A t (fun v s' => Keeps s s' ∧ ∃ d, RV s'.heap v d ∧ ∃ b, truth d = some b ∧ P b) Fls s) :
    wpAny (model prog w) A t (fun v s₁ => wpAny (model prog w) A (truthy v) (fun b s' => Keeps s s' ∧ P b) Fls s₁) Fls s := by
  refine wpAny_mono h (fun v s₁ h₁ => ?_) fun _ _ x => x
  obtain ⟨k, d, r, b, hb, hp⟩ := h₁
  refine wpAny_mono (truthy_ok r hb) (fun c s₂ h₂ => ?_) fun _ _ x => x
  obtain ⟨k2, rfl⟩ := h₂
  exact ⟨kTrans k k2, hp⟩

theorem chkEs_plain {e : E} (h1 : e ≠ .nil) (h2 : ∀ a r, e ≠ .cons a r) (es : List Expr) : chkEs us N sc e es = false := by
  cases e <;> first | exact absurd rfl h1 | exact absurd rfl (h2 _ _) | rfl

/-- an expression that is no list: its value's part and its test's part are enough -/
theorem Snd.mk' {e : E} (h1 : e ≠ .nil) (h2 : ∀ a r, e ≠ .cons a r)
    (val : ∀ ex, chkE us N sc e ex = true → ∀ (A : Around) (s : Shared) (ρ : List D) (P : D → Prop), AOk n A → St h₀ L N ρ s → wp0 Γ e ρ P →
      wpAny (model prog w) A (eval ex (eOf name sc L a cd cs)) (fun v s' => Keeps s s' ∧ ∃ d, RV s'.heap v d ∧ P d) Fls s)
    (tst : ∀ ex, chkE us N sc e ex = true → ∀ (A : Around) (s : Shared) (ρ : List D) (P : Bool → Prop), AOk n A → St h₀ L N ρ s → wp0 Γ e ρ (fun d => ∃ b, truth d = some b ∧ P b) →
      wpAny (model prog w) A (isTrue ex (eOf name sc L a cd cs) (eval ex (eOf name sc L a cd cs))) (fun b s' => Keeps s s' ∧ P b) Fls s) :
    Snd prog w h₀ us N sc Γ n name L a cd cs e := by
  refine ⟨val, tst, ?_, ?_, ?_, ?_, ?_⟩
  all_goals (intros; rename_i hc _ _ _ _ _ _ _; rw [chkEs_plain h1 h2] at hc; cases hc)

theorem Snd.mkP {e : E} (h1 : e ≠ .nil) (h2 : ∀ a r, e ≠ .cons a r)
    (hpl : ∀ ex, chkE us N sc e ex = true → ∀ t, isTrue ex (eOf name sc L a cd cs) t = (do let v ← t; standAt ex.pos; holding [v] (truthy v)))
    (val : ∀ ex, chkE us N sc e ex = true → ∀ (A : Around) (s : Shared) (ρ : List D) (P : D → Prop), AOk n A → St h₀ L N ρ s → wp0 Γ e ρ P →
      wpAny (model prog w) A (eval ex (eOf name sc L a cd cs)) (fun v s' => Keeps s s' ∧ ∃ d, RV s'.heap v d ∧ P d) Fls s) :
    Snd prog w h₀ us N sc Γ n name L a cd cs e := by
  refine .mk' h1 h2 val fun ex hc A s ρ P hA S h => ?_
  exact isTrue_plain (tst_of_val (val ex hc A s ρ _ hA S h)) (hpl ex hc _)

theorem ld_ok (C : Cx prog w hB h₀ mg mb us N sc Γ n name L a cd cs) {A : Around} {s : Shared} {ρ : List D} {i : Nat} {x : Str} {pos : Pos} {d : D} {Q : Value → Shared → Prop} (S : St h₀ L N ρ s) (hx : N[i]? = some x) (hd : get ρ i = d) (hu : d ≠ .undef)
    (h : ∀ v, RV s.heap v d → Q v s) : wpAny (model prog w) A (eval (.Name x pos) (eOf name sc L a cd cs)) Q Fls s := by
  obtain ⟨m, F, R⟩ := S
  obtain ⟨v, hv, r⟩ := R i x d hx (get_eq hd hu) hu
  have hl := C.loc x (List.mem_of_getElem? hx)
  exact wpAny_Name (wpAny_loadName_local C.hk hl.1 F.ns hv (h v r)) hl.2

theorem fr_of (C : Cx prog w hB h₀ mg mb us N sc Γ n name L a cd cs) {ρ : List D} {s : Shared} (S : St h₀ L N ρ s) : Kp hB s.heap := by
  obtain ⟨m, F, _⟩ := S
  exact fun b o e => F.keep b o (C.base b o e).1 (C.base b o e).2
/-- a name of the module's -/
theorem gl_name (C : Cx prog w hB h₀ mg mb us N sc Γ n name L a cd cs) {A : Around} {s : Shared} {ρ : List D} {x : Str} {v : Value} {pos : Pos} {Q : Value → Shared → Prop} (S : St h₀ L N ρ s) (hv : mg x = some v) (hg : glb sc x = true)
    (h : Q v s) : wpAny (model prog w) A (eval (.Name x pos) (eOf name sc L a cd cs)) Q Fls s := by
  simp only [glb, Bool.and_eq_true, beq_iff_eq, bne_iff_ne, ne_eq] at hg
  exact Calls.Name_function_global C.hk hg.1 (Calls.loadGlobal_global (env := eOf name sc L a cd cs) (C.W.g.keeps (fr_of C S)) hv h) (beq_eq_false_iff_ne.mpr hg.2)

/-- a name of the module's or of the built-ins' -/
theorem bi_name (C : Cx prog w hB h₀ mg mb us N sc Γ n name L a cd cs) {A : Around} {s : Shared} {ρ : List D} {f : B} {x : Str} {pos : Pos} {Q : Value → Shared → Prop} (S : St h₀ L N ρ s) (hf : us.l.contains f = true) (hpl : f.plain = true) (hx : (f.name == x) = true) (hg : glb sc x = true)
    (h : Q f.val s) : wpAny (model prog w) A (eval (.Name x pos) (eOf name sc L a cd cs)) Q Fls s := by
  have hx := eq_of_beq hx
  subst hx
  rcases C.W.bi f (by simpa using hf) hpl with ⟨h1, h2⟩ | h1
  · have hg' := hg
    simp only [glb, Bool.and_eq_true, beq_iff_eq, bne_iff_ne, ne_eq] at hg'
    exact Calls.Name_function_global C.hk hg'.1 (Calls.loadGlobal_builtin (env := eOf name sc L a cd cs) (C.W.g.keeps (fr_of C S)) h1 (C.W.b.keeps (fr_of C S)) h2 h) (beq_eq_false_iff_ne.mpr hg'.2)
  · exact gl_name C S h1 hg h

end sound


section inv
variable {us : Us} {N : List Str} {sc : Scope} {ex : Expr}
theorem iC {c : Const} (h : dsC ex = some c) : ∃ k p, ex = .Constant c k p := by cases ex <;> first | (cases h; exact ⟨_, _, rfl⟩) | cases h
theorem iN {x : Str} (h : dsN ex = some x) : ∃ p, ex = .Name x p := by cases ex <;> first | (cases h; exact ⟨_, rfl⟩) | cases h
theorem iBin {t : Expr × Operator × Expr} (h : dsBin ex = some t) : ∃ p, ex = .BinOp t.1 t.2.1 t.2.2 p := by cases ex <;> first | (cases h; exact ⟨_, rfl⟩) | cases h
theorem iUn {t : UnaryOp × Expr} (h : dsUn ex = some t) : ∃ p, ex = .UnaryOp t.1 t.2 p := by cases ex <;> first | (cases h; exact ⟨_, rfl⟩) | cases h
theorem iCmp {t : Expr × List CmpOp × List Expr} (h : dsCmp ex = some t) : ∃ p, ex = .Compare t.1 t.2.1 t.2.2 p := by cases ex <;> first | (cases h; exact ⟨_, rfl⟩) | cases h
theorem iBool {t : BoolOp × List Expr} (h : dsBool ex = some t) : ∃ p, ex = .BoolOp t.1 t.2 p := by cases ex <;> first | (cases h; exact ⟨_, rfl⟩) | cases h
theorem iIf {t : Expr × Expr × Expr} (h : dsIf ex = some t) : ∃ p, ex = .IfExp t.1 t.2.1 t.2.2 p := by cases ex <;> first | (cases h; exact ⟨_, rfl⟩) | cases h
theorem iCall {t : Expr × List Expr × List Keyword} (h : dsCall ex = some t) : ∃ p, ex = .Call t.1 t.2.1 t.2.2 p := by cases ex <;> first | (cases h; exact ⟨_, rfl⟩) | cases h
theorem iList {es : List Expr} (h : dsList ex = some es) : ∃ p, ex = .List es p := by cases ex <;> first | (cases h; exact ⟨_, rfl⟩) | cases h
theorem iTup {es : List Expr} (h : dsTup ex = some es) : ∃ k p, ex = .Tuple es k p := by cases ex <;> first | (cases h; exact ⟨_, _, rfl⟩) | cases h
theorem iSub {t : Expr × Expr} (h : dsSub ex = some t) : ∃ p, ex = .Subscript t.1 t.2 p := by cases ex <;> first | (cases h; exact ⟨_, rfl⟩) | cases h
theorem iSl {t : Option Expr × Option Expr × Option Expr} (h : dsSl ex = some t) : ∃ p, ex = .Slice t.1 t.2.1 t.2.2 p := by cases ex <;> first | (cases h; exact ⟨_, rfl⟩) | cases h
theorem head_cons {α : Type} {l : List α} {x : α} (h : l.head? = some x) : l = x :: l.tail := by cases l with | nil => cases h | cons y l => cases h; rfl
theorem one_of {α : Type} {l : List α} {x : α} (h : l.head? = some x) (hl : l.length = 1) : l = [x] := by
  rw [head_cons h] at hl ⊢
  have : l.tail = [] := List.length_eq_zero_iff.mp (by simpa using hl)
  rw [this]
theorem two_of {α : Type} {l : List α} {x y : α} (h : l.head? = some x) (h2 : l.tail.head? = some y) (hl : l.length = 2) : l = [x, y] := by
  rw [head_cons h] at hl ⊢
  rw [one_of h2 (by simpa using hl)]
theorem iCallN {t : Str × List Expr} (h : dsCallN sc ex = some t) : ∃ q e es p, ex = .Call (.Name t.1 q) (e :: es) [] p ∧ t.2 = e :: es ∧ glb sc t.1 = true := by
  unfold dsCallN at h
  obtain ⟨c, hc, h1⟩ := Option.bind_eq_some_iff.mp h
  obtain ⟨g, hg, h2⟩ := Option.bind_eq_some_iff.mp h1
  clear h h1
  obtain ⟨f, as, ks⟩ := c
  obtain ⟨p, rfl⟩ := iCall hc
  dsimp only at hg h2 ⊢
  obtain ⟨q, rfl⟩ := iN hg
  have h := h2
  clear h2
  split at h
  · rename_i hh
    simp only [Bool.and_eq_true, List.isEmpty_iff, Bool.not_eq_true'] at hh
    obtain ⟨⟨h1, h2⟩, h3⟩ := hh
    cases h
    subst h1
    cases as with
    | nil => simp at h2
    | cons e es => exact ⟨q, e, es, p, rfl, rfl, h3⟩
  · cases h

theorem inv_lit {i : Int} (h : chkE us N sc (.lit i) ex = true) : ∃ k p, ex = .Constant (.int i) k p := by
  simp only [chkE_lit, chkE_bo, chkE_var, chkE_bin, chkE_neg, chkE_not, chkE_cmp, chkE_cmp2, chkE_all, chkE_any, chkE_ite, chkE_call, chkE_bi, chkE_isI, chkE_isB, chkE_nil, chkE_cons, chkE_lst, chkE_tup, chkE_slc, beq_iff_eq] at h; exact iC h
theorem inv_bo {i : Bool} (h : chkE us N sc (.bo i) ex = true) : ∃ k p, ex = .Constant (.bool i) k p := by
  simp only [chkE_lit, chkE_bo, chkE_var, chkE_bin, chkE_neg, chkE_not, chkE_cmp, chkE_cmp2, chkE_all, chkE_any, chkE_ite, chkE_call, chkE_bi, chkE_isI, chkE_isB, chkE_nil, chkE_cons, chkE_lst, chkE_tup, chkE_slc, beq_iff_eq] at h; exact iC h
theorem inv_var {i : Nat} (h : chkE us N sc (.var i) ex = true) : ∃ x p, ex = .Name x p ∧ N[i]? = some x := by
  simp only [chkE_lit, chkE_bo, chkE_var, chkE_bin, chkE_neg, chkE_not, chkE_cmp, chkE_cmp2, chkE_all, chkE_any, chkE_ite, chkE_call, chkE_bi, chkE_isI, chkE_isB, chkE_nil, chkE_cons, chkE_lst, chkE_tup, chkE_slc, Option.any_eq_true, beq_iff_eq] at h
  obtain ⟨x, hx, h⟩ := h
  obtain ⟨p, rfl⟩ := iN hx
  exact ⟨x, p, rfl, h⟩
theorem inv_bin {op : Operator} {x y : E} (h : chkE us N sc (.bin op x y) ex = true) : ∃ l r p, ex = .BinOp l op r p ∧ chkE us N sc x l = true ∧ chkE us N sc y r = true := by
  simp only [chkE_lit, chkE_bo, chkE_var, chkE_bin, chkE_neg, chkE_not, chkE_cmp, chkE_cmp2, chkE_all, chkE_any, chkE_ite, chkE_call, chkE_bi, chkE_isI, chkE_isB, chkE_nil, chkE_cons, chkE_lst, chkE_tup, chkE_slc, Option.any_eq_true, Bool.and_eq_true, beq_iff_eq] at h
  obtain ⟨t, ht, ⟨rfl, h1⟩, h2⟩ := h
  obtain ⟨p, rfl⟩ := iBin ht
  exact ⟨_, _, p, rfl, h1, h2⟩
theorem inv_neg {x : E} (h : chkE us N sc (.neg x) ex = true) : ∃ l p, ex = .UnaryOp .USub l p ∧ chkE us N sc x l = true := by
  simp only [chkE_lit, chkE_bo, chkE_var, chkE_bin, chkE_neg, chkE_not, chkE_cmp, chkE_cmp2, chkE_all, chkE_any, chkE_ite, chkE_call, chkE_bi, chkE_isI, chkE_isB, chkE_nil, chkE_cons, chkE_lst, chkE_tup, chkE_slc, Option.any_eq_true, Bool.and_eq_true, beq_iff_eq] at h
  obtain ⟨⟨o, l⟩, ht, h1, h2⟩ := h
  obtain ⟨p, rfl⟩ := iUn ht
  dsimp only at h1 h2; subst h1
  exact ⟨_, p, rfl, h2⟩
theorem inv_not {x : E} (h : chkE us N sc (.not x) ex = true) : ∃ l p, ex = .UnaryOp .Not l p ∧ chkE us N sc x l = true := by
  simp only [chkE_lit, chkE_bo, chkE_var, chkE_bin, chkE_neg, chkE_not, chkE_cmp, chkE_cmp2, chkE_all, chkE_any, chkE_ite, chkE_call, chkE_bi, chkE_isI, chkE_isB, chkE_nil, chkE_cons, chkE_lst, chkE_tup, chkE_slc, Option.any_eq_true, Bool.and_eq_true, beq_iff_eq] at h
  obtain ⟨⟨o, l⟩, ht, h1, h2⟩ := h
  obtain ⟨p, rfl⟩ := iUn ht
  dsimp only at h1 h2; subst h1
  exact ⟨_, p, rfl, h2⟩
theorem inv_cmp {op : CmpOp} {x y : E} (h : chkE us N sc (.cmp op x y) ex = true) : ∃ l r p, ex = .Compare l [op] [r] p ∧ behindInMarks op r = false ∧ chkE us N sc x l = true ∧ chkE us N sc y r = true := by
  simp only [chkE_lit, chkE_bo, chkE_var, chkE_bin, chkE_neg, chkE_not, chkE_cmp, chkE_cmp2, chkE_all, chkE_any, chkE_ite, chkE_call, chkE_bi, chkE_isI, chkE_isB, chkE_nil, chkE_cons, chkE_lst, chkE_tup, chkE_slc, Option.any_eq_true, Bool.and_eq_true, beq_iff_eq] at h
  obtain ⟨⟨l, os, rs⟩, ht, ⟨h1, hl⟩, r, hr, ⟨h2, h3⟩, h4⟩ := h
  obtain ⟨p, rfl⟩ := iCmp ht
  dsimp only at h1 hl hr h2 h3 h4 ⊢
  subst h1
  rw [one_of hr hl]
  exact ⟨l, r, p, rfl, h2, h3, h4⟩
theorem inv_cmp2 {o1 o2 : CmpOp} {x y z : E} (h : chkE us N sc (.cmp2 x o1 y o2 z) ex = true) : ∃ l r r2 p, ex = .Compare l [o1, o2] [r, r2] p ∧ behindInMarks o2 r2 = false ∧ chkE us N sc x l = true ∧ chkE us N sc y r = true ∧ chkE us N sc z r2 = true := by
  simp only [chkE_lit, chkE_bo, chkE_var, chkE_bin, chkE_neg, chkE_not, chkE_cmp, chkE_cmp2, chkE_all, chkE_any, chkE_ite, chkE_call, chkE_bi, chkE_isI, chkE_isB, chkE_nil, chkE_cons, chkE_lst, chkE_tup, chkE_slc, Option.any_eq_true, Bool.and_eq_true, beq_iff_eq] at h
  obtain ⟨⟨l, os, rs⟩, ht, ⟨h1, hl⟩, r, hr, r2, hr2, ⟨⟨h2, h3⟩, h4⟩, h5⟩ := h
  obtain ⟨p, rfl⟩ := iCmp ht
  dsimp only at h1 hl hr hr2 h2 h3 h4 h5 ⊢
  subst h1
  rw [two_of hr hr2 hl]
  exact ⟨l, r, r2, p, rfl, h2, h3, h4, h5⟩
theorem inv_all {x : E} (h : chkE us N sc (.all x) ex = true) : ∃ es p, ex = .BoolOp .And es p ∧ chkEs us N sc x es = true := by
  simp only [chkE_lit, chkE_bo, chkE_var, chkE_bin, chkE_neg, chkE_not, chkE_cmp, chkE_cmp2, chkE_all, chkE_any, chkE_ite, chkE_call, chkE_bi, chkE_isI, chkE_isB, chkE_nil, chkE_cons, chkE_lst, chkE_tup, chkE_slc, Option.any_eq_true, Bool.and_eq_true, beq_iff_eq] at h
  obtain ⟨⟨o, l⟩, ht, h1, h2⟩ := h
  obtain ⟨p, rfl⟩ := iBool ht
  dsimp only at h1 h2; subst h1
  exact ⟨_, p, rfl, h2⟩
theorem inv_any {x : E} (h : chkE us N sc (.any x) ex = true) : ∃ es p, ex = .BoolOp .Or es p ∧ chkEs us N sc x es = true := by
  simp only [chkE_lit, chkE_bo, chkE_var, chkE_bin, chkE_neg, chkE_not, chkE_cmp, chkE_cmp2, chkE_all, chkE_any, chkE_ite, chkE_call, chkE_bi, chkE_isI, chkE_isB, chkE_nil, chkE_cons, chkE_lst, chkE_tup, chkE_slc, Option.any_eq_true, Bool.and_eq_true, beq_iff_eq] at h
  obtain ⟨⟨o, l⟩, ht, h1, h2⟩ := h
  obtain ⟨p, rfl⟩ := iBool ht
  dsimp only at h1 h2; subst h1
  exact ⟨_, p, rfl, h2⟩
theorem inv_ite {x y z : E} (h : chkE us N sc (.ite x y z) ex = true) : ∃ t u v p, ex = .IfExp t u v p ∧ chkE us N sc x t = true ∧ chkE us N sc y u = true ∧ chkE us N sc z v = true := by
  simp only [chkE_lit, chkE_bo, chkE_var, chkE_bin, chkE_neg, chkE_not, chkE_cmp, chkE_cmp2, chkE_all, chkE_any, chkE_ite, chkE_call, chkE_bi, chkE_isI, chkE_isB, chkE_nil, chkE_cons, chkE_lst, chkE_tup, chkE_slc, Option.any_eq_true, Bool.and_eq_true] at h
  obtain ⟨t, ht, ⟨h1, h2⟩, h3⟩ := h
  obtain ⟨p, rfl⟩ := iIf ht
  exact ⟨_, _, _, p, rfl, h1, h2, h3⟩
theorem inv_call {f : Str} {l : E} (h : chkE us N sc (.call f l) ex = true) : ∃ q e es p, ex = .Call (.Name f q) (e :: es) [] p ∧ us.l.contains (.fn f) = true ∧ glb sc f = true ∧ chkEs us N sc l (e :: es) = true := by
  simp only [chkE_lit, chkE_bo, chkE_var, chkE_bin, chkE_neg, chkE_not, chkE_cmp, chkE_cmp2, chkE_all, chkE_any, chkE_ite, chkE_call, chkE_bi, chkE_isI, chkE_isB, chkE_nil, chkE_cons, chkE_lst, chkE_tup, chkE_slc, Option.any_eq_true, Bool.and_eq_true, beq_iff_eq] at h
  obtain ⟨t, ht, ⟨h0, rfl⟩, h2⟩ := h
  obtain ⟨q, e, es, p, rfl, h3, h4⟩ := iCallN ht
  exact ⟨q, e, es, p, rfl, h0, h4, h3 ▸ h2⟩
theorem inv_bi {f : B} {l : E} (h : chkE us N sc (.bi f l) ex = true) : ∃ g q e es p, ex = .Call (.Name g q) (e :: es) [] p ∧ us.l.contains f = true ∧ f.plain = true ∧ (f.name == g) = true ∧ glb sc g = true ∧ chkEs us N sc l (e :: es) = true := by
  simp only [chkE_lit, chkE_bo, chkE_var, chkE_bin, chkE_neg, chkE_not, chkE_cmp, chkE_cmp2, chkE_all, chkE_any, chkE_ite, chkE_call, chkE_bi, chkE_isI, chkE_isB, chkE_nil, chkE_cons, chkE_lst, chkE_tup, chkE_slc, Option.any_eq_true, Bool.and_eq_true] at h
  obtain ⟨t, ht, ⟨⟨h0, h01⟩, h1⟩, h2⟩ := h
  obtain ⟨q, e, es, p, rfl, h3, h4⟩ := iCallN ht
  exact ⟨_, q, e, es, p, rfl, h0, h01, h1, h4, h3 ▸ h2⟩
theorem inv_isI {x : E} (h : chkE us N sc (.isI x) ex = true) : ∃ g q e t q2 p, ex = .Call (.Name g q) [e, .Name t q2] [] p ∧ us.l.contains .isinstance = true ∧ us.l.contains .int = true ∧ (B.isinstance.name == g) = true ∧ (B.int.name == t) = true ∧ glb sc g = true ∧ glb sc t = true ∧ notStarred e = true ∧ chkE us N sc x e = true := by
  simp only [chkE_lit, chkE_bo, chkE_var, chkE_bin, chkE_neg, chkE_not, chkE_cmp, chkE_cmp2, chkE_all, chkE_any, chkE_ite, chkE_call, chkE_bi, chkE_isI, chkE_isB, chkE_nil, chkE_cons, chkE_lst, chkE_tup, chkE_slc, Option.any_eq_true, Bool.and_eq_true] at h
  obtain ⟨t, ht, ⟨⟨⟨h0, h1⟩, h2⟩, hl⟩, e, he, c, hc, y, hy, ⟨⟨h3, h4⟩, h5⟩, h6⟩ := h
  obtain ⟨q, e', es, p, rfl, h7, h8⟩ := iCallN ht
  obtain ⟨q2, rfl⟩ := iN hy
  have h9 := two_of he hc (by simpa using hl)
  rw [h7] at h9; cases h9
  exact ⟨_, q, e, y, q2, p, rfl, h0, h1, h2, h3, h8, h4, h5, h6⟩
theorem inv_isB {x : E} (h : chkE us N sc (.isB x) ex = true) : ∃ g q e t q2 p, ex = .Call (.Name g q) [e, .Name t q2] [] p ∧ us.l.contains .isinstance = true ∧ us.l.contains .bool = true ∧ (B.isinstance.name == g) = true ∧ (B.bool.name == t) = true ∧ glb sc g = true ∧ glb sc t = true ∧ notStarred e = true ∧ chkE us N sc x e = true := by
  simp only [chkE_lit, chkE_bo, chkE_var, chkE_bin, chkE_neg, chkE_not, chkE_cmp, chkE_cmp2, chkE_all, chkE_any, chkE_ite, chkE_call, chkE_bi, chkE_isI, chkE_isB, chkE_nil, chkE_cons, chkE_lst, chkE_tup, chkE_slc, Option.any_eq_true, Bool.and_eq_true] at h
  obtain ⟨t, ht, ⟨⟨⟨h0, h1⟩, h2⟩, hl⟩, e, he, c, hc, y, hy, ⟨⟨h3, h4⟩, h5⟩, h6⟩ := h
  obtain ⟨q, e', es, p, rfl, h7, h8⟩ := iCallN ht
  obtain ⟨q2, rfl⟩ := iN hy
  have h9 := two_of he hc (by simpa using hl)
  rw [h7] at h9; cases h9
  exact ⟨_, q, e, y, q2, p, rfl, h0, h1, h2, h3, h8, h4, h5, h6⟩
theorem inv_lst {x : E} (h : chkE us N sc (.lst x) ex = true) : ∃ es p, ex = .List es p ∧ chkEs us N sc x es = true := by
  simp only [chkE_lit, chkE_bo, chkE_var, chkE_bin, chkE_neg, chkE_not, chkE_cmp, chkE_cmp2, chkE_all, chkE_any, chkE_ite, chkE_call, chkE_bi, chkE_isI, chkE_isB, chkE_nil, chkE_cons, chkE_lst, chkE_tup, chkE_slc, Option.any_eq_true] at h
  obtain ⟨t, ht, h⟩ := h
  obtain ⟨p, rfl⟩ := iList ht
  exact ⟨_, p, rfl, h⟩
theorem inv_tup {x : E} (h : chkE us N sc (.tup x) ex = true) : ∃ es k p, ex = .Tuple es k p ∧ chkEs us N sc x es = true := by
  simp only [chkE_lit, chkE_bo, chkE_var, chkE_bin, chkE_neg, chkE_not, chkE_cmp, chkE_cmp2, chkE_all, chkE_any, chkE_ite, chkE_call, chkE_bi, chkE_isI, chkE_isB, chkE_nil, chkE_cons, chkE_lst, chkE_tup, chkE_slc, Option.any_eq_true] at h
  obtain ⟨t, ht, h⟩ := h
  obtain ⟨k, p, rfl⟩ := iTup ht
  exact ⟨_, k, p, rfl, h⟩
/-- a part of a cut -/
noncomputable def chkP (us : Us) (N : List Str) (sc : Scope) (e : E) (x : Option Expr) : Bool := if e.isNil then x.isNone else x.any fun y => chkE us N sc e y
theorem inv_slc {x y z : E} (h : chkE us N sc (.slc x y z) ex = true) : ∃ v l u q p, ex = .Subscript v (.Slice l u none q) p ∧ chkE us N sc x v = true ∧ chkP us N sc y l = true ∧ chkP us N sc z u = true := by
  simp only [chkE_lit, chkE_bo, chkE_var, chkE_bin, chkE_neg, chkE_not, chkE_cmp, chkE_cmp2, chkE_all, chkE_any, chkE_ite, chkE_call, chkE_bi, chkE_isI, chkE_isB, chkE_nil, chkE_cons, chkE_lst, chkE_tup, chkE_slc, Option.any_eq_true, Bool.and_eq_true] at h
  obtain ⟨t, ht, h1, ⟨l, u, st⟩, hu, ⟨h2, h3⟩, h4⟩ := h
  obtain ⟨p, rfl⟩ := iSub ht
  obtain ⟨v, ix⟩ := t
  dsimp only at h1 hu h2 h3 h4 ⊢
  obtain ⟨q, rfl⟩ := iSl hu
  dsimp only at h2 h3 h4 ⊢
  simp only [Option.isNone_iff_eq_none] at h2
  subst h2
  exact ⟨v, l, u, q, p, rfl, h1, h3, h4⟩
theorem inv_nil {es : List Expr} (h : chkEs us N sc .nil es = true) : es = [] := by
  simpa [chkEs_nil, chkEs_cons] using h
theorem inv_cons {x r : E} {es : List Expr} (h : chkEs us N sc (.cons x r) es = true) : ∃ e es', es = e :: es' ∧ notStarred e = true ∧ chkE us N sc x e = true ∧ chkEs us N sc r es' = true := by
  simp only [chkEs_nil, chkEs_cons, Option.any_eq_true, Bool.and_eq_true] at h
  obtain ⟨e, he, ⟨h1, h2⟩, h3⟩ := h
  exact ⟨e, es.tail, head_cons he, h1, h2, h3⟩
theorem cons_of {l : E} {e : Expr} {es : List Expr} (h : chkEs us N sc l (e :: es) = true) : ∃ x r, l = .cons x r := by
  cases l <;> first | exact ⟨_, _, rfl⟩ | exact absurd (show false = true from h) Bool.false_ne_true
end inv


theorem intP_mono {P P' : Int → Prop} (hp : ∀ d, P d → P' d) {d : D} (h : intP P d) : intP P' d := by cases d <;> first | exact hp _ h | exact h
theorem lP_mono {P P' : List D → Prop} (hp : ∀ d, P d → P' d) {d : D} (h : lP P d) : lP P' d := by cases d <;> first | exact hp _ h | exact h
theorem ibP_mono {P P' : Int → Prop} {Q Q' : Bool → Prop} (hp : ∀ d, P d → P' d) (hq : ∀ d, Q d → Q' d) {d : D} (h : ibP P Q d) : ibP P' Q' d := by cases d <;> first | exact hp _ h | exact hq _ h | exact h
theorem ilP_mono {P P' : Int → Prop} {Q Q' : List D → Prop} (hp : ∀ d, P d → P' d) (hq : ∀ d, Q d → Q' d) {d : D} (h : ilP P Q d) : ilP P' Q' d := by cases d <;> first | exact hp _ h | exact hq _ h | exact h
theorem slP_mono {P P' : Str → Prop} {Q Q' : List D → Prop} (hp : ∀ d, P d → P' d) (hq : ∀ d, Q d → Q' d) {d : D} (h : slP P Q d) : slP P' Q' d := by cases d <;> first | exact hp _ h | exact hq _ h | exact h
theorem ii_mono {k k' : Int → Int → Prop} {x y : D} (hp : ∀ a b, k a b → k' a b) (h : ii x y k) : ii x y k' := intP_mono (fun a h => intP_mono (fun b h => hp a b h) h) h
theorem l1_mono {k k' : D → Prop} {ds : List D} (hp : ∀ d, k d → k' d) (h : l1 k ds) : l1 k' ds := by
  obtain ⟨x, rfl, h⟩ := l1_inv h; exact hp _ h
theorem l2_mono {k k' : D → D → Prop} {ds : List D} (hp : ∀ d e, k d e → k' d e) (h : l2 k ds) : l2 k' ds := by
  obtain ⟨x, y, rfl, h⟩ := l2_inv h; exact hp _ _ h
theorem binW_mono {op : Operator} {x y : D} {P P' : D → Prop} (hp : ∀ d, P d → P' d) (h : binW op x y P) : binW op x y P' := by
  cases op <;> first
    | exact ii_mono (fun _ _ h => hp _ h) h
    | exact ii_mono (fun _ _ h => ⟨h.1, hp _ h.2⟩) h
    | exact ii_mono (fun _ _ h => ⟨h.1, h.2.1, hp _ h.2.2⟩) h
    | exact ilP_mono (fun _ h => ibP_mono (fun _ h => hp _ h) (fun _ h => hp _ h) h) (fun _ h => lP_mono (fun _ h => ⟨h.1, hp _ h.2⟩) h) h
    | exact h
theorem cmpW_mono {op : CmpOp} {x y : D} {P P' : Bool → Prop} (hp : ∀ d, P d → P' d) (h : cmpW op x y P) : cmpW op x y P' := by
  cases op <;> first | exact ii_mono (fun _ _ h => hp _ h) h | exact h
theorem biW_mono {f : B} {ds : List D} {P P' : D → Prop} (hp : ∀ d, P d → P' d) (h : biW f ds P) : biW f ds P' := by
  by_cases hs : f = .sum
  · subst hs
    exact h
  cases f <;> first
    | exact absurd rfl hs
    | exact l1_mono (fun _ h => intP_mono (fun _ h => hp _ h) h) h
    | exact l1_mono (fun _ h => intP_mono (fun _ h => ⟨h.1, hp _ h.2⟩) h) h
    | exact l2_mono (fun _ _ h => ii_mono (fun _ _ h => hp _ h) h) h
    | exact l2_mono (fun _ _ h => ii_mono (fun _ _ h => ⟨h.1, h.2.1, hp _ h.2.2⟩) h) h
    | exact l1_mono (fun _ h => lP_mono (fun _ h => ⟨h.1, hp _ h.2⟩) h) h
    | exact l1_mono (fun _ h => slP_mono (fun _ h => ⟨h.1, hp _ h.2⟩) (fun _ h => ⟨h.1, hp _ h.2⟩) h) h
    | exact h
theorem isIP_mono {P P' : D → Prop} (hp : ∀ d, P d → P' d) {d : D} (h : isIP P d) : isIP P' d := ibP_mono (fun _ h => hp _ h) (fun _ h => hp _ h) h
theorem isBP_mono {P P' : D → Prop} (hp : ∀ d, P d → P' d) {d : D} (h : isBP P d) : isBP P' d := ibP_mono (fun _ h => hp _ h) (fun _ h => hp _ h) h
theorem cutP_mono {i j : Option Int} {P P' : D → Prop} (hp : ∀ d, P d → P' d) {d : D} (h : cutP i j P d) : cutP i j P' d := lP_mono (fun _ h => ⟨h.1, hp _ h.2⟩) h

section
variable {Γ : Str → List D → D → Prop}
structure Mono (Γ : Str → List D → D → Prop) (e : E) : Prop where
  w : ∀ (ρ : List D) (P P' : D → Prop), (∀ d, P d → P' d) → wp0 Γ e ρ P → wp0 Γ e ρ P'
  a : ∀ (ρ : List D) (P P' : D → Prop), (∀ d, P d → P' d) → wpAnd0 Γ e ρ P → wpAnd0 Γ e ρ P'
  o : ∀ (ρ : List D) (P P' : D → Prop), (∀ d, P d → P' d) → wpOr0 Γ e ρ P → wpOr0 Γ e ρ P'
  l : ∀ (ρ : List D) (P P' : List D → Prop), (∀ d, P d → P' d) → wpL0 Γ e ρ P → wpL0 Γ e ρ P'
theorem Mono.mk' {e : E} (h1 : e ≠ .nil) (h2 : ∀ x r, e ≠ .cons x r) (w : ∀ (ρ : List D) (P P' : D → Prop), (∀ d, P d → P' d) → wp0 Γ e ρ P → wp0 Γ e ρ P') : Mono Γ e := by
  refine ⟨w, ?_, ?_, ?_⟩
  · intro ρ P P' hp h; cases e <;> first | exact absurd rfl h1 | exact absurd rfl (h2 _ _) | exact h.elim
  · intro ρ P P' hp h; cases e <;> first | exact absurd rfl h1 | exact absurd rfl (h2 _ _) | exact h.elim
  · intro ρ P P' hp h; cases e <;> first | exact absurd rfl h1 | exact absurd rfl (h2 _ _) | exact h.elim
theorem mono (e : E) : Mono Γ e := by
  induction e with
  | lit i => exact .mk' (by simp) (by simp) fun ρ P P' hp h => by simp only [wp0_lit, wp0_bo, wp0_var, wp0_bin, wp0_neg, wp0_not, wp0_cmp, wp0_cmp2, wp0_all, wp0_any, wp0_ite, wp0_call, wp0_bi, wp0_isI, wp0_isB, wp0_nil, wp0_cons, wp0_lst, wp0_tup, wp0_slc] at h ⊢; exact hp _ h
  | bo i => exact .mk' (by simp) (by simp) fun ρ P P' hp h => by simp only [wp0_lit, wp0_bo, wp0_var, wp0_bin, wp0_neg, wp0_not, wp0_cmp, wp0_cmp2, wp0_all, wp0_any, wp0_ite, wp0_call, wp0_bi, wp0_isI, wp0_isB, wp0_nil, wp0_cons, wp0_lst, wp0_tup, wp0_slc] at h ⊢; exact hp _ h
  | var i => exact .mk' (by simp) (by simp) fun ρ P P' hp h => by simp only [wp0_lit, wp0_bo, wp0_var, wp0_bin, wp0_neg, wp0_not, wp0_cmp, wp0_cmp2, wp0_all, wp0_any, wp0_ite, wp0_call, wp0_bi, wp0_isI, wp0_isB, wp0_nil, wp0_cons, wp0_lst, wp0_tup, wp0_slc] at h ⊢; exact ⟨h.1, hp _ h.2⟩
  | bin op x y ihx ihy =>
    exact .mk' (by simp) (by simp) fun ρ P P' hp h => by
      simp only [wp0_lit, wp0_bo, wp0_var, wp0_bin, wp0_neg, wp0_not, wp0_cmp, wp0_cmp2, wp0_all, wp0_any, wp0_ite, wp0_call, wp0_bi, wp0_isI, wp0_isB, wp0_nil, wp0_cons, wp0_lst, wp0_tup, wp0_slc] at h ⊢; exact ihx.w ρ _ _ (fun d hd => ihy.w ρ _ _ (fun d' hd' => binW_mono hp hd') hd) h
  | neg x ih =>
    exact .mk' (by simp) (by simp) fun ρ P P' hp h => by
      simp only [wp0_lit, wp0_bo, wp0_var, wp0_bin, wp0_neg, wp0_not, wp0_cmp, wp0_cmp2, wp0_all, wp0_any, wp0_ite, wp0_call, wp0_bi, wp0_isI, wp0_isB, wp0_nil, wp0_cons, wp0_lst, wp0_tup, wp0_slc] at h ⊢; exact ih.w ρ _ _ (fun d hd => intP_mono (fun i hi => hp _ hi) hd) h
  | not x ih =>
    exact .mk' (by simp) (by simp) fun ρ P P' hp h => by
      simp only [wp0_lit, wp0_bo, wp0_var, wp0_bin, wp0_neg, wp0_not, wp0_cmp, wp0_cmp2, wp0_all, wp0_any, wp0_ite, wp0_call, wp0_bi, wp0_isI, wp0_isB, wp0_nil, wp0_cons, wp0_lst, wp0_tup, wp0_slc] at h ⊢; exact ih.w ρ _ _ (fun d ⟨b, hb, hd⟩ => ⟨b, hb, hp _ hd⟩) h
  | cmp op x y ihx ihy =>
    exact .mk' (by simp) (by simp) fun ρ P P' hp h => by
      simp only [wp0_lit, wp0_bo, wp0_var, wp0_bin, wp0_neg, wp0_not, wp0_cmp, wp0_cmp2, wp0_all, wp0_any, wp0_ite, wp0_call, wp0_bi, wp0_isI, wp0_isB, wp0_nil, wp0_cons, wp0_lst, wp0_tup, wp0_slc] at h ⊢; exact ihx.w ρ _ _ (fun d hd => ihy.w ρ _ _ (fun d' hd' => cmpW_mono (fun c hc => hp _ hc) hd') hd) h
  | cmp2 x o1 y o2 z ihx ihy ihz =>
    exact .mk' (by simp) (by simp) fun ρ P P' hp h => by
      simp only [wp0_lit, wp0_bo, wp0_var, wp0_bin, wp0_neg, wp0_not, wp0_cmp, wp0_cmp2, wp0_all, wp0_any, wp0_ite, wp0_call, wp0_bi, wp0_isI, wp0_isB, wp0_nil, wp0_cons, wp0_lst, wp0_tup, wp0_slc] at h ⊢
      refine ihx.w ρ _ _ (fun d hd => ihy.w ρ _ _ (fun d' hd' => cmpW_mono (fun c hc => ?_) hd') hd) h
      cases c with
      | true => simp only [if_true] at hc ⊢; exact ihz.w ρ _ _ (fun _ h => cmpW_mono (fun _ h => hp _ h) h) hc
      | false => simp only [Bool.false_eq_true, if_false] at hc ⊢; exact hp _ hc
  | all l ih => exact .mk' (by simp) (by simp) fun ρ P P' hp h => by simp only [wp0_lit, wp0_bo, wp0_var, wp0_bin, wp0_neg, wp0_not, wp0_cmp, wp0_cmp2, wp0_all, wp0_any, wp0_ite, wp0_call, wp0_bi, wp0_isI, wp0_isB, wp0_nil, wp0_cons, wp0_lst, wp0_tup, wp0_slc] at h ⊢; exact ih.a ρ _ _ hp h
  | any l ih => exact .mk' (by simp) (by simp) fun ρ P P' hp h => by simp only [wp0_lit, wp0_bo, wp0_var, wp0_bin, wp0_neg, wp0_not, wp0_cmp, wp0_cmp2, wp0_all, wp0_any, wp0_ite, wp0_call, wp0_bi, wp0_isI, wp0_isB, wp0_nil, wp0_cons, wp0_lst, wp0_tup, wp0_slc] at h ⊢; exact ih.o ρ _ _ hp h
  | ite c x y ihc ihx ihy =>
    exact .mk' (by simp) (by simp) fun ρ P P' hp h => by
      simp only [wp0_lit, wp0_bo, wp0_var, wp0_bin, wp0_neg, wp0_not, wp0_cmp, wp0_cmp2, wp0_all, wp0_any, wp0_ite, wp0_call, wp0_bi, wp0_isI, wp0_isB, wp0_nil, wp0_cons, wp0_lst, wp0_tup, wp0_slc] at h ⊢
      refine ihc.w ρ _ _ (fun d ⟨b, hb, hd⟩ => ⟨b, hb, ?_⟩) h
      cases b with
      | true => simp only [if_true] at hd ⊢; exact ihx.w ρ _ _ hp hd
      | false => simp only [Bool.false_eq_true, if_false] at hd ⊢; exact ihy.w ρ _ _ hp hd
  | call f l ih =>
    exact .mk' (by simp) (by simp) fun ρ P P' hp h => by
      simp only [wp0_lit, wp0_bo, wp0_var, wp0_bin, wp0_neg, wp0_not, wp0_cmp, wp0_cmp2, wp0_all, wp0_any, wp0_ite, wp0_call, wp0_bi, wp0_isI, wp0_isB, wp0_nil, wp0_cons, wp0_lst, wp0_tup, wp0_slc] at h ⊢; exact ih.l ρ _ _ (fun ds ⟨r, hr, hd⟩ => ⟨r, hr, hp _ hd⟩) h
  | bi f l ih =>
    exact .mk' (by simp) (by simp) fun ρ P P' hp h => by
      simp only [wp0_lit, wp0_bo, wp0_var, wp0_bin, wp0_neg, wp0_not, wp0_cmp, wp0_cmp2, wp0_all, wp0_any, wp0_ite, wp0_call, wp0_bi, wp0_isI, wp0_isB, wp0_nil, wp0_cons, wp0_lst, wp0_tup, wp0_slc] at h ⊢; exact ih.l ρ _ _ (fun ds hd => biW_mono hp hd) h
  | isI x ih =>
    exact .mk' (by simp) (by simp) fun ρ P P' hp h => by
      simp only [wp0_lit, wp0_bo, wp0_var, wp0_bin, wp0_neg, wp0_not, wp0_cmp, wp0_cmp2, wp0_all, wp0_any, wp0_ite, wp0_call, wp0_bi, wp0_isI, wp0_isB, wp0_nil, wp0_cons, wp0_lst, wp0_tup, wp0_slc] at h ⊢; exact ih.w ρ _ _ (fun d hd => isIP_mono hp hd) h
  | isB x ih =>
    exact .mk' (by simp) (by simp) fun ρ P P' hp h => by
      simp only [wp0_lit, wp0_bo, wp0_var, wp0_bin, wp0_neg, wp0_not, wp0_cmp, wp0_cmp2, wp0_all, wp0_any, wp0_ite, wp0_call, wp0_bi, wp0_isI, wp0_isB, wp0_nil, wp0_cons, wp0_lst, wp0_tup, wp0_slc] at h ⊢; exact ih.w ρ _ _ (fun d hd => isBP_mono hp hd) h
  | nil =>
    refine ⟨?_, ?_, ?_, ?_⟩
    · intro ρ P P' hp h; simp only [wp0_lit, wp0_bo, wp0_var, wp0_bin, wp0_neg, wp0_not, wp0_cmp, wp0_cmp2, wp0_all, wp0_any, wp0_ite, wp0_call, wp0_bi, wp0_isI, wp0_isB, wp0_nil, wp0_cons, wp0_lst, wp0_tup, wp0_slc] at h
    · intro ρ P P' hp h; simp only [wpAnd0_cons, wpAnd0_nil] at h
    · intro ρ P P' hp h; simp only [wpOr0_cons, wpOr0_nil] at h
    · intro ρ P P' hp h; simp only [wpL0_nil, wpL0_cons] at h ⊢; exact hp _ h
  | cons x r ihx ihr =>
    refine ⟨?_, ?_, ?_, ?_⟩
    · intro ρ P P' hp h; simp only [wp0_lit, wp0_bo, wp0_var, wp0_bin, wp0_neg, wp0_not, wp0_cmp, wp0_cmp2, wp0_all, wp0_any, wp0_ite, wp0_call, wp0_bi, wp0_isI, wp0_isB, wp0_nil, wp0_cons, wp0_lst, wp0_tup, wp0_slc] at h
    · intro ρ P P' hp h
      simp only [wpAnd0_cons, wpAnd0_nil] at h ⊢
      refine ihx.w ρ _ _ (fun d hd => ?_) h
      split at hd
      · rename_i hc; rw [if_pos hc]; exact hp _ hd
      · rename_i hc; rw [if_neg hc]
        obtain ⟨b, hb, hd⟩ := hd
        refine ⟨b, hb, ?_⟩
        cases b with
        | true => simp only [if_true] at hd ⊢; exact ihr.a ρ _ _ hp hd
        | false => simp only [Bool.false_eq_true, if_false] at hd ⊢; exact hp _ hd
    · intro ρ P P' hp h
      simp only [wpOr0_cons, wpOr0_nil] at h ⊢
      refine ihx.w ρ _ _ (fun d hd => ?_) h
      split at hd
      · rename_i hc; rw [if_pos hc]; exact hp _ hd
      · rename_i hc; rw [if_neg hc]
        obtain ⟨b, hb, hd⟩ := hd
        refine ⟨b, hb, ?_⟩
        cases b with
        | true => simp only [if_true] at hd ⊢; exact hp _ hd
        | false => simp only [Bool.false_eq_true, if_false] at hd ⊢; exact ihr.o ρ _ _ hp hd
    · intro ρ P P' hp h; simp only [wpL0_nil, wpL0_cons] at h ⊢; exact ihx.w ρ _ _ (fun d hd => ihr.l ρ _ _ (fun ds h => hp _ h) hd) h
  | lst l ih =>
    exact .mk' (by simp) (by simp) fun ρ P P' hp h => by
      simp only [wp0_lit, wp0_bo, wp0_var, wp0_bin, wp0_neg, wp0_not, wp0_cmp, wp0_cmp2, wp0_all, wp0_any, wp0_ite, wp0_call, wp0_bi, wp0_isI, wp0_isB, wp0_nil, wp0_cons, wp0_lst, wp0_tup, wp0_slc] at h ⊢; exact ih.l ρ _ _ (fun ds hd => ⟨hd.1, hp _ hd.2⟩) h
  | tup l ih =>
    exact .mk' (by simp) (by simp) fun ρ P P' hp h => by
      simp only [wp0_lit, wp0_bo, wp0_var, wp0_bin, wp0_neg, wp0_not, wp0_cmp, wp0_cmp2, wp0_all, wp0_any, wp0_ite, wp0_call, wp0_bi, wp0_isI, wp0_isB, wp0_nil, wp0_cons, wp0_lst, wp0_tup, wp0_slc] at h ⊢; exact ih.l ρ _ _ (fun ds hd => ⟨hd.1, hp _ hd.2⟩) h
  | slc x lo hi ihx ihl ihh =>
    exact .mk' (by simp) (by simp) fun ρ P P' hp h => by
      simp only [wp0_lit, wp0_bo, wp0_var, wp0_bin, wp0_neg, wp0_not, wp0_cmp, wp0_cmp2, wp0_all, wp0_any, wp0_ite, wp0_call, wp0_bi, wp0_isI, wp0_isB, wp0_nil, wp0_cons, wp0_lst, wp0_tup, wp0_slc] at h ⊢
      have part : ∀ {e : E} (ih : Mono Γ e) (P P' : Option Int → Prop), (∀ i, P i → P' i) → partP e.isNil (wp0 Γ e ρ) P → partP e.isNil (wp0 Γ e ρ) P' := by
        intro e ih P P' hp h
        unfold partP at h ⊢
        split at h
        · rename_i hc; rw [if_pos hc]; exact hp _ h
        · rename_i hc; rw [if_neg hc]; exact ih.w ρ _ _ (fun d hd => intP_mono (fun i hi => hp _ hi) hd) h
      exact ihx.w ρ _ _ (fun d hd => part ihl _ _ (fun i hi => part ihh _ _ (fun j hj => cutP_mono hp hj) hi) hd) h
theorem wp_mono {e : E} {ρ : List D} {P P' : D → Prop} (h : wp0 Γ e ρ P) (hp : ∀ d, P d → P' d) : wp0 Γ e ρ P' := (mono e).w ρ P P' hp h
end


section sound
variable {prog : Program} {w : World} {hB h₀ : Heap} {mg mb : Str → Option Value} {us : Us} {N : List Str} {sc : Scope} {Γ : Str → List D → D → Prop} {n : Nat} {name : Str} {L : Addr} {a : Option Addr × Option Addr} {cd : Value} {cs : List (Str × Addr)}

abbrev SndC (prog : Program) (w : World) (h₀ : Heap) (us : Us) (N : List Str) (sc : Scope) (Γ : Str → List D → D → Prop) (n : Nat) (name : Str) (L : Addr) (a : Option Addr × Option Addr) (cd : Value) (cs : List (Str × Addr)) (e : E) : Prop := Snd prog w h₀ us N sc Γ n name L a cd cs e

theorem isinst_ok {A : Around} {s : Shared} {v : Value} {d : D} {P : D → Prop} (r : RV s.heap v d) (h : isIP P d) :
    wpAny (model prog w) A (call (.builtin "isinstance") [v, .type "int"]) (fun v s' => Keeps s s' ∧ ∃ d, RV s'.heap v d ∧ P d) Fls s := by
  rcases ibP_inv h with ⟨i, rfl, h⟩ | ⟨c, rfl, h⟩
  · obtain ⟨t, rfl⟩ := r.inv_int; exact call_isinstance_yes (PySem.typeIs_int s i t) F.isi_meta_int F.isi_self_int ⟨kRefl s, _, .bool true, h⟩
  · obtain rfl := r.inv_bool; exact call_isinstance_yes (Tx := "bool") (PySem.typeIs_bool s c) F.isi_meta_int (by rw [isSubtype_type]; kernel_rfl) ⟨kRefl s, _, .bool true, h⟩
theorem isinstB_ok {A : Around} {s : Shared} {v : Value} {d : D} {P : D → Prop} (r : RV s.heap v d) (h : isBP P d) :
    wpAny (model prog w) A (call (.builtin "isinstance") [v, .type "bool"]) (fun v s' => Keeps s s' ∧ ∃ d, RV s'.heap v d ∧ P d) Fls s := by
  rcases ibP_inv h with ⟨i, rfl, h⟩ | ⟨c, rfl, h⟩
  · obtain ⟨t, rfl⟩ := r.inv_int
    exact PySem.call_isinstance (PySem.isinstance_false_int (T := "bool") (by decide) F.isi_meta_bool isSubtype_int_bool) ⟨kTok s _, _, .bool false, h⟩
  · obtain rfl := r.inv_bool; exact call_isinstance_yes (Tx := "bool") (PySem.typeIs_bool s c) F.isi_meta_bool (by rw [isSubtype_type]; kernel_rfl) ⟨kRefl s, _, .bool true, h⟩

theorem part_ok {e : E} (ih : SndC prog w h₀ us N sc Γ n name L a cd cs e) {l : Option Expr} (hc : chkP us N sc e l = true) {A : Around} {s : Shared} {ρ : List D} {P : Option Int → Prop} (hA : AOk n A) (S : St h₀ L N ρ s)
    (h : partP e.isNil (wp0 Γ e ρ) P) : wpAny (model prog w) A (evalPart l (eOf name sc L a cd cs)) (fun v s' => Keeps s s' ∧ ∃ i, IsPart v i ∧ P i) Fls s := by
  unfold chkP at hc
  unfold partP at h
  split at h
  · rename_i hn
    rw [if_pos hn] at hc
    simp only [Option.isNone_iff_eq_none] at hc
    subst hc
    exact wpAny_evalPart_none ⟨kRefl s, _, .none, h⟩
  · rename_i hn
    rw [if_neg hn] at hc
    obtain ⟨x, rfl, hx⟩ := (Option.any_eq_true ..).mp hc
    refine wpAny_evalPart_some (wpAny_mono (ih.val x hx A s ρ _ hA S h) (fun v s' h' => ?_) fun _ _ x => x)
    obtain ⟨k, d, r, hp⟩ := h'
    obtain ⟨i, rfl, hp⟩ := intP_inv hp
    obtain ⟨t, rfl⟩ := r.inv_int
    exact ⟨k, _, .int _ _, hp⟩

theorem args_ok {x r : E} (ihx : SndC prog w h₀ us N sc Γ n name L a cd cs x) (ihr : SndC prog w h₀ us N sc Γ n name L a cd cs r) {es : List Expr} {pos : Pos} (hc : chkEs us N sc (.cons x r) es = true)
    {A : Around} {s : Shared} {ρ : List D} {P : List D → Prop} (hA : AOk n A) (S : St h₀ L N ρ s) (h : wpL0 Γ (.cons x r) ρ P) :
    wpAny (model prog w) A (spliced (backTo pos (starEach es (eOf name sc L a cd cs)))) (fun vs s' => Keeps s s' ∧ ∃ ds, RVs s'.heap vs ds ∧ P ds) Fls s := by
  obtain ⟨e, es, rfl, hs, h1, h2⟩ := inv_cons hc
  refine args_cons ?_ (starEach_cons hs)
  simp only [wpL0_nil, wpL0_cons] at h
  refine wpAny_mono (ihx.val e h1 A s ρ _ hA S h) (fun v s' h' => ?_) fun _ _ x => x
  obtain ⟨k, d, rv, hp⟩ := h'
  refine wpAny_mono (ihr.lst es pos h2 A s' ρ _ hA (S.keeps k) hp) (fun vs s'' h'' => ?_) fun _ _ x => x
  obtain ⟨k2, ds, rs, hp2⟩ := h''
  exact ⟨kTrans k k2, _, RVs.cons (rv.keep (kSeq k2)) rs, hp2⟩

theorem isNil_iff {r : E} : r.isNil = true ↔ r = .nil := by cases r <;> simp
theorem wpAnd_more {x r : E} {ρ : List D} {P : D → Prop} (hr : r ≠ .nil) : wpAnd0 Γ (.cons x r) ρ P = wp0 Γ x ρ fun d => ∃ b, truth d = some b ∧ if b = true then wpAnd0 Γ r ρ P else P d := by
  have hn : ¬ r.isNil = true := fun h => hr (isNil_iff.mp h)
  simp only [wpAnd0_cons, wpAnd0_nil, if_neg hn]
theorem wpOr_more {x r : E} {ρ : List D} {P : D → Prop} (hr : r ≠ .nil) : wpOr0 Γ (.cons x r) ρ P = wp0 Γ x ρ fun d => ∃ b, truth d = some b ∧ if b = true then P d else wpOr0 Γ r ρ P := by
  have hn : ¬ r.isNil = true := fun h => hr (isNil_iff.mp h)
  simp only [wpOr0_cons, wpOr0_nil, if_neg hn]
theorem wpAnd_one {x : E} {ρ : List D} {P : D → Prop} : wpAnd0 Γ (.cons x .nil) ρ P = wp0 Γ x ρ P := by simp only [wpAnd0_cons, wpAnd0_nil, E.isNil, if_true]
theorem wpOr_one {x : E} {ρ : List D} {P : D → Prop} : wpOr0 Γ (.cons x .nil) ρ P = wp0 Γ x ρ P := by simp only [wpOr0_cons, wpOr0_nil, E.isNil, if_true]
theorem val_cases (f : B) (h : f.plain = true) : (∃ id, f.val = .builtin id) ∨ (∃ T, f.val = .type T) := by
  cases f <;> first | exact .inl ⟨_, rfl⟩ | exact .inr ⟨_, rfl⟩ | cases h
theorem nil_of {r : E} (h : chkEs us N sc r [] = true) : r = .nil := by
  cases r <;> first | rfl | exact absurd (show false = true from h) Bool.false_ne_true
theorem chkEs_stars {l : E} {e : Expr} {es : List Expr} (h : chkEs us N sc l (e :: es) = true) {env : Env} {pos : Pos} : (backTo pos (starEach es env)).any (·.1) = false := by
  have gen : ∀ (es : List Expr) (l : E), chkEs us N sc l es = true → (backTo pos (starEach es env)).any (·.1) = false := by
    intro es
    induction es with
    | nil => intro l _; rfl
    | cons e es ih =>
      intro l hl
      obtain ⟨x, r, rfl⟩ := cons_of hl
      obtain ⟨e', es', e1, hs, _, h2⟩ := inv_cons hl
      cases e1
      have := ih _ h2
      rw [starEach_cons hs]
      simpa [backTo] using this
  obtain ⟨x, r, rfl⟩ := cons_of h
  obtain ⟨e', es', e1, hs, _, h2⟩ := inv_cons h
  cases e1
  exact gen es _ h2
theorem callB {A : Around} {s : Shared} {env : Env} {v : Value} {e : Expr} {es : List Expr} {pos : Pos} {Q : Value → Shared → Prop} (hs : notStarred e = true) (hst : (backTo pos (starEach es env)).any (·.1) = false) (hv : (∃ id, v = .builtin id) ∨ (∃ T, v = .type T))
    (h : wpAny (model prog w) A (spliced (backTo pos (starEach (e :: es) env))) (fun vs s₁ => wpAny (model prog w) A (call v vs) Q Fls s₁) Fls s) :
    wpAny (model prog w) A (callWith pos v [] (backTo pos (starEach (e :: es) env)) []) Q Fls s := by
  have he := starEach_cons (rest := es) (env := env) hs
  rcases hv with ⟨id, rfl⟩ | ⟨T, rfl⟩
  · exact callWith_builtin1 h he hst
  · rw [he] at h ⊢
    exact PyProof.Rows.callWith_type (by show (false || (backTo pos (starEach es env)).any (·.1)) = false; rw [hst]; rfl) (evalArgs_plain h)

theorem sound (C : Cx prog w hB h₀ mg mb us N sc Γ n name L a cd cs) : ∀ e : E, SndC prog w h₀ us N sc Γ n name L a cd cs e := by
  intro e
  induction e with
  | lit i =>
    refine .mkP (by simp) (by simp) (fun ex hc t => by obtain ⟨k, p, rfl⟩ := inv_lit hc; rfl) fun ex hc A s ρ P hA S h => ?_
    obtain ⟨k, p, rfl⟩ := inv_lit hc
    simp only [wp0_lit, wp0_bo, wp0_var, wp0_bin, wp0_neg, wp0_not, wp0_cmp, wp0_cmp2, wp0_all, wp0_any, wp0_ite, wp0_call, wp0_bi, wp0_isI, wp0_isB, wp0_nil, wp0_cons, wp0_lst, wp0_tup, wp0_slc] at h
    exact wpAny_Constant_int (tok_ok h)
  | bo i =>
    refine .mkP (by simp) (by simp) (fun ex hc t => by obtain ⟨k, p, rfl⟩ := inv_bo hc; rfl) fun ex hc A s ρ P hA S h => ?_
    obtain ⟨k, p, rfl⟩ := inv_bo hc
    simp only [wp0_lit, wp0_bo, wp0_var, wp0_bin, wp0_neg, wp0_not, wp0_cmp, wp0_cmp2, wp0_all, wp0_any, wp0_ite, wp0_call, wp0_bi, wp0_isI, wp0_isB, wp0_nil, wp0_cons, wp0_lst, wp0_tup, wp0_slc] at h
    exact Constant_bool ⟨kRefl s, _, .bool _, h⟩
  | var i =>
    refine .mkP (by simp) (by simp) (fun ex hc t => by obtain ⟨x, p, rfl, _⟩ := inv_var hc; rfl) fun ex hc A s ρ P hA S h => ?_
    obtain ⟨x, p, rfl, hx⟩ := inv_var hc
    simp only [wp0_lit, wp0_bo, wp0_var, wp0_bin, wp0_neg, wp0_not, wp0_cmp, wp0_cmp2, wp0_all, wp0_any, wp0_ite, wp0_call, wp0_bi, wp0_isI, wp0_isB, wp0_nil, wp0_cons, wp0_lst, wp0_tup, wp0_slc] at h
    exact ld_ok C S hx rfl h.1 fun v r => ⟨kRefl s, _, r, h.2⟩
  | bin op x y ihx ihy =>
    refine .mkP (by simp) (by simp) (fun ex hc t => by obtain ⟨_, _, _, rfl, _⟩ := inv_bin hc; rfl) fun ex hc A s ρ P hA S h => ?_
    obtain ⟨l, r, p, rfl, h1, h2⟩ := inv_bin hc
    simp only [wp0_lit, wp0_bo, wp0_var, wp0_bin, wp0_neg, wp0_not, wp0_cmp, wp0_cmp2, wp0_all, wp0_any, wp0_ite, wp0_call, wp0_bi, wp0_isI, wp0_isB, wp0_nil, wp0_cons, wp0_lst, wp0_tup, wp0_slc] at h
    refine wpAny_BinOp (wpAny_mono (ihx.val l h1 A s ρ _ hA S h) (fun v s' h' => ?_) fun _ _ x => x)
    obtain ⟨k, d, rv, hp⟩ := h'
    refine wpAny_mono (ihy.val r h2 A s' ρ _ hA (S.keeps k) hp) (fun u s'' h'' => ?_) fun _ _ x => x
    obtain ⟨k2, d2, ru, hp2⟩ := h''
    exact wpAny_mono (bin_ok (rv.keep (kSeq k2)) ru hp2) (fun _ _ x => ⟨kTrans k (kTrans k2 x.1), x.2⟩) fun _ _ x => x
  | neg x ihx =>
    refine .mkP (by simp) (by simp) (fun ex hc t => by obtain ⟨_, _, rfl, _⟩ := inv_neg hc; rfl) fun ex hc A s ρ P hA S h => ?_
    obtain ⟨l, p, rfl, h1⟩ := inv_neg hc
    simp only [wp0_lit, wp0_bo, wp0_var, wp0_bin, wp0_neg, wp0_not, wp0_cmp, wp0_cmp2, wp0_all, wp0_any, wp0_ite, wp0_call, wp0_bi, wp0_isI, wp0_isB, wp0_nil, wp0_cons, wp0_lst, wp0_tup, wp0_slc] at h
    refine UnaryOp_ (wpAny_mono (ihx.val l h1 A s ρ _ hA S h) (fun v s' h' => ?_) fun _ _ x => x)
    obtain ⟨k, d, rv, hp⟩ := h'
    obtain ⟨i, rfl, hp⟩ := intP_inv hp
    obtain ⟨t, rfl⟩ := rv.inv_int; exact PySem.P.neg_int ⟨kTrans k (kTok _ _), _, .int _ _, hp⟩
  | not x ihx =>
    refine .mk' (by simp) (by simp) (fun ex hc A s ρ P hA S h => ?_) fun ex hc A s ρ P hA S h => ?_
    · obtain ⟨l, p, rfl, h1⟩ := inv_not hc
      simp only [wp0_lit, wp0_bo, wp0_var, wp0_bin, wp0_neg, wp0_not, wp0_cmp, wp0_cmp2, wp0_all, wp0_any, wp0_ite, wp0_call, wp0_bi, wp0_isI, wp0_isB, wp0_nil, wp0_cons, wp0_lst, wp0_tup, wp0_slc] at h
      refine UnaryOp_ (wpAny_mono (ihx.val l h1 A s ρ _ hA S h) (fun v s' h' => ?_) fun _ _ x => x)
      obtain ⟨k, d, rv, b, hb, hp⟩ := h'
      refine not_of (wpAny_mono (truthy_ok rv hb) (fun c s'' h'' => ?_) fun _ _ x => x)
      obtain ⟨k2, rfl⟩ := h''
      exact ⟨kTrans k k2, _, .bool _, hp⟩
    · obtain ⟨l, p, rfl, h1⟩ := inv_not hc
      simp only [wp0_lit, wp0_bo, wp0_var, wp0_bin, wp0_neg, wp0_not, wp0_cmp, wp0_cmp2, wp0_all, wp0_any, wp0_ite, wp0_call, wp0_bi, wp0_isI, wp0_isB, wp0_nil, wp0_cons, wp0_lst, wp0_tup, wp0_slc] at h
      refine isTrue_not (wpAny_mono (ihx.tst l h1 A s ρ (fun c => P (!c)) hA S ?_) (fun c s' h' => ⟨h'.1, h'.2⟩) fun _ _ x => x)
      simpa [truth_c_undef, truth_c_none, truth_c_int, truth_c_bool, truth_c_str, truth_c_list, truth_c_tup, truth_c_obj] using h
  | cmp op x y ihx ihy =>
    have key : ∀ ex, chkE us N sc (.cmp op x y) ex = true → ∀ (A : Around) (s : Shared) (ρ : List D) (P : Bool → Prop), AOk n A → St h₀ L N ρ s → (wp0 Γ x ρ fun x => wp0 Γ y ρ fun y => cmpW op x y P) →
        ∃ l r p, ex = .Compare l [op] [r] p ∧ behindInMarks op r = false ∧ wpAny (model prog w) A (eval l (eOf name sc L a cd cs)) (fun v s₁ => wpAny (model prog w) A (eval r (eOf name sc L a cd cs)) (fun u s₂ => wpAny (model prog w) A (compareOp op v u) (fun c s₃ => Keeps s s₃ ∧ ∃ b, c = .bool b ∧ P b) Fls s₂) Fls s₁) Fls s := by
      intro ex hc A s ρ P hA S h
      obtain ⟨l, r, p, rfl, hm, h1, h2⟩ := inv_cmp hc
      refine ⟨l, r, p, rfl, hm, wpAny_mono (ihx.val l h1 A s ρ _ hA S h) (fun v s' h' => ?_) fun _ _ x => x⟩
      obtain ⟨k, d, rv, hp⟩ := h'
      refine wpAny_mono (ihy.val r h2 A s' ρ _ hA (S.keeps k) hp) (fun u s'' h'' => ?_) fun _ _ x => x
      obtain ⟨k2, d2, ru, hp2⟩ := h''
      refine wpAny_mono (cmp_ok (rv.keep (kSeq k2)) ru hp2) (fun c s₃ h₃ => ?_) fun _ _ x => x
      obtain ⟨rfl, b, rfl, hb⟩ := h₃
      exact ⟨kTrans k k2, b, rfl, hb⟩
    refine .mk' (by simp) (by simp) (fun ex hc A s ρ P hA S h => ?_) fun ex hc A s ρ P hA S h => ?_
    · simp only [wp0_lit, wp0_bo, wp0_var, wp0_bin, wp0_neg, wp0_not, wp0_cmp, wp0_cmp2, wp0_all, wp0_any, wp0_ite, wp0_call, wp0_bi, wp0_isI, wp0_isB, wp0_nil, wp0_cons, wp0_lst, wp0_tup, wp0_slc] at h
      obtain ⟨l, r, p, rfl, hm, hh⟩ := key ex hc A s ρ _ hA S h
      refine wpAny_Compare1 (wpAny_mono hh (fun v s₁ h₁ => wpAny_mono h₁ (fun u s₂ h₂ => wpAny_mono h₂ (fun c s₃ h₃ => ?_) fun _ _ x => x) fun _ _ x => x) fun _ _ x => x) hm
      obtain ⟨k, b, rfl, hb⟩ := h₃
      exact ⟨k, _, .bool _, hb⟩
    · simp only [wp0_lit, wp0_bo, wp0_var, wp0_bin, wp0_neg, wp0_not, wp0_cmp, wp0_cmp2, wp0_all, wp0_any, wp0_ite, wp0_call, wp0_bi, wp0_isI, wp0_isB, wp0_nil, wp0_cons, wp0_lst, wp0_tup, wp0_slc] at h
      obtain ⟨l, r, p, rfl, hm, hh⟩ := key ex hc A s ρ _ hA S h
      refine wpAny_isTrue_Compare1 (wpAny_mono hh (fun v s₁ h₁ => wpAny_mono h₁ (fun u s₂ h₂ => wpAny_mono h₂ (fun c s₃ h₃ => ?_) fun _ _ x => x) fun _ _ x => x) fun _ _ x => x) hm
      obtain ⟨k, b, rfl, c, hb, hp⟩ := h₃
      simp only [truth_c_undef, truth_c_none, truth_c_int, truth_c_bool, truth_c_str, truth_c_list, truth_c_tup, truth_c_obj, Option.some.injEq] at hb
      subst hb
      exact wpAny_truthy_bool ⟨k, hp⟩
  | cmp2 x o1 y o2 z ihx ihy ihz =>
    have key : ∀ ex, chkE us N sc (.cmp2 x o1 y o2 z) ex = true → ∀ (A : Around) (s : Shared) (ρ : List D) (P : Bool → Prop), AOk n A → St h₀ L N ρ s →
        (wp0 Γ x ρ fun x => wp0 Γ y ρ fun y => cmpW o1 x y fun t => if t = true then wp0 Γ z ρ fun z => cmpW o2 y z P else P false) →
        ∃ l r r2 p, ex = .Compare l [o1, o2] [r, r2] p ∧ behindInMarks o2 r2 = false ∧ wpAny (model prog w) A (eval l (eOf name sc L a cd cs)) (fun v s₁ => wpAny (model prog w) A (eval r (eOf name sc L a cd cs)) (fun u s₂ => wpAny (model prog w) A (compareOp o1 v u)
          (fun c s₃ => ∃ b, c = .bool b ∧ if b = true then wpAny (model prog w) A (eval r2 (eOf name sc L a cd cs)) (fun z s₄ => wpAny (model prog w) A (compareOp o2 u z) (fun c s₅ => Keeps s s₅ ∧ ∃ b, c = .bool b ∧ P b) Fls s₄) Fls s₃ else Keeps s s₃ ∧ P false) Fls s₂) Fls s₁) Fls s := by
      intro ex hc A s ρ P hA S h
      obtain ⟨l, r, r2, p, rfl, hm, h1, h2, h3⟩ := inv_cmp2 hc
      refine ⟨l, r, r2, p, rfl, hm, wpAny_mono (ihx.val l h1 A s ρ _ hA S h) (fun v s' h' => ?_) fun _ _ x => x⟩
      obtain ⟨k, d, rv, hp⟩ := h'
      refine wpAny_mono (ihy.val r h2 A s' ρ _ hA (S.keeps k) hp) (fun u s'' h'' => ?_) fun _ _ x => x
      obtain ⟨k2, d2, ru, hp2⟩ := h''
      refine wpAny_mono (cmp_ok (rv.keep (kSeq k2)) ru hp2) (fun c s₃ h₃ => ?_) fun _ _ x => x
      obtain ⟨rfl, b, rfl, hb⟩ := h₃
      refine ⟨b, rfl, ?_⟩
      cases b with
      | false => simp only [Bool.false_eq_true, if_false] at hb ⊢; exact ⟨kTrans k k2, hb⟩
      | true =>
        simp only [if_true] at hb ⊢
        refine wpAny_mono (ihz.val r2 h3 A s₃ ρ _ hA ((S.keeps k).keeps k2) hb) (fun z' s₄ h₄ => ?_) fun _ _ x => x
        obtain ⟨k4, d4, rz, hp4⟩ := h₄
        refine wpAny_mono (cmp_ok (ru.keep (kSeq k4)) rz hp4) (fun c s₅ h₅ => ?_) fun _ _ x => x
        obtain ⟨rfl, b, rfl, hb⟩ := h₅
        exact ⟨kTrans (kTrans k k2) k4, b, rfl, hb⟩
    refine .mk' (by simp) (by simp) (fun ex hc A s ρ P hA S h => ?_) fun ex hc A s ρ P hA S h => ?_
    · simp only [wp0_lit, wp0_bo, wp0_var, wp0_bin, wp0_neg, wp0_not, wp0_cmp, wp0_cmp2, wp0_all, wp0_any, wp0_ite, wp0_call, wp0_bi, wp0_isI, wp0_isB, wp0_nil, wp0_cons, wp0_lst, wp0_tup, wp0_slc] at h
      obtain ⟨l, r, r2, p, rfl, hm, hh⟩ := key ex hc A s ρ _ hA S h
      refine Compare_chain (rs := []) (wpAny_mono hh (fun v s₁ h₁ => chain_link (wpAny_mono h₁ (fun u s₂ h₂ => wpAny_mono h₂ (fun c s₃ h₃ => ?_) fun _ _ x => x) fun _ _ x => x)) fun _ _ x => x) (by simpa [lastMarks] using hm)
      obtain ⟨b, rfl, hb⟩ := h₃
      refine wpAny_truthy_bool ?_
      cases b with
      | false => simp only [Bool.false_eq_true, if_false] at hb ⊢; exact ⟨hb.1, _, .bool _, hb.2⟩
      | true =>
        simp only [if_true] at hb ⊢
        refine chain_last (wpAny_mono hb (fun z s₄ h₄ => wpAny_mono h₄ (fun c s₅ h₅ => ?_) fun _ _ x => x) fun _ _ x => x)
        obtain ⟨kk, b, rfl, hb⟩ := h₅
        exact ⟨kk, _, .bool _, hb⟩
    · simp only [wp0_lit, wp0_bo, wp0_var, wp0_bin, wp0_neg, wp0_not, wp0_cmp, wp0_cmp2, wp0_all, wp0_any, wp0_ite, wp0_call, wp0_bi, wp0_isI, wp0_isB, wp0_nil, wp0_cons, wp0_lst, wp0_tup, wp0_slc] at h
      obtain ⟨l, r, r2, p, rfl, hm, hh⟩ := key ex hc A s ρ _ hA S h
      refine isTrue_chain (rs := []) (wpAny_mono hh (fun v s₁ h₁ => test_link (wpAny_mono h₁ (fun u s₂ h₂ => wpAny_mono h₂ (fun c s₃ h₃ => ?_) fun _ _ x => x) fun _ _ x => x)) fun _ _ x => x) (by simpa [lastMarks] using hm)
      obtain ⟨b, rfl, hb⟩ := h₃
      refine wpAny_truthy_bool ?_
      cases b with
      | false =>
        simp only [Bool.false_eq_true, if_false] at hb ⊢
        obtain ⟨kk, c, hc, hp⟩ := hb
        simp only [truth_c_undef, truth_c_none, truth_c_int, truth_c_bool, truth_c_str, truth_c_list, truth_c_tup, truth_c_obj, Option.some.injEq] at hc
        subst hc
        exact ⟨kk, hp⟩
      | true =>
        simp only [if_true] at hb ⊢
        refine test_last (wpAny_mono hb (fun z s₄ h₄ => wpAny_mono h₄ (fun c s₅ h₅ => ?_) fun _ _ x => x) fun _ _ x => x)
        obtain ⟨kk, b, rfl, c, hc, hp⟩ := h₅
        simp only [truth_c_undef, truth_c_none, truth_c_int, truth_c_bool, truth_c_str, truth_c_list, truth_c_tup, truth_c_obj, Option.some.injEq] at hc
        subst hc
        exact wpAny_truthy_bool ⟨kk, hp⟩
  | all l ih =>
    refine .mk' (by simp) (by simp) (fun ex hc A s ρ P hA S h => ?_) fun ex hc A s ρ P hA S h => ?_
    · obtain ⟨es, p, rfl, h1⟩ := inv_all hc
      simp only [wp0_lit, wp0_bo, wp0_var, wp0_bin, wp0_neg, wp0_not, wp0_cmp, wp0_cmp2, wp0_all, wp0_any, wp0_ite, wp0_call, wp0_bi, wp0_isI, wp0_isB, wp0_nil, wp0_cons, wp0_lst, wp0_tup, wp0_slc] at h
      exact ih.andV es p h1 A s ρ P hA S h
    · obtain ⟨es, p, rfl, h1⟩ := inv_all hc
      simp only [wp0_lit, wp0_bo, wp0_var, wp0_bin, wp0_neg, wp0_not, wp0_cmp, wp0_cmp2, wp0_all, wp0_any, wp0_ite, wp0_call, wp0_bi, wp0_isI, wp0_isB, wp0_nil, wp0_cons, wp0_lst, wp0_tup, wp0_slc] at h
      exact ih.andT es p _ h1 A s ρ P hA S h
  | any l ih =>
    refine .mk' (by simp) (by simp) (fun ex hc A s ρ P hA S h => ?_) fun ex hc A s ρ P hA S h => ?_
    · obtain ⟨es, p, rfl, h1⟩ := inv_any hc
      simp only [wp0_lit, wp0_bo, wp0_var, wp0_bin, wp0_neg, wp0_not, wp0_cmp, wp0_cmp2, wp0_all, wp0_any, wp0_ite, wp0_call, wp0_bi, wp0_isI, wp0_isB, wp0_nil, wp0_cons, wp0_lst, wp0_tup, wp0_slc] at h
      exact ih.orV es p h1 A s ρ P hA S h
    · obtain ⟨es, p, rfl, h1⟩ := inv_any hc
      simp only [wp0_lit, wp0_bo, wp0_var, wp0_bin, wp0_neg, wp0_not, wp0_cmp, wp0_cmp2, wp0_all, wp0_any, wp0_ite, wp0_call, wp0_bi, wp0_isI, wp0_isB, wp0_nil, wp0_cons, wp0_lst, wp0_tup, wp0_slc] at h
      exact ih.orT es p _ h1 A s ρ P hA S h
  | ite c x y ihc ihx ihy =>
    refine .mk' (by simp) (by simp) (fun ex hc A s ρ P hA S h => ?_) fun ex hc A s ρ P hA S h => ?_
    · obtain ⟨t, u, v, p, rfl, h1, h2, h3⟩ := inv_ite hc
      simp only [wp0_lit, wp0_bo, wp0_var, wp0_bin, wp0_neg, wp0_not, wp0_cmp, wp0_cmp2, wp0_all, wp0_any, wp0_ite, wp0_call, wp0_bi, wp0_isI, wp0_isB, wp0_nil, wp0_cons, wp0_lst, wp0_tup, wp0_slc] at h
      refine IfExp_ (wpAny_mono (ihc.tst t h1 A s ρ (fun t => if t = true then wp0 Γ x ρ P else wp0 Γ y ρ P) hA S h) (fun c s' h' => ?_) fun _ _ x => x)
      obtain ⟨k, hp⟩ := h'
      cases c with
      | true => simp only [if_true] at hp ⊢; exact wpAny_mono (ihx.val u h2 A s' ρ _ hA (S.keeps k) hp) (fun _ _ x => ⟨kTrans k x.1, x.2⟩) fun _ _ x => x
      | false => simp only [Bool.false_eq_true, if_false] at hp ⊢; exact wpAny_mono (ihy.val v h3 A s' ρ _ hA (S.keeps k) hp) (fun _ _ x => ⟨kTrans k x.1, x.2⟩) fun _ _ x => x
    · obtain ⟨t, u, v, p, rfl, h1, h2, h3⟩ := inv_ite hc
      simp only [wp0_lit, wp0_bo, wp0_var, wp0_bin, wp0_neg, wp0_not, wp0_cmp, wp0_cmp2, wp0_all, wp0_any, wp0_ite, wp0_call, wp0_bi, wp0_isI, wp0_isB, wp0_nil, wp0_cons, wp0_lst, wp0_tup, wp0_slc] at h
      refine isTrue_IfExp (wpAny_mono (ihc.tst t h1 A s ρ (fun t => if t = true then wp0 Γ x ρ (fun d => ∃ b, truth d = some b ∧ P b) else wp0 Γ y ρ (fun d => ∃ b, truth d = some b ∧ P b)) hA S h) (fun c s' h' => ?_) fun _ _ x => x)
      obtain ⟨k, hp⟩ := h'
      cases c with
      | true => simp only [if_true] at hp ⊢; exact wpAny_mono (ihx.tst u h2 A s' ρ _ hA (S.keeps k) hp) (fun _ _ x => ⟨kTrans k x.1, x.2⟩) fun _ _ x => x
      | false => simp only [Bool.false_eq_true, if_false] at hp ⊢; exact wpAny_mono (ihy.tst v h3 A s' ρ _ hA (S.keeps k) hp) (fun _ _ x => ⟨kTrans k x.1, x.2⟩) fun _ _ x => x
  | call f l ih =>
    refine .mkP (by simp) (by simp) (fun ex hc t => by obtain ⟨_, _, _, _, rfl, _⟩ := inv_call hc; rfl) fun ex hc A s ρ P hA S h => ?_
    obtain ⟨q, e, es, p, rfl, hfn, hg, h1⟩ := inv_call hc
    simp only [wp0_lit, wp0_bo, wp0_var, wp0_bin, wp0_neg, wp0_not, wp0_cmp, wp0_cmp2, wp0_all, wp0_any, wp0_ite, wp0_call, wp0_bi, wp0_isI, wp0_isB, wp0_nil, wp0_cons, wp0_lst, wp0_tup, wp0_slc] at h
    have hgl := hg
    simp only [glb, Bool.and_eq_true, beq_iff_eq, bne_iff_ne, ne_eq] at hg
    have ne := cons_of h1
    obtain ⟨x, r, rfl⟩ := ne
    obtain ⟨e', es', e1, hs, _, _⟩ := inv_cons h1
    cases e1
    -- the def's name: its value is told by the call's own fact
    have key := ih.lst (e :: es) p h1 A s ρ _ hA S h
    obtain ⟨ad, o, fd, hm, ho, hd⟩ := C.W.fn f (by simpa using hfn)
    refine Call_ (gl_name C S hm hgl ?_)
    refine callWith_def hd (wpAny_mono key (fun vs s' h' => ?_) fun _ _ x => x) (starEach_cons hs)
    obtain ⟨k, ds, rs, r, hr, hp⟩ := h'
    have kb : Kp hB s'.heap := (fr_of C S).trans (kAll k)
    refine ⟨kb _ _ ho, ?_⟩
    obtain ⟨ad', o', fd', hm', ho', hd', go⟩ := C.G f ds r hfn hr
    rw [hm] at hm'; cases hm'
    exact wpAny_mono (go A s' vs hA kb rs) (fun v s'' h'' => ⟨kTrans k h''.1, _, h''.2, hp⟩) fun _ _ x => x
  | bi f l ih =>
    refine .mkP (by simp) (by simp) (fun ex hc t => by obtain ⟨_, _, _, _, _, rfl, _⟩ := inv_bi hc; rfl) fun ex hc A s ρ P hA S h => ?_
    obtain ⟨g, q, e, es, p, rfl, hf, hpl, hg, hgl, h1⟩ := inv_bi hc
    simp only [wp0_lit, wp0_bo, wp0_var, wp0_bin, wp0_neg, wp0_not, wp0_cmp, wp0_cmp2, wp0_all, wp0_any, wp0_ite, wp0_call, wp0_bi, wp0_isI, wp0_isB, wp0_nil, wp0_cons, wp0_lst, wp0_tup, wp0_slc] at h
    refine Call_ (bi_name C S hf hpl hg hgl ?_)
    have ne := cons_of h1
    obtain ⟨x, r, rfl⟩ := ne
    obtain ⟨e', es', e1, hs, _, _⟩ := inv_cons h1
    cases e1
    have key := ih.lst (e :: es) p h1 A s ρ _ hA S h
    refine callB hs (chkEs_stars h1) (val_cases f hpl) (wpAny_mono key (fun vs s' h' => ?_) fun _ _ x => x)
    obtain ⟨k, ds, rs, hp⟩ := h'
    exact wpAny_mono (bi_ok hA.1 rs hp) (fun _ _ x => ⟨kTrans k x.1, x.2⟩) fun _ _ x => x
  | isI x ih =>
    refine .mkP (by simp) (by simp) (fun ex hc t => by obtain ⟨_, _, _, _, _, _, rfl, _⟩ := inv_isI hc; rfl) fun ex hc A s ρ P hA S h => ?_
    obtain ⟨g, q, e, t, q2, p, rfl, hu1, hu2, hg, ht, hgl, htl, hs, h1⟩ := inv_isI hc
    simp only [wp0_lit, wp0_bo, wp0_var, wp0_bin, wp0_neg, wp0_not, wp0_cmp, wp0_cmp2, wp0_all, wp0_any, wp0_ite, wp0_call, wp0_bi, wp0_isI, wp0_isB, wp0_nil, wp0_cons, wp0_lst, wp0_tup, wp0_slc] at h
    refine Call_ (bi_name C S hu1 rfl hg hgl ?_)
    refine callB hs rfl (Or.inl ⟨_, rfl⟩) (args_cons (wpAny_mono (ih.val e h1 A s ρ _ hA S h) (fun v s' h' => ?_) fun _ _ x => x) (starEach_cons hs))
    obtain ⟨k, d, rv, hp⟩ := h'
    refine args_cons (bi_name C (S.keeps k) hu2 rfl ht htl (args_nil ?_))
    exact wpAny_mono (isinst_ok rv hp) (fun _ _ x => ⟨kTrans k x.1, x.2⟩) fun _ _ x => x
  | isB x ih =>
    refine .mkP (by simp) (by simp) (fun ex hc t => by obtain ⟨_, _, _, _, _, _, rfl, _⟩ := inv_isB hc; rfl) fun ex hc A s ρ P hA S h => ?_
    obtain ⟨g, q, e, t, q2, p, rfl, hu1, hu2, hg, ht, hgl, htl, hs, h1⟩ := inv_isB hc
    simp only [wp0_lit, wp0_bo, wp0_var, wp0_bin, wp0_neg, wp0_not, wp0_cmp, wp0_cmp2, wp0_all, wp0_any, wp0_ite, wp0_call, wp0_bi, wp0_isI, wp0_isB, wp0_nil, wp0_cons, wp0_lst, wp0_tup, wp0_slc] at h
    refine Call_ (bi_name C S hu1 rfl hg hgl ?_)
    refine callB hs rfl (Or.inl ⟨_, rfl⟩) (args_cons (wpAny_mono (ih.val e h1 A s ρ _ hA S h) (fun v s' h' => ?_) fun _ _ x => x) (starEach_cons hs))
    obtain ⟨k, d, rv, hp⟩ := h'
    refine args_cons (bi_name C (S.keeps k) hu2 rfl ht htl (args_nil ?_))
    exact wpAny_mono (isinstB_ok rv hp) (fun _ _ x => ⟨kTrans k x.1, x.2⟩) fun _ _ x => x
  | nil =>
    refine ⟨fun ex hc => by simp [chkE_lit, chkE_bo, chkE_var, chkE_bin, chkE_neg, chkE_not, chkE_cmp, chkE_cmp2, chkE_all, chkE_any, chkE_ite, chkE_call, chkE_bi, chkE_isI, chkE_isB, chkE_nil, chkE_cons, chkE_lst, chkE_tup, chkE_slc] at hc, fun ex hc => by simp [chkE_lit, chkE_bo, chkE_var, chkE_bin, chkE_neg, chkE_not, chkE_cmp, chkE_cmp2, chkE_all, chkE_any, chkE_ite, chkE_call, chkE_bi, chkE_isI, chkE_isB, chkE_nil, chkE_cons, chkE_lst, chkE_tup, chkE_slc] at hc, ?_, ?_, ?_, ?_, ?_⟩
    · intro es pos hc A s ρ P hA S h
      obtain rfl := inv_nil hc
      simp only [wpL0_nil, wpL0_cons] at h
      exact args_nil ⟨kRefl s, [], RVs.nil, h⟩
    · intro es pos hc A s ρ P hA S h; exact h.elim
    · intro es pos hc A s ρ P hA S h; exact h.elim
    · intro es pos whole hc A s ρ P hA S h; exact h.elim
    · intro es pos whole hc A s ρ P hA S h; exact h.elim
  | cons x r ihx ihr =>
    refine ⟨fun ex hc => by simp [chkE_lit, chkE_bo, chkE_var, chkE_bin, chkE_neg, chkE_not, chkE_cmp, chkE_cmp2, chkE_all, chkE_any, chkE_ite, chkE_call, chkE_bi, chkE_isI, chkE_isB, chkE_nil, chkE_cons, chkE_lst, chkE_tup, chkE_slc] at hc, fun ex hc => by simp [chkE_lit, chkE_bo, chkE_var, chkE_bin, chkE_neg, chkE_not, chkE_cmp, chkE_cmp2, chkE_all, chkE_any, chkE_ite, chkE_call, chkE_bi, chkE_isI, chkE_isB, chkE_nil, chkE_cons, chkE_lst, chkE_tup, chkE_slc] at hc, ?_, ?_, ?_, ?_, ?_⟩
    · intro es pos hc A s ρ P hA S h
      exact args_ok ihx ihr hc hA S h
    · intro es pos hc A s ρ P hA S h
      obtain ⟨e, es, rfl, hs, h1, h2⟩ := inv_cons hc
      by_cases hr : r = .nil
      · subst hr
        obtain rfl := inv_nil h2
        rw [wpAnd_one] at h
        exact BoolOp_one (ihx.val e h1 A s ρ P hA S h)
      · obtain ⟨e2, es2, rfl⟩ : ∃ e2 es2, es = e2 :: es2 := by
          cases es with
          | nil => exact absurd (nil_of h2) hr
          | cons e2 es2 => exact ⟨_, _, rfl⟩
        rw [wpAnd_more hr] at h
        refine BoolOp_and (wpAny_mono (ihx.val e h1 A s ρ _ hA S h) (fun v s' h' => ?_) fun _ _ x => x)
        obtain ⟨k, d, rv, b, hb, hp⟩ := h'
        refine wpAny_mono (truthy_ok rv hb) (fun c s₂ h₂ => ?_) fun _ _ x => x
        obtain ⟨k2, rfl⟩ := h₂
        cases c with
        | true => simp only [if_true] at hp ⊢; exact wpAny_mono (ihr.andV _ pos h2 A s₂ ρ P hA ((S.keeps k).keeps k2) hp) (fun _ _ x => ⟨kTrans k (kTrans k2 x.1), x.2⟩) fun _ _ x => x
        | false => simp only [Bool.false_eq_true, if_false] at hp ⊢; exact ⟨kTrans k k2, d, rv.keep (kSeq k2), hp⟩
    · intro es pos hc A s ρ P hA S h
      obtain ⟨e, es, rfl, hs, h1, h2⟩ := inv_cons hc
      by_cases hr : r = .nil
      · subst hr
        obtain rfl := inv_nil h2
        rw [wpOr_one] at h
        exact BoolOp_one (ihx.val e h1 A s ρ P hA S h)
      · obtain ⟨e2, es2, rfl⟩ : ∃ e2 es2, es = e2 :: es2 := by
          cases es with
          | nil => exact absurd (nil_of h2) hr
          | cons e2 es2 => exact ⟨_, _, rfl⟩
        rw [wpOr_more hr] at h
        refine BoolOp_or (wpAny_mono (ihx.val e h1 A s ρ _ hA S h) (fun v s' h' => ?_) fun _ _ x => x)
        obtain ⟨k, d, rv, b, hb, hp⟩ := h'
        refine wpAny_mono (truthy_ok rv hb) (fun c s₂ h₂ => ?_) fun _ _ x => x
        obtain ⟨k2, rfl⟩ := h₂
        cases c with
        | false => simp only [Bool.false_eq_true, if_false] at hp ⊢; exact wpAny_mono (ihr.orV _ pos h2 A s₂ ρ P hA ((S.keeps k).keeps k2) hp) (fun _ _ x => ⟨kTrans k (kTrans k2 x.1), x.2⟩) fun _ _ x => x
        | true => simp only [if_true] at hp ⊢; exact ⟨kTrans k k2, d, rv.keep (kSeq k2), hp⟩
    · intro es pos whole hc A s ρ P hA S h
      obtain ⟨e, es, rfl, hs, h1, h2⟩ := inv_cons hc
      by_cases hr : r = .nil
      · subst hr
        obtain rfl := inv_nil h2
        rw [wpAnd_one] at h
        refine isTrue_and (wpAny_mono (ihx.tst e h1 A s ρ P hA S h) (fun c s' h' => ?_) fun _ _ x => x)
        cases c with
        | true => simp only [if_true]; exact isTrue_and_nil h'
        | false => simp only [Bool.false_eq_true, if_false]; exact h'
      · rw [wpAnd_more hr] at h
        refine isTrue_and (wpAny_mono (ihx.tst e h1 A s ρ (fun b => if b = true then wpAnd0 Γ r ρ (fun d => ∃ b, truth d = some b ∧ P b) else P false) hA S ?_) (fun c s' h' => ?_) fun _ _ x => x)
        · refine wp_mono h fun d hd => ?_
          obtain ⟨b, hb, hp⟩ := hd
          refine ⟨b, hb, ?_⟩
          cases b with
          | true => simpa using hp
          | false =>
            simp only [Bool.false_eq_true, if_false] at hp ⊢
            obtain ⟨b', hb', hp'⟩ := hp
            rw [hb] at hb'; cases hb'; exact hp'
        · obtain ⟨k, hp⟩ := h'
          cases c with
          | true => simp only [if_true] at hp ⊢; exact wpAny_mono (ihr.andT _ pos whole h2 A s' ρ P hA (S.keeps k) hp) (fun _ _ x => ⟨kTrans k x.1, x.2⟩) fun _ _ x => x
          | false => simp only [Bool.false_eq_true, if_false] at hp ⊢; exact ⟨k, hp⟩
    · intro es pos whole hc A s ρ P hA S h
      obtain ⟨e, es, rfl, hs, h1, h2⟩ := inv_cons hc
      by_cases hr : r = .nil
      · subst hr
        obtain rfl := inv_nil h2
        rw [wpOr_one] at h
        refine isTrue_or (wpAny_mono (ihx.tst e h1 A s ρ P hA S h) (fun c s' h' => ?_) fun _ _ x => x)
        cases c with
        | false => simp only [Bool.false_eq_true, if_false]; exact isTrue_or_nil h'
        | true => simp only [if_true]; exact h'
      · rw [wpOr_more hr] at h
        refine isTrue_or (wpAny_mono (ihx.tst e h1 A s ρ (fun b => if b = true then P true else wpOr0 Γ r ρ (fun d => ∃ b, truth d = some b ∧ P b)) hA S ?_) (fun c s' h' => ?_) fun _ _ x => x)
        · refine wp_mono h fun d hd => ?_
          obtain ⟨b, hb, hp⟩ := hd
          refine ⟨b, hb, ?_⟩
          cases b with
          | false => simpa using hp
          | true =>
            simp only [if_true] at hp ⊢
            obtain ⟨b', hb', hp'⟩ := hp
            rw [hb] at hb'; cases hb'; exact hp'
        · obtain ⟨k, hp⟩ := h'
          cases c with
          | false => simp only [Bool.false_eq_true, if_false] at hp ⊢; exact wpAny_mono (ihr.orT _ pos whole h2 A s' ρ P hA (S.keeps k) hp) (fun _ _ x => ⟨kTrans k x.1, x.2⟩) fun _ _ x => x
          | true => simp only [if_true] at hp ⊢; exact ⟨k, hp⟩
  | lst l ih =>
    refine .mkP (by simp) (by simp) (fun ex hc t => by obtain ⟨_, _, rfl, _⟩ := inv_lst hc; rfl) fun ex hc A s ρ P hA S h => ?_
    obtain ⟨es, p, rfl, h1⟩ := inv_lst hc
    simp only [wp0_lit, wp0_bo, wp0_var, wp0_bin, wp0_neg, wp0_not, wp0_cmp, wp0_cmp2, wp0_all, wp0_any, wp0_ite, wp0_call, wp0_bi, wp0_isI, wp0_isB, wp0_nil, wp0_cons, wp0_lst, wp0_tup, wp0_slc] at h
    refine List_ (wpAny_mono (ih.lst es p h1 A s ρ _ hA S h) (fun vs s' h' => ?_) fun _ _ x => x)
    obtain ⟨k, ds, rs, hz, hp⟩ := h'
    refine wpAny_newObj_type ⟨kTrans k (push_keeps _), _, new_list rs rfl, hp⟩ ?_
    show vs.toArray.size ≤ sizeLine
    rw [List.size_toArray, rs.1]; exact size_le hz
  | tup l ih =>
    refine .mkP (by simp) (by simp) (fun ex hc t => by obtain ⟨_, _, _, rfl, _⟩ := inv_tup hc; rfl) fun ex hc A s ρ P hA S h => ?_
    obtain ⟨es, kk, p, rfl, h1⟩ := inv_tup hc
    simp only [wp0_lit, wp0_bo, wp0_var, wp0_bin, wp0_neg, wp0_not, wp0_cmp, wp0_cmp2, wp0_all, wp0_any, wp0_ite, wp0_call, wp0_bi, wp0_isI, wp0_isB, wp0_nil, wp0_cons, wp0_lst, wp0_tup, wp0_slc] at h
    refine Tuple_ (wpAny_mono (ih.lst es p h1 A s ρ _ hA S h) (fun vs s' h' => ?_) fun _ _ x => x)
    obtain ⟨k, ds, rs, hz, hp⟩ := h'
    refine wpAny_newObj_type ⟨kTrans k (push_keeps _), _, new_tup rs rfl, hp⟩ ?_
    show vs.toArray.size ≤ sizeLine
    rw [List.size_toArray, rs.1]; exact size_le hz
  | slc x lo hi ihx ihl ihh =>
    refine .mkP (by simp) (by simp) (fun ex hc t => by obtain ⟨_, _, _, _, _, rfl, _⟩ := inv_slc hc; rfl) fun ex hc A s ρ P hA S h => ?_
    obtain ⟨v, l, u, q, p, rfl, h1, h2, h3⟩ := inv_slc hc
    simp only [wp0_lit, wp0_bo, wp0_var, wp0_bin, wp0_neg, wp0_not, wp0_cmp, wp0_cmp2, wp0_all, wp0_any, wp0_ite, wp0_call, wp0_bi, wp0_isI, wp0_isB, wp0_nil, wp0_cons, wp0_lst, wp0_tup, wp0_slc] at h
    refine Subscript_ (wpAny_mono (ihx.val v h1 A s ρ _ hA S h) (fun o s' h' => ?_) fun _ _ x => x)
    obtain ⟨k, d, rv, hp⟩ := h'
    refine wpAny_Slice (wpAny_mono (part_ok ihl h2 hA (S.keeps k) hp) (fun vl s₂ h₂ => ?_) fun _ _ x => x)
    obtain ⟨k2, i, pi, hp2⟩ := h₂
    refine wpAny_mono (part_ok ihh h3 hA ((S.keeps k).keeps k2) hp2) (fun vu s₃ h₃ => ?_) fun _ _ x => x
    obtain ⟨k3, j, pj, hp3⟩ := h₃
    obtain ⟨ds, rfl, hp3⟩ := lP_inv hp3
    obtain ⟨ad, vs, rfl, hl, hv⟩ := rv.inv_list
    have kk : Keeps s' { s₃ with heap := s₃.heap.push { cls := .type "slice", data := .fields #[vl, vu, .none] } } := kTrans (kTrans k2 k3) (push_keeps _)
    refine wpAny_evalPart_none ?_
    have hl' : Heap.IsList (s₃.heap.push { cls := .type "slice", data := .fields #[vl, vu, .none] }) ad vs.toArray := by
      obtain ⟨o, ho, hc, n, hd⟩ := hl
      exact ⟨o, kAll kk _ _ ho, hc, n, hd⟩
    exact wpAny_mono (slc_ok (s := { s₃ with heap := s₃.heap.push { cls := .type "slice", data := .fields #[vl, vu, .none] } }) hl' (hv.keep (kSeq kk)) (Heap.IsSliceOf.new ..) pi pj hp3.1 hp3.2) (fun _ _ x => ⟨kTrans k (kTrans kk x.1), x.2⟩) fun _ _ x => x
end sound


/-- statements; each block is a row of them -/
inductive S where
  | nil
  | rais
  | opq (x : Str) (r : S)
  | ret (e : E)
  | set (i : Nat) (e : E) (r : S)
  | set2 (i j : Nat) (e : E) (r : S)
  | aug (i : Nat) (op : Operator) (e : E) (r : S)
  | ite (c : E) (t e r : S)
  | whl (c : E) (b r : S)
  | forR (i : Nat) (l : E) (b r : S)
  | forL (i : Nat) (e : E) (b r : S)

@[simp] noncomputable def onN (k : List D → Prop) (Q : Option D → List D → Prop) : Option D → List D → Prop
  | none, ρ => k ρ
  | some d, ρ => Q (some d) ρ
@[simp] noncomputable def l3 (k : D → D → D → Prop) : List D → Prop
  | [] => False
  | x :: r => l2 (k x) r
noncomputable def tP (P : List D → Prop) : D → Prop
  | .tup l => P l
  | _ => False
@[simp] theorem tP_c_undef {P : List D → Prop} : tP P (.undef) = (False) := rfl
@[simp] theorem tP_c_none {P : List D → Prop} : tP P (.none) = (False) := rfl
@[simp] theorem tP_c_int {P : List D → Prop} {z0 : Int} : tP P (.int z0) = (False) := rfl
@[simp] theorem tP_c_bool {P : List D → Prop} {z0 : Bool} : tP P (.bool z0) = (False) := rfl
@[simp] theorem tP_c_str {P : List D → Prop} {z0 : Str} : tP P (.str z0) = (False) := rfl
@[simp] theorem tP_c_list {P : List D → Prop} {z0 : List D} : tP P (.list z0) = (False) := rfl
@[simp] theorem tP_c_tup {P : List D → Prop} {l : List D} : tP P (.tup l) = (P l) := rfl
@[simp] theorem tP_c_obj {P : List D → Prop} {z0 : Addr} : tP P (.obj z0) = (False) := rfl
@[simp] noncomputable def t2P (P : D → D → Prop) (d : D) : Prop := tP (l2 P) d
@[simp] noncomputable def t3P (P : D → D → D → Prop) (d : D) : Prop := tP (l3 P) d
@[simp] noncomputable def rngP (P : Int → Int → Int → Prop) (ds : List D) : Prop :=
  if ds.length = 1 then l1 (intP fun z => P 0 z 1) ds else if ds.length = 2 then l2 (fun x y => ii x y fun a z => P a z 1) ds else l3 (fun x y u => ii x y fun a z => intP (fun c => P a z c) u) ds
noncomputable def augW (op : Operator) (x y : D) (P : D → Prop) : Prop :=
  match op with
  | .Add => ii x y fun a b => P (.int (a + b))
  | .Sub => ii x y fun a b => P (.int (a - b))
  | .Mult => ii x y fun a b => IntMulOk a b ∧ P (.int (a * b))
  | .FloorDiv => ii x y fun a b => b ≠ 0 ∧ b.natAbs.log2 < 9000 ∧ P (.int (a.fdiv b))
  | _ => False
@[simp] theorem augW_c_Add {x y : D} {P : D → Prop} : augW .Add x y P = (ii x y fun a b => P (.int (a + b))) := rfl
@[simp] theorem augW_c_Sub {x y : D} {P : D → Prop} : augW .Sub x y P = (ii x y fun a b => P (.int (a - b))) := rfl
@[simp] theorem augW_c_Mult {x y : D} {P : D → Prop} : augW .Mult x y P = (ii x y fun a b => IntMulOk a b ∧ P (.int (a * b))) := rfl
@[simp] theorem augW_c_FloorDiv {x y : D} {P : D → Prop} : augW .FloorDiv x y P = (ii x y fun a b => b ≠ 0 ∧ b.natAbs.log2 < 9000 ∧ P (.int (a.fdiv b))) := rfl
noncomputable def cnt (a z c : Int) : Nat := (Builtin.Range.rangeSize a z c).toNat

section
variable (Γ : Str → List D → D → Prop)
noncomputable def wpS0 : S → List D → (Option D → List D → Prop) → Prop
  | .nil, ρ, Q => Q none ρ
  | .rais, _, _ => False
  | .opq x r, ρ, Q => ∃ ρ', Γ x ρ (.list ρ') ∧ wpS0 r ρ' Q
  | .ret e, ρ, Q => wp0 Γ e ρ fun d => Q (some d) ρ
  | .set i e r, ρ, Q => wp0 Γ e ρ fun d => wpS0 r (ρ.set i d) Q
  | .set2 i j e r, ρ, Q => wp0 Γ e ρ (t2P fun x y => wpS0 r ((ρ.set i x).set j y) Q)
  | .aug i op e r, ρ, Q => get ρ i ≠ .undef ∧ wp0 Γ e ρ fun d => augW op (get ρ i) d fun x => wpS0 r (ρ.set i x) Q
  | .ite c t e r, ρ, Q => wp0 Γ c ρ fun d => ∃ b, truth d = some b ∧ if b = true then wpS0 t ρ (onN (fun ρ' => wpS0 r ρ' Q) Q) else wpS0 e ρ (onN (fun ρ' => wpS0 r ρ' Q) Q)
  | .whl c b r, ρ, Q => ∃ (I : Nat → List D → Prop) (n₀ : Nat), I n₀ ρ ∧ ∀ n ρ', I n ρ' →
      wp0 Γ c ρ' fun d => ∃ t, truth d = some t ∧ if t = true then wpS0 b ρ' (onN (fun ρ'' => ∃ m, m < n ∧ I m ρ'') Q) else wpS0 r ρ' Q
  | .forR i l b r, ρ, Q => wpL0 Γ l ρ (rngP fun a z c => c ≠ 0 ∧ c.natAbs < 2 ^ 30 ∧ Builtin.Range.small a z c = true ∧ ∃ I : Nat → List D → Prop, I 0 ρ ∧
      (∀ k ρ', k < cnt a z c → I k ρ' → wpS0 b (ρ'.set i (.int (a + k * c))) (onN (fun ρ'' => I (k + 1) ρ'') Q)) ∧ ∀ ρ', I (cnt a z c) ρ' → wpS0 r ρ' Q)
  | .forL i e b r, ρ, Q => wp0 Γ e ρ (lP fun ds => ∃ I : Nat → List D → Prop, I 0 ρ ∧
      (∀ (k : Nat) x ρ', ds[k]? = some x → I k ρ' → wpS0 b (ρ'.set i x) (onN (fun ρ'' => I (k + 1) ρ'') Q)) ∧ ∀ ρ', I ds.length ρ' → wpS0 r ρ' Q)
theorem wpS0_nil {ρ : List D} {Q : Option D → List D → Prop} : (wpS0 Γ (.nil) ρ Q) = (Q none ρ) := rfl
theorem wpS0_rais {z0 : List D} {z1 : Option D → List D → Prop} : (wpS0 Γ (.rais) z0 z1) = (False) := rfl
theorem wpS0_opq {x : Str} {r : S} {ρ : List D} {Q : Option D → List D → Prop} : (wpS0 Γ (.opq x r) ρ Q) = (∃ ρ', Γ x ρ (.list ρ') ∧ wpS0 Γ r ρ' Q) := rfl
theorem wpS0_ret {e : E} {ρ : List D} {Q : Option D → List D → Prop} : (wpS0 Γ (.ret e) ρ Q) = (wp0 Γ e ρ fun d => Q (some d) ρ) := rfl
theorem wpS0_set {i : Nat} {e : E} {r : S} {ρ : List D} {Q : Option D → List D → Prop} : (wpS0 Γ (.set i e r) ρ Q) = (wp0 Γ e ρ fun d => wpS0 Γ r (ρ.set i d) Q) := rfl
theorem wpS0_set2 {i : Nat} {j : Nat} {e : E} {r : S} {ρ : List D} {Q : Option D → List D → Prop} : (wpS0 Γ (.set2 i j e r) ρ Q) = (wp0 Γ e ρ (t2P fun x y => wpS0 Γ r ((ρ.set i x).set j y) Q)) := rfl
theorem wpS0_aug {i : Nat} {op : Operator} {e : E} {r : S} {ρ : List D} {Q : Option D → List D → Prop} : (wpS0 Γ (.aug i op e r) ρ Q) = (get ρ i ≠ .undef ∧ wp0 Γ e ρ fun d => augW op (get ρ i) d fun x => wpS0 Γ r (ρ.set i x) Q) := rfl
theorem wpS0_ite {c : E} {t : S} {e : S} {r : S} {ρ : List D} {Q : Option D → List D → Prop} : (wpS0 Γ (.ite c t e r) ρ Q) = (wp0 Γ c ρ fun d => ∃ b, truth d = some b ∧ if b = true then wpS0 Γ t ρ (onN (fun ρ' => wpS0 Γ r ρ' Q) Q) else wpS0 Γ e ρ (onN (fun ρ' => wpS0 Γ r ρ' Q) Q)) := rfl
theorem wpS0_whl {c : E} {b : S} {r : S} {ρ : List D} {Q : Option D → List D → Prop} : (wpS0 Γ (.whl c b r) ρ Q) = (∃ (I : Nat → List D → Prop) (n₀ : Nat), I n₀ ρ ∧ ∀ n ρ', I n ρ' →
        wp0 Γ c ρ' fun d => ∃ t, truth d = some t ∧ if t = true then wpS0 Γ b ρ' (onN (fun ρ'' => ∃ m, m < n ∧ I m ρ'') Q) else wpS0 Γ r ρ' Q) := rfl
theorem wpS0_forR {i : Nat} {l : E} {b : S} {r : S} {ρ : List D} {Q : Option D → List D → Prop} : (wpS0 Γ (.forR i l b r) ρ Q) = (wpL0 Γ l ρ (rngP fun a z c => c ≠ 0 ∧ c.natAbs < 2 ^ 30 ∧ Builtin.Range.small a z c = true ∧ ∃ I : Nat → List D → Prop, I 0 ρ ∧
        (∀ k ρ', k < cnt a z c → I k ρ' → wpS0 Γ b (ρ'.set i (.int (a + k * c))) (onN (fun ρ'' => I (k + 1) ρ'') Q)) ∧ ∀ ρ', I (cnt a z c) ρ' → wpS0 Γ r ρ' Q)) := rfl
theorem wpS0_forL {i : Nat} {e : E} {b : S} {r : S} {ρ : List D} {Q : Option D → List D → Prop} : (wpS0 Γ (.forL i e b r) ρ Q) = (wp0 Γ e ρ (lP fun ds => ∃ I : Nat → List D → Prop, I 0 ρ ∧
        (∀ (k : Nat) x ρ', ds[k]? = some x → I k ρ' → wpS0 Γ b (ρ'.set i x) (onN (fun ρ'' => I (k + 1) ρ'') Q)) ∧ ∀ ρ', I ds.length ρ' → wpS0 Γ r ρ' Q)) := rfl
end

noncomputable def isStar : Expr → Bool
  | .Starred .. => true
  | _ => false
noncomputable def swNames (sc : Scope) (ts : List Expr) : List Str :=
  ts.filterMap fun
    | .Name id pos => if sc.names.lookup id == some .local && pos.line == (ts.head?.map (·.pos.line)).getD 0 then some id else none
    | _ => none
noncomputable def sw (sc : Scope) (ts : List Expr) : Expr → Option Bool
  | .Tuple vs _ _ =>
    if !(ts.length == 2 || ts.length == 3) || vs.length != ts.length then some false
    else if vs.any isStar then some false
    else if (swNames sc ts).length != ts.length || (swNames sc ts).eraseDups.length != (swNames sc ts).length then some false
    else if vs.all (foldedForSure 8) then some false
    else if vs.all (constantsAlone 8) then none
    else some true
  | _ => some false

theorem isStar_eq : (fun e : Expr => match e with | .Starred .. => true | _ => false) = isStar := by
  funext e; cases e <;> rfl
theorem sw_pure {sc : Scope} {ts : List Expr} {v : Expr} {name : Str} {L : Addr} {a : Option Addr × Option Addr} {cd : Value} {cs : List (Str × Addr)} {k : Nat} {p : Pos} {b : Bool} (hk : sc.kind = .function) (h : sw sc ts v = some b) :
    swappedStores [.Tuple ts k p] v (eOf name sc L a cd cs) = pure (if b = true then some (swNames sc ts) else none) := by
  have hbk : ((eOf name sc L a cd cs).blockKind != .function) = false := by
    unfold Env.blockKind
    show ((if sc.kind.isAnnotationScope = true then ScopeKind.function else sc.kind) != .function) = false
    rw [hk]; rfl
  cases v <;> first
    | (simp only [sw, Option.some.injEq] at h; subst h; rfl)
    | skip
  rename_i vs k2 p2
  have e : swappedStores [.Tuple ts k p] (.Tuple vs k2 p2) (eOf name sc L a cd cs) =
      (if (!(ts.length == 2 || ts.length == 3) || vs.length != ts.length || (eOf name sc L a cd cs).blockKind != .function) = true then pure none else
        if (vs.any fun e => match e with | .Starred .. => true | _ => false) = true then pure none else
        if ((swNames sc ts).length != ts.length || (swNames sc ts).eraseDups.length != (swNames sc ts).length) = true then pure none else
        if vs.all (foldedForSure 8) = true then pure none else
        if vs.all (constantsAlone 8) = true then (do unsupported "assign.tuple-of-constant-expressions:order-of-the-stores"; pure (some (swNames sc ts))) else pure (some (swNames sc ts))) := by
    rfl
  rw [e, hbk, Bool.or_false, isStar_eq]
  simp only [sw] at h
  split at h
  · rename_i c; rw [if_pos c]; cases h; rfl
  rename_i c; rw [if_neg c]
  split at h
  · rename_i c; rw [if_pos c]; cases h; rfl
  rename_i c; rw [if_neg c]
  split at h
  · rename_i c; rw [if_pos c]; cases h; rfl
  rename_i c; rw [if_neg c]
  split at h
  · rename_i c; rw [if_pos c]; cases h; rfl
  rename_i c; rw [if_neg c]
  split at h
  · cases h
  · rename_i c; rw [if_neg c]; cases h; rfl

section
variable (us : Us) (N : List Str) (sc : Scope)
noncomputable def noComp : Expr → Bool
  | .ListComp .. | .SetComp .. | .DictComp .. => false
  | _ => true
noncomputable def notSet : Expr → Bool
  | .Set .. => false
  | _ => true
/-! what a statement is made of -/
noncomputable def dsAsg : Stmt → Option (List Expr × Expr)
  | .Assign ts v _ => some (ts, v)
  | _ => none
noncomputable def dsAug : Stmt → Option (Expr × Operator × Expr)
  | .AugAssign t o v _ => some (t, o, v)
  | _ => none
noncomputable def dsIfS : Stmt → Option (Expr × List Stmt × List Stmt)
  | .If t b o _ => some (t, b, o)
  | _ => none
noncomputable def dsWh : Stmt → Option (Expr × List Stmt × List Stmt)
  | .While t b o _ => some (t, b, o)
  | _ => none
noncomputable def dsFor : Stmt → Option (Expr × Expr × List Stmt × List Stmt)
  | .For t i b o _ => some (t, i, b, o)
  | _ => none
noncomputable def dsRet : Stmt → Option (Option Expr)
  | .Return e _ => some e
  | _ => none
noncomputable def isRaise : Stmt → Bool
  | .Raise .. => true
  | _ => false
noncomputable def dsAsg1 (st : Stmt) : Option (Expr × Expr) := (dsAsg st).bind fun t => if t.1.length == 1 then t.1.head?.map fun x => (x, t.2) else none
noncomputable def chkS : S → List Stmt → Bool
  | .nil, l => l.isEmpty
  | .rais, l => l.head?.any isRaise
  | .opq x r, l => l.head?.any (fun st => us.s x st) && chkS r l.tail
  | .ret e, l => l.head?.any fun st => (dsRet st).any fun o => o.any fun x => chkE us N sc e x
  | .set i e r, l => l.head?.any fun st => (dsAsg1 st).any fun t => (dsN t.1).any (fun x => N[i]? == some x) && noComp t.2 && chkE us N sc e t.2 && chkS r l.tail
  | .set2 i j e r, l => l.head?.any fun st => (dsAsg1 st).any fun t => (dsTup t.1).any fun es => es.length == 2 && es.head?.any fun a => es.tail.head?.any fun b => (dsN a).any fun x => (dsN b).any fun y =>
    i != j && N[i]? == some x && N[j]? == some y && noComp t.2 && (sw sc es t.2).isSome && swNames sc es == [x, y] && chkE us N sc e t.2 && chkS r l.tail
  | .aug i op e r, l => l.head?.any fun st => (dsAug st).any fun t => (dsN t.1).any (fun x => N[i]? == some x) && op == t.2.1 && chkE us N sc e t.2.2 && chkS r l.tail
  | .ite c t e r, l => l.head?.any fun st => (dsIfS st).any fun u => chkE us N sc c u.1 && chkS t u.2.1 && chkS e u.2.2 && chkS r l.tail
  | .whl c b r, l => l.head?.any fun st => (dsWh st).any fun u => chkE us N sc c u.1 && chkS b u.2.1 && u.2.2.isEmpty && chkS r l.tail
  | .forR i l b r, ls => ls.head?.any fun st => (dsFor st).any fun u => (dsN u.1).any (fun x => N[i]? == some x) && us.l.contains .range && u.2.2.2.isEmpty && (dsCallN sc u.2.1).any (fun t => B.range.name == t.1 && chkEs us N sc l t.2) && chkS b u.2.2.1 && chkS r ls.tail
  | .forL i e b r, ls => ls.head?.any fun st => (dsFor st).any fun u => (dsN u.1).any (fun x => N[i]? == some x) && notSet u.2.1 && u.2.2.2.isEmpty && chkE us N sc e u.2.1 && chkS b u.2.2.1 && chkS r ls.tail
theorem chkS_nil {l : List Stmt} : (chkS us N sc (.nil) l) = (l.isEmpty) := rfl
theorem chkS_rais {l : List Stmt} : (chkS us N sc (.rais) l) = (l.head?.any isRaise) := rfl
theorem chkS_opq {x : Str} {r : S} {l : List Stmt} : (chkS us N sc (.opq x r) l) = (l.head?.any (fun st => us.s x st) && chkS us N sc r l.tail) := rfl
theorem chkS_ret {e : E} {l : List Stmt} : (chkS us N sc (.ret e) l) = (l.head?.any fun st => (dsRet st).any fun o => o.any fun x => chkE us N sc e x) := rfl
theorem chkS_set {i : Nat} {e : E} {r : S} {l : List Stmt} : (chkS us N sc (.set i e r) l) = (l.head?.any fun st => (dsAsg1 st).any fun t => (dsN t.1).any (fun x => N[i]? == some x) && noComp t.2 && chkE us N sc e t.2 && chkS us N sc r l.tail) := rfl
theorem chkS_set2 {i : Nat} {j : Nat} {e : E} {r : S} {l : List Stmt} : (chkS us N sc (.set2 i j e r) l) = (l.head?.any fun st => (dsAsg1 st).any fun t => (dsTup t.1).any fun es => es.length == 2 && es.head?.any fun a => es.tail.head?.any fun b => (dsN a).any fun x => (dsN b).any fun y =>
      i != j && N[i]? == some x && N[j]? == some y && noComp t.2 && (sw sc es t.2).isSome && swNames sc es == [x, y] && chkE us N sc e t.2 && chkS us N sc r l.tail) := rfl
theorem chkS_aug {i : Nat} {op : Operator} {e : E} {r : S} {l : List Stmt} : (chkS us N sc (.aug i op e r) l) = (l.head?.any fun st => (dsAug st).any fun t => (dsN t.1).any (fun x => N[i]? == some x) && op == t.2.1 && chkE us N sc e t.2.2 && chkS us N sc r l.tail) := rfl
theorem chkS_ite {c : E} {t : S} {e : S} {r : S} {l : List Stmt} : (chkS us N sc (.ite c t e r) l) = (l.head?.any fun st => (dsIfS st).any fun u => chkE us N sc c u.1 && chkS us N sc t u.2.1 && chkS us N sc e u.2.2 && chkS us N sc r l.tail) := rfl
theorem chkS_whl {c : E} {b : S} {r : S} {l : List Stmt} : (chkS us N sc (.whl c b r) l) = (l.head?.any fun st => (dsWh st).any fun u => chkE us N sc c u.1 && chkS us N sc b u.2.1 && u.2.2.isEmpty && chkS us N sc r l.tail) := rfl
theorem chkS_forR {i : Nat} {l : E} {b : S} {r : S} {ls : List Stmt} : (chkS us N sc (.forR i l b r) ls) = (ls.head?.any fun st => (dsFor st).any fun u => (dsN u.1).any (fun x => N[i]? == some x) && us.l.contains .range && u.2.2.2.isEmpty && (dsCallN sc u.2.1).any (fun t => B.range.name == t.1 && chkEs us N sc l t.2) && chkS us N sc b u.2.2.1 && chkS us N sc r ls.tail) := rfl
theorem chkS_forL {i : Nat} {e : E} {b : S} {r : S} {ls : List Stmt} : (chkS us N sc (.forL i e b r) ls) = (ls.head?.any fun st => (dsFor st).any fun u => (dsN u.1).any (fun x => N[i]? == some x) && notSet u.2.1 && u.2.2.2.isEmpty && chkE us N sc e u.2.1 && chkS us N sc b u.2.2.1 && chkS us N sc r ls.tail) := rfl
end

section inv
variable {us : Us} {N : List Str} {sc : Scope} {st : Stmt}
theorem iAsg {t : List Expr × Expr} (h : dsAsg st = some t) : ∃ p, st = .Assign t.1 t.2 p := by cases st <;> first | (cases h; exact ⟨_, rfl⟩) | cases h
theorem iAug {t : Expr × Operator × Expr} (h : dsAug st = some t) : ∃ p, st = .AugAssign t.1 t.2.1 t.2.2 p := by cases st <;> first | (cases h; exact ⟨_, rfl⟩) | cases h
theorem iIfS {t : Expr × List Stmt × List Stmt} (h : dsIfS st = some t) : ∃ p, st = .If t.1 t.2.1 t.2.2 p := by cases st <;> first | (cases h; exact ⟨_, rfl⟩) | cases h
theorem iWh {t : Expr × List Stmt × List Stmt} (h : dsWh st = some t) : ∃ p, st = .While t.1 t.2.1 t.2.2 p := by cases st <;> first | (cases h; exact ⟨_, rfl⟩) | cases h
theorem iFor {t : Expr × Expr × List Stmt × List Stmt} (h : dsFor st = some t) : ∃ p, st = .For t.1 t.2.1 t.2.2.1 t.2.2.2 p := by cases st <;> first | (cases h; exact ⟨_, rfl⟩) | cases h
theorem iRet {t : Option Expr} (h : dsRet st = some t) : ∃ p, st = .Return t p := by cases st <;> first | (cases h; exact ⟨_, rfl⟩) | cases h
theorem iAsg1 {t : Expr × Expr} (h : dsAsg1 st = some t) : ∃ p, st = .Assign [t.1] t.2 p := by
  unfold dsAsg1 at h
  obtain ⟨u, hu, h1⟩ := Option.bind_eq_some_iff.mp h
  obtain ⟨p, rfl⟩ := iAsg hu
  split at h1
  · rename_i hl
    obtain ⟨x, hx, rfl⟩ := Option.map_eq_some_iff.mp h1
    rw [one_of hx (by simpa using hl)]
    exact ⟨p, rfl⟩
  · cases h1
theorem inv_Nil {l : List Stmt} (h : chkS us N sc .nil l = true) : l = [] := by simpa [chkS_nil, chkS_rais, chkS_opq, chkS_ret, chkS_set, chkS_set2, chkS_aug, chkS_ite, chkS_whl, chkS_forR, chkS_forL] using h
theorem inv_ret {e : E} {l : List Stmt} (h : chkS us N sc (.ret e) l = true) : ∃ x p rest, l = .Return (some x) p :: rest ∧ chkE us N sc e x = true := by
  simp only [chkS_nil, chkS_rais, chkS_opq, chkS_ret, chkS_set, chkS_set2, chkS_aug, chkS_ite, chkS_whl, chkS_forR, chkS_forL, Option.any_eq_true] at h
  obtain ⟨st, hs, o, ho, x, rfl, h⟩ := h
  obtain ⟨p, rfl⟩ := iRet ho
  exact ⟨x, p, l.tail, head_cons hs, h⟩
theorem inv_set {i : Nat} {e : E} {r : S} {l : List Stmt} (h : chkS us N sc (.set i e r) l = true) : ∃ x q v p rest, l = .Assign [.Name x q] v p :: rest ∧ N[i]? = some x ∧ noComp v = true ∧ chkE us N sc e v = true ∧ chkS us N sc r rest = true := by
  simp only [chkS_nil, chkS_rais, chkS_opq, chkS_ret, chkS_set, chkS_set2, chkS_aug, chkS_ite, chkS_whl, chkS_forR, chkS_forL, Option.any_eq_true, Bool.and_eq_true, beq_iff_eq] at h
  obtain ⟨st, hs, t, ht, ⟨⟨⟨x, hx, h1⟩, h2⟩, h3⟩, h4⟩ := h
  obtain ⟨p, rfl⟩ := iAsg1 ht
  obtain ⟨a, v⟩ := t
  obtain ⟨q, rfl⟩ := iN hx
  exact ⟨x, q, v, p, l.tail, head_cons hs, h1, h2, h3, h4⟩
theorem inv_set2 {i j : Nat} {e : E} {r : S} {l : List Stmt} (h : chkS us N sc (.set2 i j e r) l = true) : ∃ x p y q k tp v pos rest, l = .Assign [.Tuple [.Name x p, .Name y q] k tp] v pos :: rest ∧ i ≠ j ∧ N[i]? = some x ∧ N[j]? = some y ∧ noComp v = true ∧
    (sw sc [.Name x p, .Name y q] v).isSome = true ∧ swNames sc [.Name x p, .Name y q] = [x, y] ∧ chkE us N sc e v = true ∧ chkS us N sc r rest = true := by
  simp only [chkS_nil, chkS_rais, chkS_opq, chkS_ret, chkS_set, chkS_set2, chkS_aug, chkS_ite, chkS_whl, chkS_forR, chkS_forL, Option.any_eq_true, Bool.and_eq_true, beq_iff_eq, bne_iff_ne, ne_eq] at h
  obtain ⟨st, hs, ⟨tg, v⟩, ht, es, hes, hl, a, ha, b, hb, x, hx, y, hy, ⟨⟨⟨⟨⟨⟨h0, h1⟩, h2⟩, h3⟩, h4⟩, h5⟩, h6⟩, h7⟩ := h
  obtain ⟨pos, rfl⟩ := iAsg1 ht
  obtain ⟨k, tp, rfl⟩ := iTup hes
  have e1 := two_of ha hb hl
  subst e1
  obtain ⟨p, rfl⟩ := iN hx
  obtain ⟨q, rfl⟩ := iN hy
  exact ⟨x, p, y, q, k, tp, v, pos, l.tail, head_cons hs, h0, h1, h2, h3, h4, h5, h6, h7⟩
theorem inv_aug {i : Nat} {op : Operator} {e : E} {r : S} {l : List Stmt} (h : chkS us N sc (.aug i op e r) l = true) : ∃ x q v p rest, l = .AugAssign (.Name x q) op v p :: rest ∧ N[i]? = some x ∧ chkE us N sc e v = true ∧ chkS us N sc r rest = true := by
  simp only [chkS_nil, chkS_rais, chkS_opq, chkS_ret, chkS_set, chkS_set2, chkS_aug, chkS_ite, chkS_whl, chkS_forR, chkS_forL, Option.any_eq_true, Bool.and_eq_true, beq_iff_eq] at h
  obtain ⟨st, hs, ⟨a, o, v⟩, ht, ⟨⟨⟨x, hx, h1⟩, h2⟩, h3⟩, h4⟩ := h
  obtain ⟨p, rfl⟩ := iAug ht
  dsimp only at hx h2 h3
  subst h2
  obtain ⟨q, rfl⟩ := iN hx
  exact ⟨x, q, v, p, l.tail, head_cons hs, h1, h3, h4⟩
theorem inv_iteS {c : E} {t e r : S} {l : List Stmt} (h : chkS us N sc (.ite c t e r) l = true) : ∃ x b o p rest, l = .If x b o p :: rest ∧ chkE us N sc c x = true ∧ chkS us N sc t b = true ∧ chkS us N sc e o = true ∧ chkS us N sc r rest = true := by
  simp only [chkS_nil, chkS_rais, chkS_opq, chkS_ret, chkS_set, chkS_set2, chkS_aug, chkS_ite, chkS_whl, chkS_forR, chkS_forL, Option.any_eq_true, Bool.and_eq_true] at h
  obtain ⟨st, hs, u, hu, ⟨⟨h1, h2⟩, h3⟩, h4⟩ := h
  obtain ⟨p, rfl⟩ := iIfS hu
  exact ⟨_, _, _, p, l.tail, head_cons hs, h1, h2, h3, h4⟩
theorem inv_whl {c : E} {b r : S} {l : List Stmt} (h : chkS us N sc (.whl c b r) l = true) : ∃ x body p rest, l = .While x body [] p :: rest ∧ chkE us N sc c x = true ∧ chkS us N sc b body = true ∧ chkS us N sc r rest = true := by
  simp only [chkS_nil, chkS_rais, chkS_opq, chkS_ret, chkS_set, chkS_set2, chkS_aug, chkS_ite, chkS_whl, chkS_forR, chkS_forL, Option.any_eq_true, Bool.and_eq_true, List.isEmpty_iff] at h
  obtain ⟨st, hs, ⟨x, b, o⟩, hu, ⟨⟨h1, h2⟩, h3⟩, h4⟩ := h
  obtain ⟨p, rfl⟩ := iWh hu
  dsimp only at h3; subst h3
  exact ⟨_, _, p, l.tail, head_cons hs, h1, h2, h4⟩
theorem inv_forR {i : Nat} {l : E} {b r : S} {ls : List Stmt} (h : chkS us N sc (.forR i l b r) ls = true) : ∃ x q g gq e es cp body p rest, ls = .For (.Name x q) (.Call (.Name g gq) (e :: es) [] cp) body [] p :: rest ∧ N[i]? = some x ∧ us.l.contains .range = true ∧ (B.range.name == g) = true ∧ glb sc g = true ∧
    chkEs us N sc l (e :: es) = true ∧ chkS us N sc b body = true ∧ chkS us N sc r rest = true := by
  simp only [chkS_nil, chkS_rais, chkS_opq, chkS_ret, chkS_set, chkS_set2, chkS_aug, chkS_ite, chkS_whl, chkS_forR, chkS_forL, Option.any_eq_true, Bool.and_eq_true, List.isEmpty_iff] at h
  obtain ⟨st, hs, ⟨tg, it, body, o⟩, hu, ⟨⟨⟨⟨⟨x, hx, h1⟩, h2⟩, h3⟩, t, ht, h4, h5⟩, h6⟩, h7⟩ := h
  obtain ⟨p, rfl⟩ := iFor hu
  dsimp only at hx h3 ht h6; subst h3
  obtain ⟨q, rfl⟩ := iN hx
  obtain ⟨gq, e, es, cp, rfl, h8, h9⟩ := iCallN ht
  exact ⟨x, q, _, gq, e, es, cp, body, p, ls.tail, head_cons hs, by simpa using h1, h2, h4, h9, h8 ▸ h5, h6, h7⟩
theorem inv_forL {i : Nat} {e : E} {b r : S} {ls : List Stmt} (h : chkS us N sc (.forL i e b r) ls = true) : ∃ x q it body p rest, ls = .For (.Name x q) it body [] p :: rest ∧ N[i]? = some x ∧ notSet it = true ∧
    chkE us N sc e it = true ∧ chkS us N sc b body = true ∧ chkS us N sc r rest = true := by
  simp only [chkS_nil, chkS_rais, chkS_opq, chkS_ret, chkS_set, chkS_set2, chkS_aug, chkS_ite, chkS_whl, chkS_forR, chkS_forL, Option.any_eq_true, Bool.and_eq_true, List.isEmpty_iff] at h
  obtain ⟨st, hs, ⟨tg, it, body, o⟩, hu, ⟨⟨⟨⟨⟨x, hx, h1⟩, h2⟩, h3⟩, h5⟩, h6⟩, h7⟩ := h
  obtain ⟨p, rfl⟩ := iFor hu
  dsimp only at hx h3 h2 h5 h6; subst h3
  obtain ⟨q, rfl⟩ := iN hx
  exact ⟨x, q, it, body, p, ls.tail, head_cons hs, by simpa using h1, h2, h5, h6, h7⟩
theorem tP_inv {P : List D → Prop} {d : D} (h : tP P d) : ∃ i, d = .tup i ∧ P i := by cases d <;> first | exact ⟨_, rfl, h⟩ | exact h.elim
theorem l3_inv {k : D → D → D → Prop} {ds : List D} (h : l3 k ds) : ∃ x y z, ds = [x, y, z] ∧ k x y z := by
  cases ds with
  | nil => exact h.elim
  | cons x r => obtain ⟨y, z, rfl, h⟩ := l2_inv h; exact ⟨x, y, z, rfl, h⟩
theorem rngP_inv {P : Int → Int → Int → Prop} {ds : List D} (h : rngP P ds) : (∃ z, ds = [.int z] ∧ P 0 z 1) ∨ (∃ a z, ds = [.int a, .int z] ∧ P a z 1) ∨ (∃ a z c, ds = [.int a, .int z, .int c] ∧ P a z c) := by
  unfold rngP at h
  split at h
  · obtain ⟨x, rfl, h⟩ := l1_inv h
    obtain ⟨z, rfl, h⟩ := intP_inv h
    exact .inl ⟨z, rfl, h⟩
  · split at h
    · obtain ⟨x, y, rfl, h⟩ := l2_inv h
      obtain ⟨a, z, rfl, rfl, h⟩ := ii_inv h
      exact .inr (.inl ⟨a, z, rfl, h⟩)
    · obtain ⟨x, y, u, rfl, h⟩ := l3_inv h
      obtain ⟨a, z, rfl, rfl, h⟩ := ii_inv h
      obtain ⟨c, rfl, h⟩ := intP_inv h
      exact .inr (.inr ⟨a, z, c, rfl, h⟩)
end inv


section sound
variable {prog : Program} {w : World} {hB h₀ : Heap} {mg mb : Str → Option Value} {us : Us} {N : List Str} {sc : Scope} {Γ : Str → List D → D → Prop} {n : Nat} {name : Str} {L : Addr} {a : Option Addr × Option Addr} {cd : Value} {cs : List (Str × Addr)}

noncomputable def FlowIs (h : Heap) : Flow → Option D → Prop
  | .next, none => True
  | .ret v, some d => RV h v d
  | _, _ => False
/-- how a block ends -/
noncomputable def PostS (h₀ : Heap) (L : Addr) (N : List Str) (s : Shared) (Q : Option D → List D → Prop) (f : Flow) (s' : Shared) : Prop :=
  Tr L s s' ∧ ∃ o ρ', St h₀ L N ρ' s' ∧ FlowIs s'.heap f o ∧ Q o ρ'
theorem PostS.tr {s s₁ s' : Shared} {Q : Option D → List D → Prop} {f : Flow} (t : Tr L s s₁) (p : PostS h₀ L N s₁ Q f s') : PostS h₀ L N s Q f s' := ⟨t.trans p.1, p.2⟩

theorem aug_ok {A : Around} {s : Shared} {op : Operator} {v u : Value} {x y : D} {P : D → Prop} (r1 : RV s.heap v x) (r2 : RV s.heap u y) (h : augW op x y P) :
    wpAny (model prog w) A (inplaceOp op v u) (fun v s' => Keeps s s' ∧ ∃ d, RV s'.heap v d ∧ P d) Fls s := by
  cases op with
  | Add => exact ii_ok (t := inplaceOp .Add) r1 r2 h fun _ _ _ _ h => PySem.P.iadd_int (tok_ok h)
  | Sub => exact ii_ok (t := inplaceOp .Sub) r1 r2 h fun _ _ _ _ h => PySem.P.isub_int (tok_ok h)
  | Mult => exact ii_ok (t := inplaceOp .Mult) r1 r2 h fun _ _ _ _ h => PySem.P.imul_int (tok_ok h.2) h.1
  | FloorDiv => exact ii_ok (t := inplaceOp .FloorDiv) r1 r2 h fun _ _ _ _ h => ifloordiv_int h.1 (tok_ok h.2.2) (Or.inl (PyProof.noPylong_of_log2 h.2.1))
  | _ => exact h.elim

/-- a name's store -/
theorem sto_ok (C : Cx prog w hB h₀ mg mb us N sc Γ n name L a cd cs) {A : Around} {s : Shared} {ρ : List D} {i : Nat} {x : Str} {v : Value} {d : D} {Q : Unit → Shared → Prop} (S : St h₀ L N ρ s) (hx : N[i]? = some x) (r : RV s.heap v d)
    (h : ∀ s', St h₀ L N (ρ.set i d) s' → Tr L s s' → Q () s') : wpAny (model prog w) A (storeName (eOf name sc L a cd cs) x v) Q Fls s :=
  S.store hx C.nd r h C.hk (C.loc x (List.mem_of_getElem? hx)).1

theorem st_frL {ρ : List D} {s : Shared} (S : St h₀ L N ρ s) : ∃ o, s.heap.get? L = some o ∧ ∀ items k, o.data ≠ .seq items k := by
  obtain ⟨m, F, _⟩ := S
  obtain ⟨oL, es, ep, hL, r⟩ := id F.ns
  exact ⟨oL, hL, ns_notSeq F.ns hL⟩
theorem st_seq {ρ : List D} {s s' : Shared} (S : St h₀ L N ρ s) (t : Tr L s s') : SeqK s.heap s'.heap := by
  obtain ⟨m, F, _⟩ := S
  exact seqK_of_but F.ns t.all

theorem extBut_keeps {s : Shared} {h' : Heap} (e : Heap.ExtBut s.heap.objs.size s.heap h') : Keeps s { s with heap := h' } :=
  ⟨h', s.toks, rfl, fun b o eb => e b o (Nat.ne_of_lt (Heap.lt_size eb)) eb⟩

theorem swN {v : Expr} {k : Nat} {p : Pos} {ts : List Expr} (C : Cx prog w hB h₀ mg mb us N sc Γ n name L a cd cs) (hs : (sw sc ts v).isSome = true) :
    swappedStores [.Tuple ts k p] v (eOf name sc L a cd cs) = pure none ∨ swappedStores [.Tuple ts k p] v (eOf name sc L a cd cs) = pure (some (swNames sc ts)) := by
  obtain ⟨b, hb⟩ := Option.isSome_iff_exists.mp hs
  have := sw_pure (name := name) (L := L) (a := a) (cd := cd) (cs := cs) (k := k) (p := p) C.hk hb
  cases b with
  | true => exact .inr (by simpa using this)
  | false => exact .inl (by simpa using this)
theorem noComp_swaps {v : Expr} {t : Option Expr} {l : Nat} {env : Env} (h : noComp v = true) : swapsWith v t l env = pure false := by
  cases v <;> first | rfl | exact absurd (show false = true from h) Bool.false_ne_true
theorem noComp_sole {v : Expr} {t : Expr} {l : Nat} {env : Env} (h : noComp v = true) : swapsWithSole [t] v l env = pure false := noComp_swaps h

/-- a tuple of two into two names -/
theorem asg2_ok (C : Cx prog w hB h₀ mg mb us N sc Γ n name L a cd cs) {A : Around} {s : Shared} {ρ : List D} {i j : Nat} {x y : Str} {p q tp pos : Pos} {k : Nat} {v : Expr} {Q : Flow → Shared → Prop} {P : D → D → Prop} (hA : A.handled = none)
    (hij : i ≠ j) (hx : N[i]? = some x) (hy : N[j]? = some y) (hc : noComp v = true) (hsw : (sw sc [.Name x p, .Name y q] v).isSome = true) (hnm : swNames sc [.Name x p, .Name y q] = [x, y]) (S : St h₀ L N ρ s)
    (h : wpAny (model prog w) A (eval v (eOf name sc L a cd cs)) (fun v s' => Keeps s s' ∧ ∃ d, RV s'.heap v d ∧ t2P P d) Fls s)
    (go : ∀ s' d1 d2, P d1 d2 → St h₀ L N ((ρ.set i d1).set j d2) s' → Tr L s s' → Q .next s') :
    wpAny (model prog w) A (exec (.Assign [.Tuple [.Name x p, .Name y q] k tp] v pos) (eOf name sc L a cd cs)) Q Fls s := by
  have pairs : ∀ u s', Keeps s s' ∧ (∃ d, RV s'.heap u d ∧ t2P P d) → ∃ t v1 v2 d1 d2, u = .ref t ∧ IsTup s'.heap t #[v1, v2] ∧ RV s'.heap v1 d1 ∧ RV s'.heap v2 d2 ∧ P d1 d2 ∧ Keeps s s' := by
    rintro u s' ⟨kk, d, r, hp⟩
    obtain ⟨ds, rfl, hp⟩ := tP_inv hp
    obtain ⟨d1, d2, rfl, hp⟩ := l2_inv hp
    obtain ⟨t, vs, rfl, hl, hv⟩ := r.inv_tup
    obtain ⟨v1, vs, rfl, r1, hv⟩ := hv.inv_cons
    obtain ⟨v2, vs, rfl, r2, hv⟩ := hv.inv_cons
    obtain rfl := hv.inv_nil
    exact ⟨t, v1, v2, _, _, rfl, hl, r1, r2, hp, kk⟩
  rcases swN (name := name) (L := L) (a := a) (cd := cd) (cs := cs) (k := k) (p := tp) C hsw with hw | hw
  · refine Assign_Tuple (wpAny_mono h (fun u s₁ h₁ => ?_) fun _ _ x => x) (noComp_sole hc) hw
    obtain ⟨t, v1, v2, d1, d2, rfl, ht, r1, r2, hp, kk⟩ := pairs u s₁ h₁
    refine assign_Tuple_tuple hA ht rfl rfl fun h' he => ?_
    have k2 := extBut_keeps he
    have S2 := (S.keeps kk).keeps k2
    refine assignInOrder_cons (PyProof.Rows.assign_Name (sto_ok C S2 hx (r1.keep (kSeq k2)) fun s₃ S₃ t₃ => ?_))
    refine assignInOrder_cons (PyProof.Rows.assign_Name (sto_ok C S₃ hy ((r2.keep (kSeq k2)).keep (st_seq S2 t₃)) fun s₄ S₄ t₄ => ?_))
    exact assignInOrder_nil (go s₄ d1 d2 hp S₄ (((kTr (kTrans kk k2)).trans t₃).trans t₄))
  · rw [hnm] at hw
    refine Assign_Tuple_swapped (wpAny_mono h (fun u s₁ h₁ => ?_) fun _ _ x => x) (noComp_sole hc) hw
    obtain ⟨t, v1, v2, d1, d2, rfl, ht, r1, r2, hp, kk⟩ := pairs u s₁ h₁
    show wpAny (model prog w) A (unpackItems (.ref t) (#[v1, v2] : Array Value).size none) _ _ _
    refine unpackItems_tuple hA ht fun h' he => ?_
    show wpAny (model prog w) A (assignInOrder [fun u => bindName (eOf name sc L a cd cs) y u, fun u => bindName (eOf name sc L a cd cs) x u] [v2, v1]) _ _ _
    have k2 := extBut_keeps he
    have S2 := (S.keeps kk).keeps k2
    refine assignInOrder_cons (bindName_ (sto_ok C S2 hy (r2.keep (kSeq k2)) fun s₃ S₃ t₃ => ?_))
    refine assignInOrder_cons (bindName_ (sto_ok C S₃ hx ((r1.keep (kSeq k2)).keep (st_seq S2 t₃)) fun s₄ S₄ t₄ => ?_))
    rw [List.set_comm _ _ hij.symm] at S₄
    exact assignInOrder_nil (go s₄ d1 d2 hp S₄ (((kTr (kTrans kk k2)).trans t₃).trans t₄))

end sound


section sound
variable {prog : Program} {w : World} {hB h₀ : Heap} {mg mb : Str → Option Value} {us : Us} {N : List Str} {sc : Scope} {Γ : Str → List D → D → Prop} {n : Nat} {name : Str} {L : Addr} {a : Option Addr × Option Addr} {cd : Value} {cs : List (Str × Addr)}

/-- a state in which only an iterator's object has moved -/
theorem St.but {ρ : List D} {s : Shared} {h' : Heap} {tk : Nat} {I : Addr} (S : St h₀ L N ρ s) (hL : L ≠ I) (hI : h₀.get? I = none) (hns : ∀ o, s.heap.get? I = some o → ∀ items k, o.data ≠ .seq items k)
    (hk : ∀ b o, b ≠ I → s.heap.get? b = some o → h'.get? b = some o) : St h₀ L N ρ { s with heap := h', toks := tk } := by
  obtain ⟨m, F, R⟩ := S
  have sk : SeqK s.heap h' := by
    intro b o items k e hd
    by_cases hb : b = I
    · subst hb; exact absurd hd (hns o e items k)
    · exact hk b o hb e
  refine ⟨m, ⟨F.ns.at' fun o e => hk _ o hL e, fun b o hb' e => hk b o (fun hb => ?_) (F.keep b o hb' e)⟩, fun i x d e1 e2 e3 => ?_⟩
  · subst hb; rw [hI] at e; cases e
  · obtain ⟨v, hv, r⟩ := R i x d e1 e2 e3
    exact ⟨v, hv, r.keep sk⟩

/-- a for loop over anything that walks -/
theorem for_ok (C : Cx prog w hB h₀ mg mb us N sc Γ n name L a cd cs) {A : Around} {s s₀ : Shared} {ρ : List D} {i : Nat} {x : Str} {px : Pos} {body : List Stmt} {I : Addr} {fp : List Addr} {m : Nat} {P : Nat → Value → Prop} {SW : Nat → Heap → Prop}
    (hx : N[i]? = some x) (W : Walks prog w A I fp [I] m P SW) (hLI : L ≠ I) (hLf : L ∉ fp) (hI : h₀.get? I = none) (hnsq : ∀ k h o, SW k h → h.get? I = some o → ∀ items j, o.data ≠ .seq items j)
    (hst : SW 0 s.heap) (S : St h₀ L N ρ s) (htr : Tr L s₀ s) (hfresh : s₀.heap.get? I = none)
    (J : Nat → List D → Prop) (h0 : J 0 ρ) {Q : Option D → List D → Prop} {dd : Nat → D → Prop}
    (item : ∀ k v, k < m → P k v → ∃ d, dd k d ∧ ∀ h', SeqK s.heap h' → RV h' v d)
    (turn : ∀ k d ρ' (s₁ : Shared), k < m → dd k d → J k ρ' → St h₀ L N (ρ'.set i d) s₁ →
      wpAny (model prog w) A (execs body (eOf name sc L a cd cs)) (PostS h₀ L N s₁ (onN (fun ρ'' => J (k + 1) ρ'') Q)) Fls s₁)
    {R : Flow → Shared → Prop} (done : ∀ ρ' s', J m ρ' → St h₀ L N ρ' s' → Tr L s₀ s' → R .next s') (ret : ∀ v d ρ' s', Q (some d) ρ' → RV s'.heap v d → St h₀ L N ρ' s' → Tr L s₀ s' → R (.ret v) s')
    {E' : Value → Shared → Prop} :
    codeAny (model prog w) A (.forLoop (.Name x px) (.ref I) body [] (eOf name sc L a cd cs)) (fun r s' => match r with | .ok f => R f s' | .error e => E' e s') s := by
  have hsL : ∀ o, s.heap.get? I = some o → ∀ items k, o.data ≠ .seq items k := fun o e => hnsq 0 _ o hst e
  refine codeAny_forLoop (fun c s' => ∃ h' tk ρ' k, s' = { s with heap := h', toks := tk } ∧ SW k h' ∧ St h₀ L N ρ' s' ∧ J k ρ' ∧ k ≤ m ∧ c = m + 1 - k ∧ (∀ b o, b ≠ L → b ≠ I → s.heap.get? b = some o → h'.get? b = some o)) ?_ (m + 1)
    ⟨s.heap, s.toks, ρ, 0, rfl, hst, S, h0, Nat.zero_le _, rfl, fun _ _ _ _ e => e⟩
  rintro c s' ⟨h', tk, ρ', k, rfl, hst', S', hJ, hk, rfl, hkp⟩
  have trOf : ∀ (h'' : Heap) (tk' : Nat), (∀ b o, b ≠ L → b ≠ I → s.heap.get? b = some o → h''.get? b = some o) → Tr L s₀ { s with heap := h'', toks := tk' } := by
    intro h'' tk' hh
    obtain ⟨h₁, tk₁, rfl, hk₁⟩ := htr
    refine ⟨h'', tk', rfl, fun b o hb e => hh b o hb (fun e' => ?_) (hk₁ b o hb e)⟩
    subst e'; rw [hfresh] at e; cases e
  have seqOf : ∀ (h'' : Heap), (∀ b o, b ≠ L → b ≠ I → s.heap.get? b = some o → h''.get? b = some o) → SeqK s.heap h'' := by
    intro h'' hh b o items j e hd
    by_cases hb : b = I
    · subst hb; exact absurd hd (hsL o e items j)
    · by_cases hb' : b = L
      · subst hb'
        obtain ⟨oL, hoL, hn⟩ := st_frL S
        rw [e] at hoL; cases hoL; exact absurd hd (hn items j)
      · exact hh b o hb' hb e
  by_cases hlt : k < m
  · refine W.item k _ _ _ hlt hst' fun v h₁ tk₁ hP hst₁ hk₁ => ?_
    have S₁ : St h₀ L N ρ' { s with heap := h₁, toks := tk₁ } := S'.but hLI hI (fun o e => hnsq k _ o hst' e) fun b o hb e => hk₁ b o (by simpa using hb) e
    have kp₁ : ∀ b o, b ≠ L → b ≠ I → s.heap.get? b = some o → h₁.get? b = some o := fun b o h1 h2 e => hk₁ b o (by simpa using h2) (hkp b o h1 h2 e)
    obtain ⟨d, hd, hrv⟩ := item k v hlt hP
    refine PySem.wpAny_assign_Name (wpAny_mono (sto_ok (Q := fun _ s₂ => St h₀ L N (ρ'.set i d) s₂ ∧ Tr L { s with heap := h₁, toks := tk₁ } s₂) C S₁ hx (hrv h₁ (seqOf h₁ kp₁)) (fun s₂ S₂ t₂ => ⟨S₂, t₂⟩)) (fun _ s₂ h₂ => ?_) fun _ _ x => x.elim)
    obtain ⟨S₂, t₂⟩ := h₂
    refine wpAny_mono (turn k d ρ' s₂ hlt hd hJ S₂) (fun f s₃ h₃ => ?_) fun _ _ x => x.elim
    obtain ⟨t₃, o, ρ'', S₃, hf, hq⟩ := h₃
    have t13 := t₂.trans t₃
    obtain ⟨h₄, tk₄, rfl, kp₄⟩ := t13
    have kp : ∀ b o, b ≠ L → b ≠ I → s.heap.get? b = some o → h₄.get? b = some o := fun b o h1 h2 e => kp₄ b o h1 (kp₁ b o h1 h2 e)
    cases f with
    | next =>
      cases o with
      | none =>
        refine ⟨m + 1 - (k + 1), by (first | (clear C hx W hLI hLf hI hnsq hst S htr hfresh h0 item turn done ret hsL hst' S' hJ hk hkp trOf seqOf hP hst₁ hk₁ S₁ kp₁ hd hrv S₂ t₂ kp₄ t₃ S₃ kp hq hf; omega) | omega), h₄, tk₄, ρ'', k + 1, rfl, ?_, S₃, hq, hlt, rfl, kp⟩
        exact W.frame _ _ _ hst₁ fun b hb o e => kp₄ b o (fun e' => hLf (e' ▸ hb)) e
      | some d => exact hf.elim
    | ret v =>
      cases o with
      | none => exact hf.elim
      | some d => exact ret v d ρ'' _ hq hf S₃ (trOf h₄ tk₄ kp)
    | brk => cases o <;> exact hf.elim
    | cont => cases o <;> exact hf.elim
  · have hkm : k = m := by (first | (clear C hx W hLI hLf hI hnsq hst S htr hfresh h0 item turn done ret hsL hst' S' hJ hkp trOf seqOf; omega) | omega)
    subst hkm
    refine W.done _ _ _ hst' fun h₁ tk₁ hk₁ => wpAny_execs_nil ?_
    have S₁ : St h₀ L N ρ' { s with heap := h₁, toks := tk₁ } := S'.but hLI hI (fun o e => hnsq k _ o hst' e) fun b o hb e => hk₁ b o (by simpa using hb) e
    exact done ρ' _ hJ S₁ (trOf h₁ tk₁ fun b o h1 h2 e => hk₁ b o (by simpa using h2) (hkp b o h1 h2 e))
end sound


section sound
variable {prog : Program} {w : World} {hB h₀ : Heap} {mg mb : Str → Option Value} {us : Us} {N : List Str} {sc : Scope} {Γ : Str → List D → D → Prop} {n : Nat} {name : Str} {L : Addr} {a : Option Addr × Option Addr} {cd : Value} {cs : List (Str × Addr)}

theorem lt_of_fr {ρ : List D} {s : Shared} (S : St h₀ L N ρ s) : L < s.heap.objs.size ∧ h₀.get? s.heap.objs.size = none := by
  obtain ⟨m, F, _⟩ := S
  refine ⟨F.ns.lt, ?_⟩
  cases e : h₀.get? s.heap.objs.size with
  | none => rfl
  | some o => exact absurd (Heap.lt_size (F.keep _ o (fun h => Nat.lt_irrefl _ (h ▸ F.ns.lt)) e)) (Nat.lt_irrefl _)
theorem none_at {h : Heap} {I : Addr} (hI : h.objs.size ≤ I) : h.get? I = none := by
  cases e : h.get? I with
  | none => rfl
  | some o => exact absurd (Heap.lt_size e) (Nat.not_lt.mpr hI)

theorem fresh_of {s s₂ : Shared} (k : Keeps s s₂) : s.heap.get? s₂.heap.objs.size = none := by
  cases e : s.heap.get? s₂.heap.objs.size with
  | none => rfl
  | some o => exact absurd (Heap.lt_size (kAll k _ _ e)) (Nat.lt_irrefl _)
theorem rng_call {A : Around} {s : Shared} {vs : List Value} {ds : List D} {P : Int → Int → Int → Prop} (r : RVs s.heap vs ds) (h : rngP (fun a z c => c ≠ 0 ∧ c.natAbs < 2 ^ 30 ∧ P a z c) ds) :
    wpAny (model prog w) A (call (.type "range") vs) (fun v s' => Keeps s s' ∧ ∃ ad a z c t u v', v = .ref ad ∧ IsRange s'.heap ad a z c t u v' ∧ P a z c) Fls s := by
  rcases rngP_inv h with ⟨z, rfl, h⟩ | ⟨a, z, rfl, h⟩ | ⟨a, z, c, rfl, h⟩
  · obtain ⟨v, vs, rfl, r1, r⟩ := r.inv_cons; obtain rfl := r.inv_nil; obtain ⟨t, rfl⟩ := r1.inv_int
    exact call_range_1 ⟨⟨_, _, rfl, fun _ _ e => Heap.get?_push_of_some _ e⟩, _, _, _, _, _, _, _, rfl, IsRange.new .., h.2.2⟩
  · obtain ⟨v, vs, rfl, r1, r⟩ := r.inv_cons; obtain ⟨v2, vs, rfl, r2, r⟩ := r.inv_cons; obtain rfl := r.inv_nil; obtain ⟨t, rfl⟩ := r1.inv_int; obtain ⟨t2, rfl⟩ := r2.inv_int
    exact call_range_2 ⟨⟨_, _, rfl, fun _ _ e => Heap.get?_push_of_some _ e⟩, _, _, _, _, _, _, _, rfl, IsRange.new .., h.2.2⟩
  · obtain ⟨v, vs, rfl, r1, r⟩ := r.inv_cons; obtain ⟨v2, vs, rfl, r2, r⟩ := r.inv_cons; obtain ⟨v3, vs, rfl, r3, r⟩ := r.inv_cons; obtain rfl := r.inv_nil
    obtain ⟨t, rfl⟩ := r1.inv_int; obtain ⟨t2, rfl⟩ := r2.inv_int; obtain ⟨t3, rfl⟩ := r3.inv_int
    exact call_range_3 h.1 ⟨⟨_, _, rfl, fun _ _ e => Heap.get?_push_of_some _ e⟩, _, _, _, _, _, _, _, rfl, IsRange.new .., h.2.2⟩ (Or.inl (PyProof.noPylong_small (by have := h.2.1; (first | (clear h r1 r2 r3 r; omega) | omega))))

theorem notSet_fold {it : Expr} {env : Env} (h : notSet it = true) : ∀ x, foldedSetIterable it env x = pure x := by
  intro x; cases it <;> first | rfl | exact absurd (show false = true from h) Bool.false_ne_true

theorem rangeSize_nonneg (a z c : Int) : 0 ≤ Builtin.Range.rangeSize a z c := by
  unfold Builtin.Range.rangeSize
  split
  · split
    · rename_i h1 h2
      have := Int.ediv_nonneg (a := z - a - 1) (b := c) (by (first | (clear h1; omega) | omega)) (by first | with_reducible assumption | with_reducible exact Int.le_of_lt (by assumption) | with_reducible exact Nat.le_of_lt (by assumption) | with_reducible exact qz1 (by assumption) | with_reducible exact qz2 (by assumption) | with_reducible exact qz3 (by assumption) | with_reducible exact qz4 (by assumption) | with_reducible exact qz5 (by assumption) | with_reducible exact qz6 (by assumption) | with_reducible exact qz7 (by assumption) | with_reducible exact qz8 (by assumption) | with_reducible exact qz9 (by assumption) | with_reducible exact qza (by assumption) | with_reducible exact qzb (by assumption) | with_reducible exact qzc | with_reducible exact qzd | with_reducible exact qze | omega)
      (first | (clear h1 h2; omega) | omega)
    · omega
  · split
    · rename_i h1 h2
      have := Int.ediv_nonneg (a := a - z - 1) (b := -c) (by (first | (clear h1; omega) | omega)) (by (first | (clear h2; omega) | omega))
      (first | (clear h1 h2; omega) | omega)
    · omega

theorem post_next {s s' : Shared} {Q : Option D → List D → Prop} {ρ : List D} (S : St h₀ L N ρ s') (t : Tr L s s') (h : Q none ρ) : PostS h₀ L N s Q .next s' := ⟨t, none, ρ, S, trivial, h⟩

/-- on behind a block that falls through -/
theorem then_rest {A : Around} {s s₁ : Shared} {rest : List Stmt} {Q : Option D → List D → Prop} {r : S}
    (ih : ∀ (s : Shared) (ρ : List D), St h₀ L N ρ s → wpS0 Γ r ρ Q → wpAny (model prog w) A (execs rest (eOf name sc L a cd cs)) (PostS h₀ L N s Q) Fls s)
    (t : Tr L s s₁) : ∀ (f : Flow) (s' : Shared), PostS h₀ L N s₁ (onN (fun ρ' => wpS0 Γ r ρ' Q) Q) f s' →
    match f with | .next => wpAny (model prog w) A (execs rest (eOf name sc L a cd cs)) (PostS h₀ L N s Q) Fls s' | f => PostS h₀ L N s Q f s' := by
  intro f s' h
  obtain ⟨t', o, ρ', S', hf, hq⟩ := h
  cases f with
  | next =>
    cases o with
    | none => exact wpAny_mono (ih s' ρ' S' hq) (fun _ _ x => x.tr (t.trans t')) fun _ _ x => x
    | some d => exact hf.elim
  | ret v =>
    cases o with
    | none => exact hf.elim
    | some d => exact ⟨t.trans t', some d, ρ', S', hf, hq⟩
  | brk => cases o <;> exact hf.elim
  | cont => cases o <;> exact hf.elim

theorem soundS (C : Cx prog w hB h₀ mg mb us N sc Γ n name L a cd cs) : ∀ (c : S) (stmts : List Stmt), chkS us N sc c stmts = true → ∀ (A : Around) (s : Shared) (ρ : List D) (Q : Option D → List D → Prop), (AOk n A ∧ us.k A) → St h₀ L N ρ s → wpS0 Γ c ρ Q →
    wpAny (model prog w) A (execs stmts (eOf name sc L a cd cs)) (PostS h₀ L N s Q) Fls s := by
  intro c
  induction c with
  | nil =>
    intro stmts hc A s ρ Q hA' S h
    have hA := hA'.1
    obtain rfl := inv_Nil hc
    simp only [wpS0_nil, wpS0_rais, wpS0_opq, wpS0_ret, wpS0_set, wpS0_set2, wpS0_aug, wpS0_ite, wpS0_whl, wpS0_forR, wpS0_forL] at h
    exact wpAny_execs_nil (post_next S (.refl L s) h)
  | rais => intro stmts hc A s ρ Q hA' S h; simp only [wpS0_nil, wpS0_rais, wpS0_opq, wpS0_ret, wpS0_set, wpS0_set2, wpS0_aug, wpS0_ite, wpS0_whl, wpS0_forR, wpS0_forL] at h
  | opq x r ih =>
    intro stmts hc A s ρ Q hA' S h
    have hA := hA'.1
    simp only [chkS_nil, chkS_rais, chkS_opq, chkS_ret, chkS_set, chkS_set2, chkS_aug, chkS_ite, chkS_whl, chkS_forR, chkS_forL, Bool.and_eq_true, Option.any_eq_true] at hc
    obtain ⟨⟨st, hst, hs⟩, hr⟩ := hc
    rw [head_cons hst]
    simp only [wpS0_nil, wpS0_rais, wpS0_opq, wpS0_ret, wpS0_set, wpS0_set2, wpS0_aug, wpS0_ite, wpS0_whl, wpS0_forR, wpS0_forL] at h
    obtain ⟨ρ', hg, hw⟩ := h
    refine wpAny_execs_cons (wpAny_mono (C.op x ρ ρ' st hg hs A s hA hA'.2 S) (fun f s' h' => ?_) fun _ _ x => x)
    obtain ⟨rfl, t, S'⟩ := h'
    exact wpAny_mono (ih _ hr A s' ρ' Q hA' S' hw) (fun _ _ x => x.tr t) fun _ _ x => x
  | ret e =>
    intro stmts hc A s ρ Q hA' S h
    have hA := hA'.1
    obtain ⟨x, p, rest, rfl, hc⟩ := inv_ret hc
    simp only [wpS0_nil, wpS0_rais, wpS0_opq, wpS0_ret, wpS0_set, wpS0_set2, wpS0_aug, wpS0_ite, wpS0_whl, wpS0_forR, wpS0_forL] at h
    refine wpAny_execs_cons (wpAny_Return_some (wpAny_mono ((sound C e).val _ hc A s ρ _ hA S h) (fun v s' h' => ?_) fun _ _ x => x))
    obtain ⟨k, d, r, hp⟩ := h'
    exact ⟨kTr k, some d, ρ, S.keeps k, r, hp⟩
  | set i e r ih =>
    intro stmts hc A s ρ Q hA' S h
    have hA := hA'.1
    obtain ⟨x, q, v, p, rest, rfl, h1, h2, h3, h4⟩ := inv_set hc
    simp only [wpS0_nil, wpS0_rais, wpS0_opq, wpS0_ret, wpS0_set, wpS0_set2, wpS0_aug, wpS0_ite, wpS0_whl, wpS0_forR, wpS0_forL] at h
    refine wpAny_execs_cons (wpAny_Assign_Name (wpAny_mono ((sound C e).val _ h3 A s ρ _ hA S h) (fun v s' h' => ?_) fun _ _ x => x) (noComp_swaps h2))
    obtain ⟨k, d, rv, hp⟩ := h'
    refine sto_ok C (S.keeps k) h1 rv fun s₂ S₂ t₂ => ?_
    exact wpAny_mono (ih _ h4 A s₂ _ Q hA' S₂ hp) (fun _ _ x => x.tr ((kTr k).trans t₂)) fun _ _ x => x
  | set2 i j e r ih =>
    intro stmts hc A s ρ Q hA' S h
    have hA := hA'.1
    obtain ⟨x, p, y, q, kk, tp, v, pos, rest, rfl, h0, h1, h2, h3, h4, h5, h6, h7⟩ := inv_set2 hc
    simp only [wpS0_nil, wpS0_rais, wpS0_opq, wpS0_ret, wpS0_set, wpS0_set2, wpS0_aug, wpS0_ite, wpS0_whl, wpS0_forR, wpS0_forL] at h
    refine wpAny_execs_cons (asg2_ok C hA.1 h0 h1 h2 h3 h4 h5 S ((sound C e).val _ h6 A s ρ _ hA S h) fun s₂ d1 d2 hp S₂ t₂ => ?_)
    exact wpAny_mono (ih _ h7 A s₂ _ Q hA' S₂ hp) (fun _ _ x => x.tr t₂) fun _ _ x => x
  | aug i op e r ih =>
    intro stmts hc A s ρ Q hA' S h
    have hA := hA'.1
    obtain ⟨x, q, v, p, rest, rfl, h1, h3, h4⟩ := inv_aug hc
    simp only [wpS0_nil, wpS0_rais, wpS0_opq, wpS0_ret, wpS0_set, wpS0_set2, wpS0_aug, wpS0_ite, wpS0_whl, wpS0_forR, wpS0_forL] at h
    obtain ⟨m, F, R⟩ := id S
    obtain ⟨v, hv, r1⟩ := R i _ _ h1 (get_eq rfl h.1) h.1
    refine wpAny_execs_cons (wpAny_AugAssign_Name (wpAny_loadName_local C.hk (C.loc _ (List.mem_of_getElem? h1)).1 F.ns hv ?_))
    refine wpAny_mono ((sound C e).val _ h3 A s ρ _ hA S h.2) (fun u s' h' => ?_) fun _ _ x => x
    obtain ⟨k, d, r2, hp⟩ := h'
    refine wpAny_mono (aug_ok (r1.keep (kSeq k)) r2 hp) (fun z s₂ h₂ => ?_) fun _ _ x => x
    obtain ⟨k2, d2, r3, hp2⟩ := h₂
    refine sto_ok C ((S.keeps k).keeps k2) h1 r3 fun s₃ S₃ t₃ => ?_
    exact wpAny_mono (ih _ h4 A s₃ _ Q hA' S₃ hp2) (fun _ _ x => x.tr ((kTr (kTrans k k2)).trans t₃)) fun _ _ x => x
  | ite c t e r iht ihe ihr =>
    intro stmts hc A s ρ Q hA' S h
    have hA := hA'.1
    obtain ⟨x, b, o, p, rest, rfl, h1, h2, h3, h4⟩ := inv_iteS hc
    simp only [wpS0_nil, wpS0_rais, wpS0_opq, wpS0_ret, wpS0_set, wpS0_set2, wpS0_aug, wpS0_ite, wpS0_whl, wpS0_forR, wpS0_forL] at h
    refine wpAny_execs_cons (wpAny_If (wpAny_mono ((sound C c).tst _ h1 A s ρ (fun b => if b = true then wpS0 Γ t ρ (onN (fun ρ' => wpS0 Γ r ρ' Q) Q) else wpS0 Γ e ρ (onN (fun ρ' => wpS0 Γ r ρ' Q) Q)) hA S h) (fun b s' h' => ?_) fun _ _ x => x))
    obtain ⟨k, hp⟩ := h'
    cases b with
    | true =>
      simp only [if_true] at hp ⊢
      exact wpAny_mono (iht _ h2 A s' ρ _ hA' (S.keeps k) hp) (then_rest (fun s ρ S h => ihr _ h4 A s ρ Q hA' S h) (kTr k)) fun _ _ x => x
    | false =>
      simp only [Bool.false_eq_true, if_false] at hp ⊢
      exact wpAny_mono (ihe _ h3 A s' ρ _ hA' (S.keeps k) hp) (then_rest (fun s ρ S h => ihr _ h4 A s ρ Q hA' S h) (kTr k)) fun _ _ x => x
  | whl c b r ihb ihr =>
    intro stmts hc A s ρ Q hA' S h
    have hA := hA'.1
    obtain ⟨x, body, p, rest, rfl, h1, h2, h3⟩ := inv_whl hc
    simp only [wpS0_nil, wpS0_rais, wpS0_opq, wpS0_ret, wpS0_set, wpS0_set2, wpS0_aug, wpS0_ite, wpS0_whl, wpS0_forR, wpS0_forL] at h
    obtain ⟨I, n₀, hI0, hI⟩ := h
    refine wpAny_execs_cons (wpAny_While (codeAny_whileLoop (fun k s' => Tr L s s' ∧ ∃ ρ', St h₀ L N ρ' s' ∧ I k ρ') ?_ n₀ ⟨.refl L s, ρ, S, hI0⟩))
    rintro k s' ⟨t', ρ', S', hk⟩
    refine wpAny_mono ((sound C c).tst _ h1 A s' ρ' (fun t => if t = true then wpS0 Γ b ρ' (onN (fun ρ'' => ∃ m, m < k ∧ I m ρ'') Q) else wpS0 Γ r ρ' Q) hA S' (hI k ρ' hk)) (fun t s₂ h₂ => ?_) fun _ _ x => x.elim
    obtain ⟨k2, hp⟩ := h₂
    have S₂ := S'.keeps k2
    have t₂ := t'.trans (kTr k2)
    cases t with
    | true =>
      simp only [if_true] at hp ⊢
      refine wpAny_mono (ihb _ h2 A s₂ ρ' _ hA' S₂ hp) (fun f s₃ h₃ => ?_) fun _ _ x => x.elim
      obtain ⟨t₃, o, ρ'', S₃, hf, hq⟩ := h₃
      cases f with
      | next =>
        cases o with
        | none => obtain ⟨m, hm, hIm⟩ := hq; exact ⟨m, hm, t₂.trans t₃, ρ'', S₃, hIm⟩
        | some d => exact hf.elim
      | ret v =>
        cases o with
        | none => exact hf.elim
        | some d => exact ⟨t₂.trans t₃, some d, ρ'', S₃, hf, hq⟩
      | brk => cases o <;> exact hf.elim
      | cont => cases o <;> exact hf.elim
    | false =>
      simp only [Bool.false_eq_true, if_false] at hp ⊢
      exact wpAny_execs_nil (wpAny_mono (ihr _ h3 A s₂ ρ' Q hA' S₂ hp) (fun _ _ x => x.tr t₂) fun _ _ x => x)
  | forR i l b r ihb ihr =>
    intro stmts hc A s ρ Q hA' S h
    have hA := hA'.1
    obtain ⟨xn, q, g, gq, e, es, cp, body, p, rest, rfl, h1, h2, h3, h4, h5, h6, h7⟩ := inv_forR hc
    simp only [wpS0_nil, wpS0_rais, wpS0_opq, wpS0_ret, wpS0_set, wpS0_set2, wpS0_aug, wpS0_ite, wpS0_whl, wpS0_forR, wpS0_forL] at h
    have ne := cons_of h5
    obtain ⟨x, rr, rfl⟩ := ne
    obtain ⟨e', es', e1, hs, _, _⟩ := inv_cons h5
    cases e1
    refine wpAny_execs_cons (wpAny_For (Call_ (bi_name C S h2 rfl h3 h4 (callB hs (chkEs_stars h5) (val_cases .range rfl) (wpAny_mono ((sound C (.cons x rr)).lst _ _ h5 A s ρ _ hA S h) (fun vs s₁ h₁ => ?_) fun _ _ x => x)))) (fun _ => rfl))
    obtain ⟨k, ds, rs, hp⟩ := h₁
    refine wpAny_mono (rng_call rs hp) (fun v s₂ h₂ => ?_) fun _ _ x => x
    obtain ⟨k2, ad, a₀, z, c, t, u, v', rfl, hr, hsm, I, hI0, hturn, hdone⟩ := h₂
    refine wpAny_pyIter_range hr hsm ?_
    have k12 := kTrans k k2
    have S₂ := (S.keeps k12)
    obtain ⟨hLs, hLh⟩ := lt_of_fr S₂
    have k3 : Keeps s₂ { s₂ with heap := s₂.heap.push { cls := .type "range_iterator", data := .fields #[rawInt a₀, rawInt (Builtin.Range.rangeSize a₀ z c), rawInt c] } } := push_keeps _
    have hcnt : ((cnt a₀ z c : Nat) : Int) = Builtin.Range.rangeSize a₀ z c := by unfold cnt; exact Int.toNat_of_nonneg (rangeSize_nonneg a₀ z c)
    refine for_ok (s₀ := s) C h1 (Walks.range hA.1 s₂.heap.objs.size a₀ c (cnt a₀ z c)) (Nat.ne_of_lt hLs) (by simpa using Nat.ne_of_lt hLs) hLh ?_ ?_ (S₂.keeps k3) (kTr (kTrans k12 k3)) ?_ I hI0
      (dd := fun k d => d = .int (a₀ + k * c)) (Q := Q) ?_ ?_ ?_ ?_
    · intro j h o hst ho items q
      rw [hst] at ho; cases ho; simp
    · show IsRangeIter _ _ _ _ _
      rw [hcnt]
      simpa using Heap.get?_push_size _ rfl
    · exact fresh_of k12
    · rintro j v hj ⟨t, rfl⟩
      exact ⟨_, rfl, fun h' _ => .int _ _⟩
    · rintro j d ρ' s₁ hj rfl hJ S₁
      exact ihb _ h6 A s₁ _ _ hA' S₁ (hturn j ρ' hj hJ)
    · intro ρ' s' hJ S' t'
      exact wpAny_mono (ihr _ h7 A s' ρ' Q hA' S' (hdone ρ' hJ)) (fun _ _ x => x.tr t') fun _ _ x => x
    · intro v d ρ' s' hq hrv S' t'
      exact ⟨t', some d, ρ', S', hrv, hq⟩
  | forL i e b r ihb ihr =>
    intro stmts hc A s ρ Q hA' S h
    have hA := hA'.1
    obtain ⟨xn, q, it, body, p, rest, rfl, h1, h2, h5, h6, h7⟩ := inv_forL hc
    simp only [wpS0_nil, wpS0_rais, wpS0_opq, wpS0_ret, wpS0_set, wpS0_set2, wpS0_aug, wpS0_ite, wpS0_whl, wpS0_forR, wpS0_forL] at h
    refine wpAny_execs_cons (wpAny_For (wpAny_mono ((sound C e).val _ h5 A s ρ _ hA S h) (fun v s₂ h₂ => ?_) fun _ _ x => x) (notSet_fold h2))
    obtain ⟨k12, d, rv, hp⟩ := h₂
    obtain ⟨ds, rfl, hp⟩ := lP_inv hp
    obtain ⟨ad, vs, rfl, hl, hv⟩ := rv.inv_list
    obtain ⟨I, hI0, hturn, hdone⟩ := hp
    refine wpAny_pyIter_list hl ?_
    have S₂ := (S.keeps k12)
    obtain ⟨hLs, hLh⟩ := lt_of_fr S₂
    have k3 : Keeps s₂ { s₂ with heap := s₂.heap.push { cls := .type "list_iterator", data := .fields #[.ref ad, .int 0 0] } } := push_keeps _
    have hne : ad ≠ s₂.heap.objs.size := by obtain ⟨o, ho, _⟩ := hl; exact Nat.ne_of_lt (Heap.lt_size ho)
    have hLad : L ≠ ad := by
      intro e; subst e
      obtain ⟨oL, hoL, hn⟩ := st_frL S₂
      obtain ⟨o, ho, _, q, hd⟩ := hl
      rw [hoL] at ho; cases ho; exact hn _ _ hd
    have hsz : vs.toArray.size = ds.length := by rw [List.size_toArray, hv.1]
    have W := Walks.list (prog := prog) (w := w) hA.1 s₂.heap.objs.size ad hne vs.toArray
    rw [hsz] at W
    refine for_ok (s₀ := s) C h1 W (Nat.ne_of_lt hLs) (by simp [Nat.ne_of_lt hLs, hLad]) hLh ?_ ?_ (S₂.keeps k3) (kTr (kTrans k12 k3)) ?_ I hI0
      (dd := fun k d => ds[k]? = some d) (Q := Q) ?_ ?_ ?_ ?_
    · intro j h o hst ho items q
      obtain ⟨⟨o', ho', _, hd'⟩, _⟩ := hst
      rw [ho'] at ho; cases ho; rw [hd']; simp
    · exact ⟨⟨_, Heap.get?_push_size _ rfl, rfl, rfl⟩, hl.at fun o e => Heap.get?_push_of_some _ e⟩
    · exact fresh_of k12
    · intro j v hj hP
      have hP : vs[j]? = some v := by simpa using hP
      have hjv : j < ds.length := hj
      refine ⟨ds[j], List.getElem?_eq_getElem hjv, fun h' sk => ?_⟩
      exact ((hv.2 j v _ hP (List.getElem?_eq_getElem hjv)).keep (kSeq k3)).keep sk
    · intro j d ρ' s₁ hj hd hJ S₁
      exact ihb _ h6 A s₁ _ _ hA' S₁ (hturn j d ρ' hd hJ)
    · intro ρ' s' hJ S' t'
      exact wpAny_mono (ihr _ h7 A s' ρ' Q hA' S' (hdone ρ' hJ)) (fun _ _ x => x.tr t') fun _ _ x => x
    · intro v d ρ' s' hq hrv S' t'
      exact ⟨t', some d, ρ', S', hrv, hq⟩
end sound


noncomputable def chkFn (us : List B) (N names : List Str) (c : S) (fd : FuncData) : Bool :=
  (match fd.body with | .stmts body => chkS (pl us) N fd.scope c body | _ => false) && fd.globals == mainGlobals && fd.builtins == builtinsNs && fd.closure.isEmpty && fd.scope.kind == .function && !fd.scope.isCoroutine && !fd.scope.isGenerator &&
    fd.scope.names.all (fun x => x.2 != .cell) && N.all (fun x => fd.scope.names.lookup x == some .local && x != "__debug__") && decide N.Nodup && names.isPrefixOf N

noncomputable def fnAt (K : Frag) (f : Str) : Option (Addr × FuncData) :=
  match nsIn K mainGlobals f with
  | some (some (.ref a)) => (match K.lookup a with
      | some o => (match o.data with
          | .func fd => if codeIn K fd.code fd.qualname then some (a, fd) else none
          | _ => none)
      | _ => none)
  | _ => none

theorem fnAt_spec {K : Frag} {f : Str} {a : Addr} {fd : FuncData} (h : fnAt K f = some (a, fd)) :
    nsIn K mainGlobals f = some (some (.ref a)) ∧ (∃ o, K.lookup a = some o ∧ o.data = .func fd) ∧ codeIn K fd.code fd.qualname = true := by
  unfold fnAt at h
  split at h
  · rename_i a' hn
    split at h
    · rename_i o ho
      split at h
      · rename_i fd' hd
        split at h
        · rename_i hc
          cases h
          exact ⟨hn, ⟨o, ho, hd⟩, hc⟩
        · cases h
      · cases h
    · cases h
  · cases h

theorem lookup_zip {names : List Str} {vs : List Value} {i : Nat} {x : Str} {v : Value} (hnd : names.Nodup) (hx : names[i]? = some x) (hv : vs[i]? = some v) : (names.zip vs).reverse.lookup x = some v := by
  induction names generalizing vs i with
  | nil => simp at hx
  | cons y names ih =>
    cases vs with
    | nil => simp at hv
    | cons u vs =>
      rw [List.zip_cons_cons, List.reverse_cons, List.lookup_append]
      rw [List.nodup_cons] at hnd
      cases i with
      | zero =>
        simp at hx hv
        subst hx; subst hv
        have : (names.zip vs).reverse.lookup y = none := by
          rw [List.lookup_eq_none_iff]
          intro p hp
          have hp := List.mem_reverse.mp hp
          have := (List.of_mem_zip hp).1
          exact bne_iff_ne.mpr fun e => hnd.1 (e ▸ this)
        rw [this]; simp
      | succ i =>
        simp at hx hv
        rw [ih hnd.2 hx hv]; rfl

theorem callsTo_of {prog : Program} {w : World} {hB : Heap} {mg mb : Str → Option Value} {us : List B} {N names : List Str} {Γ : Str → List D → D → Prop} {n : Nat} {f : Str} {a : Addr} {fd : FuncData} {K : Frag} {c : S} {ds : List D} {r : D}
    (KX : K.In hB) (W : Wd hB mg mb us) (hf : fnAt K f = some (a, fd)) (hchk : chkFn us N names c fd = true) (hG : ∀ f ds r, Γ f ds r → CallsTo prog w hB mg n f ds r)
    (hbind : ∀ (s : Shared) (vs : List Value), Kp hB s.heap → vs.length = names.length → BindsTo s fd ⟨vs, []⟩ (names.zip vs)) (hlen : ds.length = names.length)
    (hsp : wpS0 Γ c (ds ++ List.replicate (N.length - names.length) .undef) (fun o _ => o = some r)) : CallsTo prog w hB mg (n + 1) f ds r := by
  obtain ⟨hn, ⟨o, ho, hd⟩, hcd⟩ := fnAt_spec hf
  have hmg := mg_of KX W.g hn
  refine ⟨a, o, fd, hmg, KX _ _ ho, hd, fun A s vs hA hk rs => ?_⟩
  unfold chkFn at hchk
  simp only [Bool.and_eq_true, beq_iff_eq, Bool.not_eq_true', decide_eq_true_eq, List.all_eq_true, bne_iff_ne, ne_eq, List.isEmpty_iff] at hchk
  obtain ⟨⟨⟨⟨⟨⟨⟨⟨⟨⟨h1, hg⟩, hb⟩, hcl⟩, hkd⟩, hco⟩, hge⟩, hce⟩, hlo⟩, hnd⟩, hpf⟩ := hchk
  obtain ⟨rest, rfl⟩ := List.isPrefixOf_iff_prefix.mp hpf
  split at h1
  · rename_i body hbody
    refine wpAny_call (codeAny_call_def (fd := fd) (binds := names.zip vs) (by have := hA.2; (first | (clear KX W hf hG hbind hlen hn hcd ho hd hmg hA hk rs hce hge hco hkd hcl hb hg hsp hpf hnd hlo hbody h1; omega) | omega)) (hk _ _ (KX _ _ ho)) hd (W.nl.keeps hk) (codeRec_of (KX.keeps hk) hcd) hbody
      (hbind s vs hk (by rw [rs.1, hlen])) hce ?_ ?_ hco hge hkd)
    · intro x hx
      have := (List.of_mem_zip (a := x.1) (b := x.2) hx).1
      exact (hlo x.1 (List.mem_append_left _ this)).1
    · intro h₁ hns hk₁
      have henv : callEnv fd s.heap.objs.size a = eOf (fd.qualname ++ ".<locals>.") fd.scope s.heap.objs.size (some a, some s.heap.objs.size) fd.code [] := by
        unfold callEnv eOf newEnv
        rw [hg, hb, hcl]
      rw [henv]
      have F : Fm s.heap s.heap.objs.size h₁ (fun x => (names.zip vs).reverse.lookup x) := ⟨hns, fun b o _ e => hk₁ b o e⟩
      have C : Cx prog w hB s.heap mg mb (pl us) (names ++ rest) fd.scope Γ n (fd.qualname ++ ".<locals>.") s.heap.objs.size (some a, some s.heap.objs.size) fd.code [] := ⟨W, fun f ds r _ h => hG f ds r h, hkd, fun x hx => ⟨(hlo x hx).1, beq_eq_false_iff_ne.mpr (hlo x hx).2⟩, hnd,
        fun b o e => ⟨Nat.ne_of_lt (Heap.lt_size (hk b o e)), hk b o e⟩, fun _ _ _ _ _ _ h => (by cases h), fun _ _ _ _ _ h => (by cases h), fun _ _ _ _ _ h => (by cases h)⟩
      have S₁ : St s.heap s.heap.objs.size (names ++ rest) (ds ++ List.replicate ((names ++ rest).length - names.length) .undef) { s with heap := h₁, toks := s.toks + (names.zip vs).length } := by
        refine ⟨_, F, fun i x d e1 e2 e3 => ?_⟩
        have hi : i < ds.length := by
          refine Nat.not_le.mp fun hle => e3 ?_
          rw [List.getElem?_append_right hle, List.getElem?_replicate] at e2
          split at e2
          · exact (Option.some.inj e2).symm
          · cases e2
        rw [List.getElem?_append_left hi] at e2
        rw [List.getElem?_append_left (by (first | (clear KX W hf hG hbind hn hcd ho hd hmg hA hk rs hce hge hco hkd hcl hb hg hsp hpf hnd hlo hbody h1 hns hk₁ henv F C e1 e2 e3; omega) | omega))] at e1
        obtain ⟨v, hv, rv⟩ := getElem_to rs e2
        exact ⟨v, lookup_zip (List.nodup_append.mp hnd).1 e1 hv, rv.keep (SeqK.of hk₁)⟩
      refine wpAny_mono (soundS C c body h1 (A.deeper (eOf (fd.qualname ++ ".<locals>.") fd.scope s.heap.objs.size (some a, some s.heap.objs.size) fd.code [])) _ _ _ ⟨⟨hA.1, by show A.depth + 1 + n < recursionLimit ∧ A.units + 3 + 3 * n + 200 < cLine; have := hA.2; (first | (clear KX W hf hG hbind hlen hn hcd ho hd hmg hA hk rs hce hge hco hkd hcl hb hg hsp hpf hnd hlo hbody h1 hns hk₁ henv F C S₁; omega) | omega)⟩, trivial⟩ S₁ hsp) (fun fl s' h' => ?_) fun _ _ x => x.elim
      obtain ⟨t, o', ρ', S', hf, rfl⟩ := h'
      cases fl with
      | ret v =>
        refine ⟨?_, hf⟩
        obtain ⟨m, F', _⟩ := S'
        obtain ⟨h₂, tk, rfl, _⟩ := t
        exact ⟨h₂, tk, rfl, fun b o e => F'.keep b o (Nat.ne_of_lt (Heap.lt_size e)) e⟩
      | next => exact hf.elim
      | brk => exact hf.elim
      | cont => exact hf.elim
  · cases h1


noncomputable def chkB (K : Frag) : B → Bool
  | .fn x => (fnAt K x).isSome
  | f => (nsIn K mainGlobals f.name == some none && bootBuiltins f.name == some f.val && f.name != "__name__") || nsIn K mainGlobals f.name == some (some f.val)

theorem wd_of {K : Frag} {hB : Heap} {p : Program} {loose : List Str} {mean : ExcName → Option Value} {mg mb : Str → Option Value} {us : List B} (KX : K.In hB) (T : Top p loose mean mg mb hB) (h : us.all (chkB K) = true) : Wd hB mg mb us := by
  rw [List.all_eq_true] at h
  refine ⟨T.g, T.b, T.nolimit, fun x hx => ?_, fun f hf hpl => ?_⟩
  · have := h _ hx
    simp only [chkB] at this
    obtain ⟨⟨a, fd⟩, e⟩ := Option.isSome_iff_exists.mp this
    obtain ⟨hn, ⟨o, ho, hd⟩, _⟩ := fnAt_spec e
    exact ⟨a, o, fd, mg_of KX T.g hn, KX _ _ ho, hd⟩
  · have h' := h _ hf
    have e : chkB K f = ((nsIn K mainGlobals f.name == some none && bootBuiltins f.name == some f.val && f.name != "__name__") || nsIn K mainGlobals f.name == some (some f.val)) := by
      cases f <;> first | rfl | cases hpl
    rw [e] at h'
    simp only [Bool.or_eq_true, Bool.and_eq_true, beq_iff_eq, bne_iff_ne, ne_eq] at h'
    rcases h' with ⟨⟨h1, h2⟩, h3⟩ | h1
    · exact .inl ⟨mg_none_of KX T.g h1, (T.builtins _ h3).trans h2⟩
    · exact .inr (mg_of KX T.g h1)

theorem ints_rv {h : Heap} {vs : List Value} {ns : List Int} (hi : IntsAre vs ns) : RVs h vs (ns.map .int) := by
  induction hi with
  | nil => exact RVs.nil
  | cons n t _ ih => exact RVs.cons (.int n t) ih

/-! the same functions, sealed: known by their equations alone -/
abbrev WP : Type := E → List D → (D → Prop) → Prop
abbrev WPL : Type := E → List D → (List D → Prop) → Prop
noncomputable def sl (Γ : Str → List D → D → Prop) : { t : WP × WP × WP × WPL // t = (wp0 Γ, wpAnd0 Γ, wpOr0 Γ, wpL0 Γ) } := Classical.choice ⟨⟨_, rfl⟩⟩
noncomputable def slS (Γ : Str → List D → D → Prop) : { t : S → List D → (Option D → List D → Prop) → Prop // t = wpS0 Γ } := Classical.choice ⟨⟨_, rfl⟩⟩
section
variable (Γ : Str → List D → D → Prop)
noncomputable def wp : WP := (sl Γ).1.1
noncomputable def wpAnd : WP := (sl Γ).1.2.1
noncomputable def wpOr : WP := (sl Γ).1.2.2.1
noncomputable def wpL : WPL := (sl Γ).1.2.2.2
noncomputable def wpS : S → List D → (Option D → List D → Prop) → Prop := (slS Γ).1
theorem rw1 : wp Γ = wp0 Γ := by unfold wp; rw [(sl Γ).2]
theorem rw2 : wpAnd Γ = wpAnd0 Γ := by unfold wpAnd; rw [(sl Γ).2]
theorem rw3 : wpOr Γ = wpOr0 Γ := by unfold wpOr; rw [(sl Γ).2]
theorem rw4 : wpL Γ = wpL0 Γ := by unfold wpL; rw [(sl Γ).2]
theorem rw5 : wpS Γ = wpS0 Γ := by unfold wpS; rw [(slS Γ).2]
end
section
variable {Γ : Str → List D → D → Prop} {ρ : List D} {P : D → Prop} {Q : Option D → List D → Prop} {a b c l r lo hi : E} {t e s : S} {op : Operator} {o o1 o2 : CmpOp} {i j k : Nat}
@[simp] theorem wlit {i : Int} : wp Γ (.lit i) ρ P = P (.int i) := by rw [rw1]; rfl
@[simp] theorem wbo {i : Bool} : wp Γ (.bo i) ρ P = P (.bool i) := by rw [rw1]; rfl
@[simp] theorem wvar : wp Γ (.var i) ρ P = (get ρ i ≠ .undef ∧ P (get ρ i)) := by rw [rw1]; rfl
@[simp] theorem wbin : wp Γ (.bin op a b) ρ P = wp Γ a ρ fun x => wp Γ b ρ fun y => binW op x y P := by rw [rw1]; rfl
@[simp] theorem wneg : wp Γ (.neg a) ρ P = wp Γ a ρ (intP fun i => P (.int (-i))) := by rw [rw1]; rfl
@[simp] theorem wnot : wp Γ (.not a) ρ P = wp Γ a ρ fun x => ∃ b, truth x = some b ∧ P (.bool !b) := by rw [rw1]; rfl
@[simp] theorem wcmp : wp Γ (.cmp o a b) ρ P = wp Γ a ρ fun x => wp Γ b ρ fun y => cmpW o x y fun c => P (.bool c) := by rw [rw1]; rfl
@[simp] theorem wcmp2 : wp Γ (.cmp2 a o1 b o2 c) ρ P = wp Γ a ρ fun x => wp Γ b ρ fun y => cmpW o1 x y fun t => if t = true then wp Γ c ρ fun z => cmpW o2 y z fun u => P (.bool u) else P (.bool false) := by rw [rw1]; rfl
@[simp] theorem wall : wp Γ (.all l) ρ P = wpAnd Γ l ρ P := by rw [rw1, rw2]; rfl
@[simp] theorem wany : wp Γ (.any l) ρ P = wpOr Γ l ρ P := by rw [rw1, rw3]; rfl
@[simp] theorem wite : wp Γ (.ite c a b) ρ P = wp Γ c ρ fun x => ∃ t, truth x = some t ∧ if t = true then wp Γ a ρ P else wp Γ b ρ P := by rw [rw1]; rfl
@[simp] theorem wcall {f : Str} : wp Γ (.call f l) ρ P = wpL Γ l ρ fun ds => ∃ r, Γ f ds r ∧ P r := by rw [rw1, rw4]; rfl
@[simp] theorem wbi {f : B} : wp Γ (.bi f l) ρ P = wpL Γ l ρ fun ds => biW f ds P := by rw [rw1, rw4]; rfl
@[simp] theorem wisI : wp Γ (.isI a) ρ P = wp Γ a ρ (isIP P) := by rw [rw1]; rfl
@[simp] theorem wisB : wp Γ (.isB a) ρ P = wp Γ a ρ (isBP P) := by rw [rw1]; rfl
@[simp] theorem wlst : wp Γ (.lst l) ρ P = wpL Γ l ρ fun ds => ds.length ≤ 2 ^ 20 ∧ P (.list ds) := by rw [rw1, rw4]; rfl
@[simp] theorem wtup : wp Γ (.tup l) ρ P = wpL Γ l ρ fun ds => ds.length ≤ 2 ^ 20 ∧ P (.tup ds) := by rw [rw1, rw4]; rfl
@[simp] theorem wslc : wp Γ (.slc a lo hi) ρ P = wp Γ a ρ fun x => partP lo.isNil (wp Γ lo ρ) fun i => partP hi.isNil (wp Γ hi ρ) fun j => cutP i j P x := by rw [rw1]; rfl
@[simp] theorem wand : wpAnd Γ (.cons a r) ρ P = wp Γ a ρ fun d => if r.isNil = true then P d else ∃ b, truth d = some b ∧ if b = true then wpAnd Γ r ρ P else P d := by rw [rw1, rw2]; rfl
@[simp] theorem wor : wpOr Γ (.cons a r) ρ P = wp Γ a ρ fun d => if r.isNil = true then P d else ∃ b, truth d = some b ∧ if b = true then P d else wpOr Γ r ρ P := by rw [rw1, rw3]; rfl
@[simp] theorem wnil {P : List D → Prop} : wpL Γ .nil ρ P = P [] := by rw [rw4]; rfl
@[simp] theorem wcons {P : List D → Prop} : wpL Γ (.cons a r) ρ P = wp Γ a ρ fun d => wpL Γ r ρ fun ds => P (d :: ds) := by rw [rw1, rw4]; rfl
@[simp] theorem snil : wpS Γ .nil ρ Q = Q none ρ := by rw [rw5]; rfl
@[simp] theorem sopq {x : Str} : wpS Γ (.opq x s) ρ Q = ∃ ρ', Γ x ρ (.list ρ') ∧ wpS Γ s ρ' Q := by rw [rw5]; rfl
@[simp] theorem srais : wpS Γ .rais ρ Q = False := by rw [rw5]; rfl
@[simp] theorem sret : wpS Γ (.ret a) ρ Q = wp Γ a ρ fun d => Q (some d) ρ := by rw [rw1, rw5]; rfl
@[simp] theorem sset : wpS Γ (.set i a s) ρ Q = wp Γ a ρ fun d => wpS Γ s (ρ.set i d) Q := by rw [rw1, rw5]; rfl
@[simp] theorem sset2 : wpS Γ (.set2 i j a s) ρ Q = wp Γ a ρ (t2P fun x y => wpS Γ s ((ρ.set i x).set j y) Q) := by rw [rw1, rw5]; rfl
@[simp] theorem saug : wpS Γ (.aug i op a s) ρ Q = (get ρ i ≠ .undef ∧ wp Γ a ρ fun d => augW op (get ρ i) d fun x => wpS Γ s (ρ.set i x) Q) := by rw [rw1, rw5]; rfl
@[simp] theorem site : wpS Γ (.ite a t e s) ρ Q = wp Γ a ρ fun d => ∃ b, truth d = some b ∧ if b = true then wpS Γ t ρ (onN (fun ρ' => wpS Γ s ρ' Q) Q) else wpS Γ e ρ (onN (fun ρ' => wpS Γ s ρ' Q) Q) := by rw [rw1, rw5]; rfl
theorem wp_mono' {e : E} {ρ : List D} {P P' : D → Prop} (h : wp Γ e ρ P) (hp : ∀ d, P d → P' d) : wp Γ e ρ P' := by rw [rw1] at *; exact wp_mono h hp
theorem whl_ok (I : Nat → List D → Prop) (n₀ : Nat) (h0 : I n₀ ρ)
    (h : ∀ n ρ', I n ρ' → wp Γ c ρ' fun d => ∃ t, truth d = some t ∧ if t = true then wpS Γ e ρ' (onN (fun ρ'' => ∃ m, m < n ∧ I m ρ'') Q) else wpS Γ s ρ' Q) : wpS Γ (.whl c e s) ρ Q := by
  rw [rw1, rw5] at *
  exact ⟨I, n₀, h0, h⟩
theorem forR_ok (a z c : Int) (hl : wpL Γ l ρ fun ds => ds = [.int z] ∧ a = 0 ∧ c = 1 ∨ ds = [.int a, .int z] ∧ c = 1 ∨ ds = [.int a, .int z, .int c])
    (hc : c ≠ 0) (hc2 : c.natAbs < 2 ^ 30) (hsm : Builtin.Range.small a z c = true) (I : Nat → List D → Prop) (h0 : I 0 ρ)
    (h : ∀ k ρ', k < cnt a z c → I k ρ' → wpS Γ e (ρ'.set i (.int (a + k * c))) (onN (fun ρ'' => I (k + 1) ρ'') Q)) (hr : ∀ ρ', I (cnt a z c) ρ' → wpS Γ s ρ' Q) : wpS Γ (.forR i l e s) ρ Q := by
  rw [rw4] at hl
  rw [rw5] at *
  refine (mono l).l ρ _ _ (fun ds hd => ?_) hl
  rcases hd with ⟨rfl, rfl, rfl⟩ | ⟨rfl, rfl⟩ | rfl <;> exact ⟨hc, hc2, hsm, I, h0, h, hr⟩
theorem forL_ok (ds : List D) (hl : wp Γ a ρ fun d => d = .list ds) (I : Nat → List D → Prop) (h0 : I 0 ρ)
    (h : ∀ (k : Nat) x ρ', ds[k]? = some x → I k ρ' → wpS Γ e (ρ'.set i x) (onN (fun ρ'' => I (k + 1) ρ'') Q)) (hr : ∀ ρ', I ds.length ρ' → wpS Γ s ρ' Q) : wpS Γ (.forL i a e s) ρ Q := by
  rw [rw1] at hl
  rw [rw5] at *
  refine wp_mono hl fun d hd => ?_
  subst hd
  exact ⟨I, h0, h, hr⟩
end

theorem callsTo_ok {prog : Program} {w : World} {hB : Heap} {mg mb : Str → Option Value} {us : List B} {N names : List Str} {Γ : Str → List D → D → Prop} {n : Nat} {f : Str} {a : Addr} {fd : FuncData} {K : Frag} {c : S} {ds : List D} {r : D}
    (KX : K.In hB) (W : Wd hB mg mb us) (hf : fnAt K f = some (a, fd)) (hchk : chkFn us N names c fd = true) (hG : ∀ f ds r, Γ f ds r → CallsTo prog w hB mg n f ds r)
    (hbind : ∀ (s : Shared) (vs : List Value), Kp hB s.heap → vs.length = names.length → BindsTo s fd ⟨vs, []⟩ (names.zip vs)) (hlen : ds.length = names.length)
    (hsp : wpS Γ c (ds ++ List.replicate (N.length - names.length) .undef) (fun o _ => o = some r)) : CallsTo prog w hB mg (n + 1) f ds r :=
  callsTo_of KX W hf hchk hG hbind hlen (by rw [rw5] at hsp; exact hsp)
theorem two_zip {names : List Str} {fd : FuncData} {x y : Str} (hn : names = [x, y]) (hb : ∀ a b, bindArgs fd ⟨[a, b], []⟩ = pure [(x, a), (y, b)]) (s : Shared) (vs : List Value) (hl : vs.length = names.length) : BindsTo s fd ⟨vs, []⟩ (names.zip vs) := by
  subst hn
  match vs, hl with
  | [a, b], _ => exact BindsTo.of_eq (hb a b)
theorem aok_law (env : Env) : AOk 20 (callerA.deeper env) := ⟨rfl, by show 1 + claimMargin + 1 + 20 < recursionLimit ∧ 4 + 3 + 3 * 20 + 200 < cLine; decide⟩
theorem AOk.le {n m : Nat} {A : Around} (h : AOk m A) (hn : n ≤ m) : AOk n A := ⟨h.1, by have := h.2; (first | (clear h; omega) | omega)⟩


/-! plain facts about whole numbers -/
theorem sqn (x : Int) : 0 ≤ x * x := by
  rcases Int.le_total 0 x with h | h
  · exact Int.mul_nonneg h h
  · exact Int.mul_nonneg_of_nonpos_of_nonpos h h

/-- the nearest whole number to a / b, of two as near the even one -/
noncomputable def divN (a b : Int) : Int := a.fdiv b + if 2 * a.fmod b + Builtin.bitAnd (a.fdiv b) 1 > b then 1 else 0

theorem half_hi {q r b : Int} (h4 : 0 ≤ r) (h5 : r < b) (h : 2 * r + q % 2 > b) : -b ≤ 2 * (r - b) ∧ 2 * (r - b) ≤ b ∧ (2 * (r - b) = b → (q + 1) % 2 = 0) ∧ (2 * (r - b) = -b → (q + 1) % 2 = 0) := by omega
theorem half_lo {q r b : Int} (h4 : 0 ≤ r) (h5 : r < b) (h : ¬ 2 * r + q % 2 > b) : -b ≤ 2 * r ∧ 2 * r ≤ b ∧ (2 * r = b → (q + 0) % 2 = 0) ∧ (2 * r = -b → (q + 0) % 2 = 0) := by omega
theorem divN_spec (a b : Int) (hb : 0 < b) : ∃ e, a = divN a b * b + e ∧ -b ≤ 2 * e ∧ 2 * e ≤ b ∧ (2 * e = b → divN a b % 2 = 0) ∧ (2 * e = -b → divN a b % 2 = 0) := by
  obtain ⟨h1, _, h3, _⟩ := fdiv_fmod_facts a b
  obtain ⟨h4, h5⟩ := h3 hb
  unfold divN
  rw [PyProof.Rows.bitAnd_m1]
  generalize hq : a.fdiv b = q at *
  generalize hr : a.fmod b = r at *
  clear h3 hq hr
  split
  · rename_i h
    obtain ⟨a1, a2, a3, a4⟩ := half_hi h4 h5 h
    exact ⟨r - b, by rw [← h1]; (first | (clear hb h4 h5 h1 h a1 a2 a3 a4; grind) | grind), a1, a2, a3, a4⟩
  · rename_i h
    obtain ⟨a1, a2, a3, a4⟩ := half_lo h4 h5 h
    exact ⟨r, by rw [← h1]; (first | (clear hb h4 h5 h1 h a1 a2 a3 a4; grind) | grind), a1, a2, a3, a4⟩

/-- r is the nearest root of n -/
noncomputable def IsRt (n r : Int) : Prop := 0 < r ∧ r * r - r < n ∧ n ≤ r * r + r
theorem IsRt.exists_ (n : Nat) : 0 < n → ∃ r, IsRt n r := by
  induction n with
  | zero => omega
  | succ n ih =>
    intro _
    by_cases h0 : n = 0
    · subst h0; exact ⟨1, by decide, by decide, by decide⟩
    · obtain ⟨r, h1, h2, h3⟩ := ih (by (first | (clear ih; omega) | omega))
      by_cases h : (n : Int) + 1 ≤ r * r + r
      · exact ⟨r, h1, by push_cast; (first | (clear ih h0 h1 h3 h; omega) | omega), by push_cast; (first | (clear ih h0 h1 h2 h3; omega) | omega)⟩
      · refine ⟨r + 1, by (first | (clear ih h0 h2 h3 h; omega) | omega), ?_, ?_⟩
        · push_cast; (first | (clear ih h0 h1 h2; grind) | grind)
        · push_cast; (first | (clear ih h0 h2; grind) | grind)
theorem IsRt.ex {n : Int} (h : 0 < n) : ∃ r, IsRt n r := by
  have := IsRt.exists_ n.toNat (by omega)
  have e : ((n.toNat : Nat) : Int) = n := by (first | (clear this; omega) | omega)
  rwa [e] at this
noncomputable def rt (n : Int) : Int := Classical.epsilon (IsRt n)
theorem rt_is {n : Int} (h : 0 < n) : IsRt n (rt n) := Classical.epsilon_spec (IsRt.ex h)
theorem IsRt.pos {n r : Int} (h : IsRt n r) : 0 < n := by
  obtain ⟨a, b, c⟩ := h; have := Int.mul_nonneg (show (0 : Int) ≤ r by (first | (clear b c; omega) | omega)) (show (0 : Int) ≤ r - 1 by (first | (clear b c; omega) | omega)); (first | (clear a c; grind) | grind)
theorem IsRt.le {n r : Int} (h : IsRt n r) : r ≤ n := by
  obtain ⟨a, b, c⟩ := h
  by_cases h1 : r = 1
  · subst h1; have := IsRt.pos ⟨a, b, c⟩; (first | (clear a this; omega) | omega)
  · have := Int.mul_le_mul_of_nonneg_right (show 2 ≤ r by (first | (clear b c; omega) | omega)) (show (0 : Int) ≤ r - 1 by (first | (clear b c h1; omega) | omega)); (first | (clear c; grind) | grind)

/-- one step of the root's loop -/
noncomputable def stp (n a : Int) : Int := (a - (-n).fdiv a).fdiv (2 ^ (1 : Int).toNat)
theorem stp_facts {n a : Int} (ha : 0 < a) (hn : 0 < n) : ∃ c, n ≤ c * a ∧ c * a < n + a ∧ 0 < c ∧ 2 * stp n a ≤ a + c ∧ a + c ≤ 2 * stp n a + 1 := by
  obtain ⟨h1, _, h3, _⟩ := fdiv_fmod_facts (-n) a
  obtain ⟨h4, h5⟩ := h3 ha
  obtain ⟨g1, _, g3, _⟩ := fdiv_fmod_facts (a - (-n).fdiv a) 2
  have e2 : (2 : Int) ^ (1 : Int).toNat = 2 := by decide
  unfold stp
  rw [e2]
  obtain ⟨g4, g5⟩ := g3 (by (first | (clear ha hn h1 h3 h4 h5 g1 g3 e2; omega) | omega))
  generalize (-n).fdiv a = q at *
  generalize (-n).fmod a = r at *
  generalize (a - q).fdiv 2 = t at *
  generalize (a - q).fmod 2 = u at *
  refine ⟨-q, by (first | (clear hn e2 h4 h5 g3 g4 g5 g1; grind) | grind), by (first | (clear hn e2 h4 h5 g3 g4 g5 g1; grind) | grind), ?_, by (first | (clear ha hn e2 h3 h4 h5 h1 g3; omega) | omega), by (first | (clear ha hn e2 h3 h4 h5 h1 g3; omega) | omega)⟩
  refine Int.not_le.mp fun hc => ?_
  have : 0 ≤ q * a := Int.mul_nonneg (by (first | (clear ha hn e2 h3 h4 h5 h1 g3 g4 g5 g1; omega) | omega)) (by first | with_reducible assumption | with_reducible exact Int.le_of_lt (by assumption) | with_reducible exact Nat.le_of_lt (by assumption) | with_reducible exact qz1 (by assumption) | with_reducible exact qz2 (by assumption) | with_reducible exact qz3 (by assumption) | with_reducible exact qz4 (by assumption) | with_reducible exact qz5 (by assumption) | with_reducible exact qz6 (by assumption) | with_reducible exact qz7 (by assumption) | with_reducible exact qz8 (by assumption) | with_reducible exact qz9 (by assumption) | with_reducible exact qza (by assumption) | with_reducible exact qzb (by assumption) | with_reducible exact qzc | with_reducible exact qzd | with_reducible exact qze | omega)
  (first | (clear ha e2 h3 h5 g3 g4 g5 g1 hc; omega) | omega)
theorem stp_ge {n a r : Int} (ha : 0 < a) (h : IsRt n r) : r ≤ stp n a := by
  obtain ⟨c, h1, h2, h3, h4, h5⟩ := stp_facts ha h.pos
  obtain ⟨r1, r2, r3⟩ := h
  have hs := sqn (a - c)
  have hh : 2 * r ≤ a + c := by
    refine Int.not_lt.mp fun hlt => ?_
    have h6 : (a + c) * (a + c) ≤ (2 * r - 1) * (2 * r - 1) := Int.mul_le_mul (by (first | (clear ha h1 h2 h3 h4 h5 r1 r2 r3 hs; omega) | omega)) (by (first | (clear ha h1 h2 h3 h4 h5 r1 r2 r3 hs; omega) | omega)) (by (first | (clear ha r1 r2 r3 hs hlt; omega) | omega)) (by (first | (clear ha h1 h2 h3 h4 h5 r2 r3 hs hlt; omega) | omega))
    (first | (clear ha h2 h3 h4 h5 r1 r3 hlt; grind) | grind)
  (first | (clear ha h1 h2 h3 r1 r2 r3 hs; omega) | omega)
theorem stp_lt {n a r : Int} (h : IsRt n r) (ha : r < a) : stp n a < a := by
  obtain ⟨c, h1, h2, h3, h4, h5⟩ := stp_facts (n := n) (a := a) (by have := h.1; (first | (clear h; omega) | omega)) h.pos
  obtain ⟨r1, r2, r3⟩ := h
  have h6 : (r + 1) * a ≤ a * a := Int.mul_le_mul_of_nonneg_right (by (first | (clear h1 h2 h3 h4 h5 r1 r2 r3; omega) | omega)) (by (first | (clear h1 h2 h3 h4 h5 r2 r3; omega) | omega))
  have h7 : r * (r + 1) ≤ r * a := Int.mul_le_mul_of_nonneg_left (by (first | (clear h1 h2 h3 h4 h5 r1 r2 r3 h6; omega) | omega)) (by first | with_reducible assumption | with_reducible exact Int.le_of_lt (by assumption) | with_reducible exact Nat.le_of_lt (by assumption) | with_reducible exact qz1 (by assumption) | with_reducible exact qz2 (by assumption) | with_reducible exact qz3 (by assumption) | with_reducible exact qz4 (by assumption) | with_reducible exact qz5 (by assumption) | with_reducible exact qz6 (by assumption) | with_reducible exact qz7 (by assumption) | with_reducible exact qz8 (by assumption) | with_reducible exact qz9 (by assumption) | with_reducible exact qza (by assumption) | with_reducible exact qzb (by assumption) | with_reducible exact qzc | with_reducible exact qzd | with_reducible exact qze | omega)
  have h8 : c < r + 1 := by
    refine Int.not_le.mp fun hle => ?_
    have : (r + 1) * a ≤ c * a := Int.mul_le_mul_of_nonneg_right hle (by (first | (clear h1 h2 h3 h4 h5 r2 r3 h6 h7 hle; omega) | omega))
    (first | (clear ha h1 h3 h4 h5 r1 r2 h6 hle; grind) | grind)
  (first | (clear h1 h2 h3 r1 r2 r3 h6 h7; omega) | omega)
theorem stp_fix {n r : Int} (h : IsRt n r) : stp n r = r := by
  have hge := stp_ge h.1 h
  obtain ⟨c, h1, h2, h3, h4, h5⟩ := stp_facts h.1 h.pos
  obtain ⟨r1, r2, r3⟩ := h
  have h8 : c < r + 2 := by
    refine Int.not_le.mp fun hle => ?_
    have : (r + 2) * r ≤ c * r := Int.mul_le_mul_of_nonneg_right hle (by first | with_reducible assumption | with_reducible exact Int.le_of_lt (by assumption) | with_reducible exact Nat.le_of_lt (by assumption) | with_reducible exact qz1 (by assumption) | with_reducible exact qz2 (by assumption) | with_reducible exact qz3 (by assumption) | with_reducible exact qz4 (by assumption) | with_reducible exact qz5 (by assumption) | with_reducible exact qz6 (by assumption) | with_reducible exact qz7 (by assumption) | with_reducible exact qz8 (by assumption) | with_reducible exact qz9 (by assumption) | with_reducible exact qza (by assumption) | with_reducible exact qzb (by assumption) | with_reducible exact qzc | with_reducible exact qzd | with_reducible exact qze | omega)
    (first | (clear hge h1 h3 h4 h5 r1 r2 hle; grind) | grind)
  (first | (clear h1 h2 h3 r1 r2 r3; omega) | omega)
theorem stp_le {n a : Int} (ha : 0 < a) (hn : 0 < n) : stp n a ≤ a ∨ stp n a ≤ n := by
  obtain ⟨r, hr⟩ := IsRt.ex hn
  rcases Int.lt_trichotomy a r with h | h | h
  · right
    obtain ⟨c, h1, h2, h3, h4, h5⟩ := stp_facts ha hn
    have hc : c ≤ n := by
      refine Int.not_lt.mp fun hlt => ?_
      have := Int.mul_le_mul_of_nonneg_right (show n + 1 ≤ c by (first | (clear ha hn hr h h1 h2 h3 h4 h5; omega) | omega)) (show (0 : Int) ≤ a by (first | (clear hn hr h h1 h2 h3 h4 h5 hlt; omega) | omega))
      have h10 := Int.mul_le_mul_of_nonneg_left (show 1 ≤ a by (first | (clear hn hr h h1 h2 h3 h4 h5 hlt this; omega) | omega)) (show (0 : Int) ≤ n by (first | (clear ha hr h h1 h2 h3 h4 h5 hlt this; omega) | omega))
      (first | (clear ha hn hr h h1 h3 h4 h5 hlt; grind) | grind)
    have := hr.le
    (first | (clear ha hn hr h1 h2 h3; omega) | omega)
  · left; subst h; rw [stp_fix hr]; (first | (clear ha hn hr; omega) | omega)
  · left; have := stp_lt hr h; (first | (clear ha hn hr h; omega) | omega)


/-- small enough to be a factor -/
noncomputable def Sm (a : Int) : Prop := Builtin.Int.intBits a ≤ 60000000
theorem Sm.mul {a b : Int} (ha : Sm a) (hb : Sm b) : IntMulOk a b := mulOk_of_bits ha hb (by decide)
theorem Sm.of {a : Int} (k : Nat) (h : a.natAbs < 2 ^ k) (hk : k ≤ 60000000 := by decide) : Sm a := Nat.le_trans (intBits_le h) hk
theorem lg {b : Int} (k : Nat) (h : b.natAbs < 2 ^ k) (hk : k ≤ 9000 := by decide) : b.natAbs.log2 < 9000 := by
  by_cases h0 : b.natAbs = 0
  · rw [h0]; decide
  · exact Nat.lt_of_lt_of_le ((Nat.log2_lt h0).mpr h) hk
theorem mul2 {a : Int} : IntMulOk 2 a := .of_left (by decide)
theorem bigger {x : Nat} (k m : Nat) (h : x < 2 ^ k) (hk : k ≤ m := by decide) : x < 2 ^ m := Nat.lt_of_lt_of_le h (Nat.pow_le_pow_right (by decide) hk)

noncomputable def n_sqrtnearest : List Str := ["n", "a", "b"]
noncomputable def p_sqrtnearest : List Str := ["n", "a"]
noncomputable def u_sqrtnearest : List B := []
noncomputable def s_sqrtnearest_1b : S :=
  (.set2 2 1 (.tup (.cons (.var 1) (.cons (.bin .RShift (.bin .Sub (.var 1) (.bin .FloorDiv (.neg (.var 0)) (.var 1))) (.lit 1)) .nil)))
  .nil)
noncomputable def s_sqrtnearest_1r : S :=
  (.ret (.var 1))
noncomputable def s_sqrtnearest_1 : S := .whl (.cmp .NotEq (.var 1) (.var 2)) s_sqrtnearest_1b s_sqrtnearest_1r
noncomputable def s_sqrtnearest : S :=
  (.ite (.any (.cons (.cmp .LtE (.var 0) (.lit 0)) (.cons (.cmp .LtE (.var 1) (.lit 0)) .nil)))
    .rais
    .nil
  (.set 2 (.lit 0)
  s_sqrtnearest_1))

noncomputable def n_divnearest : List Str := ["a", "b", "q", "r"]
noncomputable def p_divnearest : List Str := ["a", "b"]
noncomputable def u_divnearest : List B := [.divmod]
noncomputable def s_divnearest : S :=
  (.set2 2 3 (.bi .divmod (.cons (.var 0) (.cons (.var 1) .nil)))
  (.ret (.bin .Add (.var 2) (.cmp .Gt (.bin .Add (.bin .Mult (.lit 2) (.var 3)) (.bin .BitAnd (.var 2) (.lit 1))) (.var 1)))))

theorem div_body {Γ : Str → List D → D → Prop} (a b : Int) (hb : 0 < b) (hs : b.natAbs.log2 < 9000) :
    wpS Γ s_divnearest [.int a, .int b, .undef, .undef] (fun o _ => o = some (.int (divN a b))) := by
  have hb0 : b ≠ 0 := by (first | (clear hs; omega) | omega)
  simp [s_divnearest, hb0, hs, mul2, divN]

theorem sqrt_loop {Γ : Str → List D → D → Prop} (n a r : Int) (hr : IsRt n r) (ha : 0 < a) (hn' : n.natAbs < 2 ^ 9000) (ha' : a.natAbs < 2 ^ 9000) :
    wpS Γ s_sqrtnearest_1 [.int n, .int a, .int 0] (fun o _ => o = some (.int r)) := by
  have hn := hr.pos
  refine whl_ok (fun k ρ => ∃ a b, ρ = [.int n, .int a, .int b] ∧ 0 < a ∧ a.natAbs < 2 ^ 9000 ∧
    ((b = 0 ∧ k = 2 * (stp n a - r).toNat + 2) ∨ (0 < b ∧ a = stp n b ∧ r ≤ a ∧ k = 2 * (a - r).toNat + if a = b then 0 else 1))) _ ⟨a, 0, rfl, ha, ha', .inl ⟨rfl, rfl⟩⟩ ?_
  rintro k ρ ⟨a, b, rfl, ha, ha', hk⟩
  have ha0 : a ≠ 0 := by (first | (clear hr hn' hn ha' hk; omega) | omega)
  by_cases hab : a = b
  · subst hab
    rcases hk with ⟨h0, _⟩ | ⟨_, h1, h2, _⟩
    · (first | (clear hr hn' hn ha' ha0; omega) | omega)
    · have : a = r := by
        refine Int.le_antisymm (Int.not_lt.mp fun hlt => ?_) h2
        have := stp_lt hr hlt
        (first | (clear hr hn' hn ha ha' ha0 h2 hlt; omega) | omega)
      subst this
      simp [s_sqrtnearest_1r]
  · have hs : (-n).fdiv a = (-n).fdiv a := rfl
    have e : (a - (-n).fdiv a).fdiv (2 ^ (1 : Int).toNat) = stp n a := rfl
    have hge := stp_ge ha hr
    have hb' : (stp n a).natAbs < 2 ^ 9000 := by
      have hpos : 0 < stp n a := by have := hr.1; (first | (clear hr hn' hn ha ha' hk ha0 hab hs e; omega) | omega)
      rcases stp_le ha hn with h | h
      · exact Nat.lt_of_le_of_lt (by (first | (clear hr hn' hn ha' hs e; omega) | omega)) ha'
      · exact Nat.lt_of_le_of_lt (by (first | (clear hr hn' ha' hs e hge; omega) | omega)) hn'
    have hlg : a.natAbs.log2 < 9000 := lg 9000 ha'
    simp only [wlit, wbo, wvar, wbin, wneg, wnot, wcmp, wcmp2, wall, wany, wite, wcall, wbi, wisI, wisB, wlst, wtup, wslc, wand, wor, wnil, wcons, snil, sopq, srais, sret, sset, sset2, saug, site, Mine.get, binW_c_Add, binW_c_Sub, binW_c_Mult, binW_c_FloorDiv, binW_c_Mod, binW_c_Pow, binW_c_LShift, binW_c_RShift, binW_c_BitAnd, cmpW_c_Eq, cmpW_c_NotEq, cmpW_c_Lt, cmpW_c_LtE, cmpW_c_Gt, cmpW_c_GtE, biW_c_abs, biW_c_max, biW_c_int, biW_c_len, biW_c_str, biW_c_divmod, biW_c_list, biW_c_nbits, truth_c_undef, truth_c_none, truth_c_int, truth_c_bool, truth_c_str, truth_c_list, truth_c_tup, truth_c_obj, isBP, isIP, intP_c_undef, intP_c_none, intP_c_int, intP_c_bool, intP_c_str, intP_c_list, intP_c_tup, intP_c_obj, Mine.ii, ibP_c_undef, ibP_c_none, ibP_c_int, ibP_c_bool, ibP_c_str, ibP_c_list, ibP_c_tup, ibP_c_obj, ilP_c_undef, ilP_c_none, ilP_c_int, ilP_c_bool, ilP_c_str, ilP_c_list, ilP_c_tup, ilP_c_obj, slP_c_undef, slP_c_none, slP_c_int, slP_c_bool, slP_c_str, slP_c_list, slP_c_tup, slP_c_obj, tlP_c_undef, tlP_c_none, tlP_c_int, tlP_c_bool, tlP_c_str, tlP_c_list, tlP_c_tup, tlP_c_obj, lP_c_undef, lP_c_none, lP_c_int, lP_c_bool, lP_c_str, lP_c_list, lP_c_tup, lP_c_obj, tP_c_undef, tP_c_none, tP_c_int, tP_c_bool, tP_c_str, tP_c_list, tP_c_tup, tP_c_obj, Mine.l1, Mine.l2, Mine.l3, t2P, t3P, augW_c_Add, augW_c_Sub, augW_c_Mult, augW_c_FloorDiv, Mine.onN, cutP, partP, E.isNil, List.isEmpty_nil, List.isEmpty_cons, List.set, ne_eq, reduceCtorEq, not_false_eq_true, true_and, and_true, if_true, if_false, Bool.false_eq_true, Option.some.injEq, exists_eq_left', Bool.not_true, Bool.not_false]
    rw [if_pos (by simp [hab])]
    unfold s_sqrtnearest_1b
    simp only [wlit, wbo, wvar, wbin, wneg, wnot, wcmp, wcmp2, wall, wany, wite, wcall, wbi, wisI, wisB, wlst, wtup, wslc, wand, wor, wnil, wcons, snil, sopq, srais, sret, sset, sset2, saug, site, Mine.get, binW_c_Add, binW_c_Sub, binW_c_Mult, binW_c_FloorDiv, binW_c_Mod, binW_c_Pow, binW_c_LShift, binW_c_RShift, binW_c_BitAnd, cmpW_c_Eq, cmpW_c_NotEq, cmpW_c_Lt, cmpW_c_LtE, cmpW_c_Gt, cmpW_c_GtE, biW_c_abs, biW_c_max, biW_c_int, biW_c_len, biW_c_str, biW_c_divmod, biW_c_list, biW_c_nbits, truth_c_undef, truth_c_none, truth_c_int, truth_c_bool, truth_c_str, truth_c_list, truth_c_tup, truth_c_obj, isBP, isIP, intP_c_undef, intP_c_none, intP_c_int, intP_c_bool, intP_c_str, intP_c_list, intP_c_tup, intP_c_obj, Mine.ii, ibP_c_undef, ibP_c_none, ibP_c_int, ibP_c_bool, ibP_c_str, ibP_c_list, ibP_c_tup, ibP_c_obj, ilP_c_undef, ilP_c_none, ilP_c_int, ilP_c_bool, ilP_c_str, ilP_c_list, ilP_c_tup, ilP_c_obj, slP_c_undef, slP_c_none, slP_c_int, slP_c_bool, slP_c_str, slP_c_list, slP_c_tup, slP_c_obj, tlP_c_undef, tlP_c_none, tlP_c_int, tlP_c_bool, tlP_c_str, tlP_c_list, tlP_c_tup, tlP_c_obj, lP_c_undef, lP_c_none, lP_c_int, lP_c_bool, lP_c_str, lP_c_list, lP_c_tup, lP_c_obj, tP_c_undef, tP_c_none, tP_c_int, tP_c_bool, tP_c_str, tP_c_list, tP_c_tup, tP_c_obj, Mine.l1, Mine.l2, Mine.l3, t2P, t3P, augW_c_Add, augW_c_Sub, augW_c_Mult, augW_c_FloorDiv, Mine.onN, cutP, partP, E.isNil, List.isEmpty_nil, List.isEmpty_cons, List.set, ne_eq, reduceCtorEq, not_false_eq_true, true_and, and_true, if_true, if_false, Bool.false_eq_true, Option.some.injEq, exists_eq_left', Bool.not_true, Bool.not_false]
    rw [e]
    refine ⟨ha0, hlg, by decide, by show (2 : Nat) ≤ 2 ^ 20; decide, ?_⟩
    refine ⟨2 * (stp n a - r).toNat + (if stp n a = a then 0 else 1), ?_, stp n a, a, rfl, by have := hr.1; (first | (clear hr hn' hn ha ha' hk ha0 hab hs e hb' hlg; omega) | omega), hb', .inr ⟨ha, rfl, hge, rfl⟩⟩
    rcases hk with ⟨_, hk⟩ | ⟨_, h1, h2, hk⟩
    · subst hk; split <;> (first | (clear hr hn' hn ha ha' ha0 hab hs e hge hb' hlg; omega) | omega)
    · rw [if_neg hab] at hk
      subst hk
      by_cases har : a = r
      · rw [har, stp_fix hr, if_pos rfl]; (first | (clear hr hn' hn ha ha' ha0 hab hs e hge hb' hlg h1 h2 har; omega) | omega)
      · have := stp_lt hr (show r < a by (first | (clear hr hn' hn ha ha' ha0 hab hs e hge hb' hlg; omega) | omega))
        split <;> (first | (clear hr hn' hn ha ha' ha0 hab hs e hb' hlg har; omega) | omega)

theorem sqrt_body {Γ : Str → List D → D → Prop} (n a : Int) (hn : 0 < n) (ha : 0 < a) (hn' : n.natAbs < 2 ^ 9000) (ha' : a.natAbs < 2 ^ 9000) :
    wpS Γ s_sqrtnearest [.int n, .int a, .undef] (fun o _ => o = some (.int (rt n))) := by
  have h1 : ¬ n ≤ 0 := by (first | (clear ha hn' ha'; omega) | omega)
  have h2 : ¬ a ≤ 0 := by (first | (clear hn hn' ha' h1; omega) | omega)
  simp [s_sqrtnearest, h1, h2]
  exact ⟨hn, ha, sqrt_loop n a _ (rt_is hn) ha hn' ha'⟩


theorem cut_to (l : List D) (k : Nat) : cut l none (some (k : Int)) = l.take k := by
  unfold cut
  simp only [Option.elim, clipAt_nat, List.drop_zero, Nat.sub_zero]
  rw [List.take_eq_take_iff]; omega
theorem cut_from (l : List D) (k : Nat) : cut l (some (k : Int)) none = l.drop k := by
  unfold cut
  simp only [Option.elim, clipAt_nat]
  rw [List.take_of_length_le (by simp)]
  by_cases h : k ≤ l.length
  · rw [Nat.min_eq_left h]
  · rw [Nat.min_eq_right (by omega), List.drop_length, List.drop_of_length_le (by omega)]
theorem small_gen {a z c : Int} (ha : -(2 ^ 60) ≤ a) (ha' : a ≤ 2 ^ 60) (hz : -(2 ^ 60) ≤ z) (hz' : z ≤ 2 ^ 60) (hc : c ≠ 0) (hc2 : c.natAbs < 2 ^ 30) : Builtin.Range.small a z c = true := by
  have hs : Builtin.Range.rangeSize a z c ≤ 2 ^ 62 := by
    unfold Builtin.Range.rangeSize
    split
    · split
      · have := Int.ediv_le_self (a := z - a - 1) c (by (first | (clear ha ha' hz hz' hc hc2; omega) | omega))
        (first | (clear hc hc2; omega) | omega)
      · decide
    · split
      · have := Int.ediv_le_self (a := a - z - 1) (-c) (by (first | (clear ha ha' hz hz' hc hc2; omega) | omega))
        (first | (clear hc hc2; omega) | omega)
      · decide
  have hs0 := rangeSize_nonneg a z c
  unfold Builtin.Range.small Builtin.Range.rangeFitsLong
  generalize Builtin.Range.rangeSize a z c = q at *
  simp only [Bool.and_eq_true, Bool.or_eq_true, decide_eq_true_eq, beq_iff_eq]
  refine ⟨⟨⟨⟨by (first | (clear hz hz' hc hc2 hs hs0; omega) | omega), by (first | (clear ha ha' hc hc2 hs hs0; omega) | omega)⟩, by (first | (clear ha ha' hz hz' hc hs hs0; omega) | omega)⟩, by (first | (clear ha ha' hz hz' hc hc2; omega) | omega)⟩, .inr ?_⟩
  split <;> simp only [Bool.and_eq_true, decide_eq_true_eq] <;> (first | (clear ha ha' hc hs hs0; omega) | omega)
theorem ipow_le {c : Int} (hc : 1 ≤ c) {a b : Nat} (h : a ≤ b) : c ^ a ≤ c ^ b := by
  obtain ⟨d, rfl⟩ := Nat.exists_eq_add_of_le h
  rw [Int.pow_add]
  have h1 : 0 < c ^ a := Int.pow_pos (by (first | (clear h; omega) | omega))
  have h2 : 0 < c ^ d := Int.pow_pos (by (first | (clear h h1; omega) | omega))
  have := Int.mul_le_mul_of_nonneg_left (show 1 ≤ c ^ d by (first | (clear hc h h1; omega) | omega)) (show 0 ≤ c ^ a by first | with_reducible assumption | with_reducible exact Int.le_of_lt (by assumption) | with_reducible exact Nat.le_of_lt (by assumption) | with_reducible exact qz1 (by assumption) | with_reducible exact qz2 (by assumption) | with_reducible exact qz3 (by assumption) | with_reducible exact qz4 (by assumption) | with_reducible exact qz5 (by assumption) | with_reducible exact qz6 (by assumption) | with_reducible exact qz7 (by assumption) | with_reducible exact qz8 (by assumption) | with_reducible exact qz9 (by assumption) | with_reducible exact qza (by assumption) | with_reducible exact qzb (by assumption) | with_reducible exact qzc | with_reducible exact qzd | with_reducible exact qze | omega)
  (first | (clear hc h h1 h2; omega) | omega)
/-! what _iexp computes -/
noncomputable def figs (M : Int) : Nat := (Str.ofString (toString M)).length
theorem figs_of {c e : Nat} (h1 : 10 ^ e ≤ c) (h2 : c < 10 ^ (e + 1)) : figs (c : Int) = e + 1 := by
  unfold figs
  have : Str.ofString (toString (c : Int)) = ⟨((Nat.toDigits 10 c).map Char.toNat).toArray⟩ := text_ofNat c
  rw [this]
  show (((Nat.toDigits 10 c).map Char.toNat).toArray).size = e + 1
  rw [List.size_toArray, List.length_map]
  exact Nat.le_antisymm (digits10_le (by (first | (clear h1 h2 this; omega) | omega)) h2) (digits10_ge h1)
theorem pow10_ex (c : Nat) (hc : 0 < c) : ∃ e, 10 ^ e ≤ c ∧ c < 10 ^ (e + 1) := by
  induction c using Nat.strongRecOn with
  | _ c ih =>
    by_cases h : c < 10
    · exact ⟨0, by simp; (first | (clear ih; omega) | omega), by simpa using h⟩
    · obtain ⟨e, h1, h2⟩ := ih (c / 10) (by (first | (clear ih hc; omega) | omega)) (by (first | (clear ih hc; omega) | omega))
      refine ⟨e + 1, ?_, ?_⟩
      · rw [Nat.pow_succ]; (first | (clear ih hc h h2; omega) | omega)
      · rw [Nat.pow_succ]; (first | (clear ih hc h h1; omega) | omega)
theorem figs_ex {M : Int} (hM : 0 < M) : ∃ e : Nat, figs M = e + 1 ∧ (10 : Int) ^ e ≤ M ∧ M < 10 ^ (e + 1) := by
  obtain ⟨c, rfl⟩ := Int.eq_ofNat_of_zero_le (show 0 ≤ M by first | with_reducible assumption | with_reducible exact Int.le_of_lt (by assumption) | with_reducible exact Nat.le_of_lt (by assumption) | with_reducible exact qz1 (by assumption) | with_reducible exact qz2 (by assumption) | with_reducible exact qz3 (by assumption) | with_reducible exact qz4 (by assumption) | with_reducible exact qz5 (by assumption) | with_reducible exact qz6 (by assumption) | with_reducible exact qz7 (by assumption) | with_reducible exact qz8 (by assumption) | with_reducible exact qz9 (by assumption) | with_reducible exact qza (by assumption) | with_reducible exact qzb (by assumption) | with_reducible exact qzc | with_reducible exact qzd | with_reducible exact qze | omega)
  obtain ⟨e, h1, h2⟩ := pow10_ex c (by omega)
  refine ⟨e, figs_of h1 h2, ?_, ?_⟩
  · exact_mod_cast h1
  · exact_mod_cast h2
theorem figs_le {M : Int} {k : Nat} (hM : 0 < M) (h : M < 10 ^ k) : figs M ≤ k := by
  obtain ⟨e, h1, h2, _⟩ := figs_ex hM
  rw [h1]
  refine Nat.not_lt.mp fun hlt => ?_
  have : (10 : Int) ^ k ≤ 10 ^ e := ipow_le (by decide) (by (first | (clear hM h h1 h2; omega) | omega))
  (first | (clear hM h1 hlt; omega) | omega)

noncomputable def nR (x M L : Int) : Nat := Builtin.Int.intBits ((x * 2 ^ L.toNat).fdiv M)
noncomputable def nT (M L : Int) : Int := -((-10 * (figs M : Int)).fdiv (3 * L))
noncomputable def ser (x S : Int) : Nat → Int → Int
  | 0, y => y
  | n + 1, y => ser x S n (divN (x * (S + y)) (S * ((n : Int) + 1)))
noncomputable def dbl (M : Int) : Nat → Int → Int
  | 0, y => y
  | n + 1, y => dbl M n (divN (y * (y + M * 2 ^ (n + 2))) (M * 2 ^ (n + 2)))
noncomputable def iexp (x M L : Int) : Int := M + dbl M (nR x M L) (ser x (M * 2 ^ nR x M L) (nT M L - 1).toNat (divN x (nT M L)))

theorem p2pos (n : Nat) : (0 : Int) < 2 ^ n := Int.pow_pos (by decide)

theorem nT_facts {M L : Int} (hM : 0 < M) (hL : 1 ≤ L) : 1 ≤ nT M L ∧ 10 * (figs M : Int) ≤ nT M L * (3 * L) ∧ (nT M L - 1) * (3 * L) < 10 * (figs M : Int) := by
  obtain ⟨h1, _, h3, _⟩ := fdiv_fmod_facts (-10 * (figs M : Int)) (3 * L)
  obtain ⟨h4, h5⟩ := h3 (by (first | (clear hM h1 h3; omega) | omega))
  obtain ⟨e, he, _, _⟩ := figs_ex hM
  unfold nT
  generalize (-10 * (figs M : Int)).fdiv (3 * L) = q at *
  generalize (-10 * (figs M : Int)).fmod (3 * L) = r at *
  have hq : -q * (3 * L) = 10 * (figs M : Int) + r := by (first | (clear hM hL h3 h4 h5; grind) | grind)
  refine ⟨?_, by (first | (clear hM hL h3 h5; omega) | omega), by (first | (clear hM h4 h5 hq; grind) | grind)⟩
  refine Int.not_lt.mp fun hlt => ?_
  have : -q * (3 * L) ≤ 0 := Int.mul_nonpos_of_nonpos_of_nonneg (by (first | (clear hM hL he h3 h4 h5 h1 hq; omega) | omega)) (by (first | (clear hM he h3 h4 h5 h1 hq hlt; omega) | omega))
  (first | (clear hM hL h3 h5 hlt; omega) | omega)
theorem nT_le {M L : Int} {k : Nat} (hM : 0 < M) (hL : 1 ≤ L) (hk : M < 10 ^ k) : nT M L ≤ 4 * k + 1 := by
  obtain ⟨h1, h2, h3⟩ := nT_facts hM hL
  have := figs_le hM hk
  have h4 : (nT M L - 1) * 3 ≤ (nT M L - 1) * (3 * L) := Int.mul_le_mul_of_nonneg_left (by (first | (clear hM hk h1 h2 h3 this; omega) | omega)) (by (first | (clear hM hL hk h2 h3 this; omega) | omega))
  (first | (clear hM hL hk h1 h2; omega) | omega)

/-- the doublings' number: from where on the scale is great enough -/
theorem nR_facts {x M L : Int} (hM : 0 < M) :
    x.natAbs * 2 ^ L.toNat + (if x < 0 then M else 1) ≤ M * 2 ^ nR x M L ∧ ∀ j < nR x M L, M * 2 ^ j < x.natAbs * 2 ^ L.toNat + (if x < 0 then M else 1) := by
  obtain ⟨h1, _, h3, _⟩ := fdiv_fmod_facts (x * 2 ^ L.toNat) M
  obtain ⟨h4, h5⟩ := h3 hM
  have hp := p2pos L.toNat
  have hr : ∀ m, nR x M L ≤ m ↔ ((x * 2 ^ L.toNat).fdiv M).natAbs < 2 ^ m := fun m => intBits_le_iff
  have key : ∀ m : Nat, ((x * 2 ^ L.toNat).fdiv M).natAbs < 2 ^ m ↔ x.natAbs * 2 ^ L.toNat + (if x < 0 then M else 1) ≤ M * 2 ^ m := by
    intro m
    generalize (x * 2 ^ L.toNat).fdiv M = q at *
    generalize (x * 2 ^ L.toNat).fmod M = r at *
    generalize (2 : Int) ^ L.toNat = p at *
    have e2 : ((2 ^ m : Nat) : Int) = 2 ^ m := by norm_cast
    have hlt : q.natAbs < 2 ^ m ↔ (q.natAbs : Int) < 2 ^ m := by rw [← e2]; (first | (clear hM hr h3 h4 h5 hp h1; omega) | omega)
    rw [hlt]
    have hpm := p2pos m
    generalize (2 : Int) ^ m = P at *
    by_cases hx : x < 0
    · rw [if_pos hx]
      have e1 : (x.natAbs : Int) = -x := by (first | (clear hM hr h3 h4 h5 hp h1 e2 hlt hpm; omega) | omega)
      rw [e1]
      have hq : q ≤ 0 := by
        refine Int.not_lt.mp fun hlt => ?_
        have : 0 < q * M := Int.mul_pos hlt hM
        have : x * p < 0 := Int.mul_neg_of_neg_of_pos hx hp
        (first | (clear hM hr h3 h5 hp e2 hpm hx e1 hlt; omega) | omega)
      have e3 : (q.natAbs : Int) = -q := by (first | (clear hM hr h3 h4 h5 hp h1 e2 hlt hpm hx e1; omega) | omega)
      rw [e3]
      have e4 : -x * p = -q * M - r := by (first | (clear hM hr h3 h4 h5 hp e2 hlt hpm hx e1 hq e3; grind) | grind)
      rw [e4]
      constructor
      · intro h
        have : (-q + 1) * M ≤ P * M := Int.mul_le_mul_of_nonneg_right (by (first | (clear hM hr h3 h4 h5 hp h1 e2 hlt hpm hx e1 hq e4; omega) | omega)) (by first | with_reducible assumption | with_reducible exact Int.le_of_lt (by assumption) | with_reducible exact Nat.le_of_lt (by assumption) | with_reducible exact qz1 (by assumption) | with_reducible exact qz2 (by assumption) | with_reducible exact qz3 (by assumption) | with_reducible exact qz4 (by assumption) | with_reducible exact qz5 (by assumption) | with_reducible exact qz6 (by assumption) | with_reducible exact qz7 (by assumption) | with_reducible exact qz8 (by assumption) | with_reducible exact qz9 (by assumption) | with_reducible exact qza (by assumption) | with_reducible exact qzb (by assumption) | with_reducible exact qzc | with_reducible exact qzd | with_reducible exact qze | omega)
        (first | (clear hr h4 h5 hp e2 hlt hpm hx e1 hq e3 e4 h; grind) | grind)
      · intro h
        refine Int.not_le.mp fun hle => ?_
        have : P * M ≤ -q * M := Int.mul_le_mul_of_nonneg_right hle (by first | with_reducible assumption | with_reducible exact Int.le_of_lt (by assumption) | with_reducible exact Nat.le_of_lt (by assumption) | with_reducible exact qz1 (by assumption) | with_reducible exact qz2 (by assumption) | with_reducible exact qz3 (by assumption) | with_reducible exact qz4 (by assumption) | with_reducible exact qz5 (by assumption) | with_reducible exact qz6 (by assumption) | with_reducible exact qz7 (by assumption) | with_reducible exact qz8 (by assumption) | with_reducible exact qz9 (by assumption) | with_reducible exact qza (by assumption) | with_reducible exact qzb (by assumption) | with_reducible exact qzc | with_reducible exact qzd | with_reducible exact qze | omega)
        (first | (clear hr h4 h5 hp e2 hlt hpm hx e1 hq e3 e4 hle; grind) | grind)
    · rw [if_neg hx]
      have e1 : (x.natAbs : Int) = x := by (first | (clear hM hr h3 h4 h5 hp h1 e2 hlt hpm; omega) | omega)
      rw [e1]
      have hq : 0 ≤ q := by
        refine Int.not_lt.mp fun hlt => ?_
        have : (q + 1) * M ≤ 0 := Int.mul_nonpos_of_nonpos_of_nonneg (by (first | (clear hM hr h3 h4 h5 hp h1 e2 hpm hx e1; omega) | omega)) (by first | with_reducible assumption | with_reducible exact Int.le_of_lt (by assumption) | with_reducible exact Nat.le_of_lt (by assumption) | with_reducible exact qz1 (by assumption) | with_reducible exact qz2 (by assumption) | with_reducible exact qz3 (by assumption) | with_reducible exact qz4 (by assumption) | with_reducible exact qz5 (by assumption) | with_reducible exact qz6 (by assumption) | with_reducible exact qz7 (by assumption) | with_reducible exact qz8 (by assumption) | with_reducible exact qz9 (by assumption) | with_reducible exact qza (by assumption) | with_reducible exact qzb (by assumption) | with_reducible exact qzc | with_reducible exact qzd | with_reducible exact qze | omega)
        have : 0 ≤ x * p := Int.mul_nonneg (by (first | (clear hM hr h3 h4 h5 hp h1 e2 hpm hlt this; omega) | omega)) (by first | with_reducible assumption | with_reducible exact Int.le_of_lt (by assumption) | with_reducible exact Nat.le_of_lt (by assumption) | with_reducible exact qz1 (by assumption) | with_reducible exact qz2 (by assumption) | with_reducible exact qz3 (by assumption) | with_reducible exact qz4 (by assumption) | with_reducible exact qz5 (by assumption) | with_reducible exact qz6 (by assumption) | with_reducible exact qz7 (by assumption) | with_reducible exact qz8 (by assumption) | with_reducible exact qz9 (by assumption) | with_reducible exact qza (by assumption) | with_reducible exact qzb (by assumption) | with_reducible exact qzc | with_reducible exact qzd | with_reducible exact qze | omega)
        (first | (clear hr h4 h5 hp e2 hpm hx e1 hlt; grind) | grind)
      have e3 : (q.natAbs : Int) = q := by (first | (clear hM hr h3 h4 h5 hp h1 e2 hlt hpm hx e1; omega) | omega)
      rw [e3]
      constructor
      · intro h
        have : (q + 1) * M ≤ P * M := Int.mul_le_mul_of_nonneg_right (by (first | (clear hM hr h3 h4 h5 hp h1 e2 hlt hpm hx e1 hq; omega) | omega)) (by first | with_reducible assumption | with_reducible exact Int.le_of_lt (by assumption) | with_reducible exact Nat.le_of_lt (by assumption) | with_reducible exact qz1 (by assumption) | with_reducible exact qz2 (by assumption) | with_reducible exact qz3 (by assumption) | with_reducible exact qz4 (by assumption) | with_reducible exact qz5 (by assumption) | with_reducible exact qz6 (by assumption) | with_reducible exact qz7 (by assumption) | with_reducible exact qz8 (by assumption) | with_reducible exact qz9 (by assumption) | with_reducible exact qza (by assumption) | with_reducible exact qzb (by assumption) | with_reducible exact qzc | with_reducible exact qzd | with_reducible exact qze | omega)
        (first | (clear hr h4 h5 hp e2 hlt hpm hx e1 hq e3 h; grind) | grind)
      · intro h
        refine Int.not_le.mp fun hle => ?_
        have : P * M ≤ q * M := Int.mul_le_mul_of_nonneg_right hle (by first | with_reducible assumption | with_reducible exact Int.le_of_lt (by assumption) | with_reducible exact Nat.le_of_lt (by assumption) | with_reducible exact qz1 (by assumption) | with_reducible exact qz2 (by assumption) | with_reducible exact qz3 (by assumption) | with_reducible exact qz4 (by assumption) | with_reducible exact qz5 (by assumption) | with_reducible exact qz6 (by assumption) | with_reducible exact qz7 (by assumption) | with_reducible exact qz8 (by assumption) | with_reducible exact qz9 (by assumption) | with_reducible exact qza (by assumption) | with_reducible exact qzb (by assumption) | with_reducible exact qzc | with_reducible exact qzd | with_reducible exact qze | omega)
        (first | (clear hr h4 h5 hp e2 hlt hpm hx e1 hq e3 hle; grind) | grind)
  refine ⟨(key _).mp ((hr _).mp (Nat.le_refl _)), fun j hj => ?_⟩
  refine Int.not_le.mp fun hle => ?_
  have := (hr j).mpr ((key j).mpr hle)
  (first | (clear hM h1 h3 h4 h5 hp hr key hle; omega) | omega)
/-- a lies within b of nought -/
noncomputable def Wi (a b : Rat) : Prop := -b ≤ a ∧ a ≤ b
theorem Wi.nonneg {a b : Rat} (h : Wi a b) : 0 ≤ b := by obtain ⟨h1, h2⟩ := h; grind
theorem Wi.mul {a b c e : Rat} (h : Wi a b) (k : Wi c e) : Wi (a * c) (b * e) := by
  obtain ⟨h1, h2⟩ := h
  obtain ⟨k1, k2⟩ := k
  have x1 := Rat.mul_nonneg (show 0 ≤ b - a by first | with_reducible assumption | with_reducible exact Rat.le_of_lt (by assumption) | decide +kernel | with_reducible exact qr1 (by assumption) | with_reducible exact qr2 (by assumption) | with_reducible exact qr3 (by assumption) | with_reducible exact qr4 (by assumption) | with_reducible exact qr5 (by assumption) | with_reducible exact qr6 (by assumption) | with_reducible exact qr7 (by assumption) | with_reducible exact qr8 (by assumption) | with_reducible exact qr9 (by assumption) | grind) (show 0 ≤ e - c by first | with_reducible assumption | with_reducible exact Rat.le_of_lt (by assumption) | decide +kernel | with_reducible exact qr1 (by assumption) | with_reducible exact qr2 (by assumption) | with_reducible exact qr3 (by assumption) | with_reducible exact qr4 (by assumption) | with_reducible exact qr5 (by assumption) | with_reducible exact qr6 (by assumption) | with_reducible exact qr7 (by assumption) | with_reducible exact qr8 (by assumption) | with_reducible exact qr9 (by assumption) | grind)
  have x2 := Rat.mul_nonneg (show 0 ≤ b + a by (first | (clear h2 k1 k2 x1; grind) | grind)) (show 0 ≤ e + c by (first | (clear h1 h2 k2 x1; grind) | grind))
  have x3 := Rat.mul_nonneg (show 0 ≤ b - a by first | with_reducible assumption | with_reducible exact Rat.le_of_lt (by assumption) | decide +kernel | with_reducible exact qr1 (by assumption) | with_reducible exact qr2 (by assumption) | with_reducible exact qr3 (by assumption) | with_reducible exact qr4 (by assumption) | with_reducible exact qr5 (by assumption) | with_reducible exact qr6 (by assumption) | with_reducible exact qr7 (by assumption) | with_reducible exact qr8 (by assumption) | with_reducible exact qr9 (by assumption) | grind) (show 0 ≤ e + c by (first | (clear h1 h2 k2 x1 x2; grind) | grind))
  have x4 := Rat.mul_nonneg (show 0 ≤ b + a by (first | (clear h2 k1 k2 x1 x2 x3; grind) | grind)) (show 0 ≤ e - c by first | with_reducible assumption | with_reducible exact Rat.le_of_lt (by assumption) | decide +kernel | with_reducible exact qr1 (by assumption) | with_reducible exact qr2 (by assumption) | with_reducible exact qr3 (by assumption) | with_reducible exact qr4 (by assumption) | with_reducible exact qr5 (by assumption) | with_reducible exact qr6 (by assumption) | with_reducible exact qr7 (by assumption) | with_reducible exact qr8 (by assumption) | with_reducible exact qr9 (by assumption) | grind)
  constructor <;> (first | (clear h1 h2 k1 k2; grind) | grind)
theorem Wi.add {a b c e : Rat} (h : Wi a b) (k : Wi c e) : Wi (a + c) (b + e) := by
  obtain ⟨h1, h2⟩ := h
  obtain ⟨k1, k2⟩ := k
  constructor <;> grind
theorem Wi.le {a b c : Rat} (h : Wi a b) (k : b ≤ c) : Wi a c := by
  obtain ⟨h1, h2⟩ := h
  constructor <;> grind
theorem Wi.neg {a b : Rat} (h : Wi a b) : Wi (-a) b := by
  obtain ⟨h1, h2⟩ := h
  constructor <;> grind
/-- dividing by something positive -/
theorem Wi.div {a b c : Rat} (hc : 0 < c) (h : Wi (c * a) (c * b)) : Wi a b := by
  obtain ⟨h1, h2⟩ := h
  exact ⟨div_le' hc (by (first | (clear hc h2; grind) | grind)), div_le' hc h2⟩
theorem rdiv_nonneg {a b : Rat} (ha : 0 ≤ a) (hb : 0 < b) : 0 ≤ a / b := by
  refine div_le' hb ?_
  rw [Rat.mul_zero, Rat.mul_comm, Rat.div_mul_cancel (by (first | (clear ha; grind) | grind))]
  exact ha
theorem rdiv_anti {a b c : Rat} (ha : 0 ≤ a) (hb : 0 < b) (h : b ≤ c) : a / c ≤ a / b := by
  refine div_le' (Rat.mul_pos hb (show 0 < c by (first | (clear ha; grind) | grind))) ?_
  have := Rat.mul_le_mul_of_nonneg_left h ha
  have e1 : b * c * (a / c) = a * b := by (first | (clear ha this; grind) | grind)
  have e2 : b * c * (a / b) = a * c := by (first | (clear ha h this e1; grind) | grind)
  rw [e1, e2]; exact this
theorem half_split {b m : Rat} (hm : 0 < m) : b / (2 * m) = b / (4 * m) + b / (4 * m) ∧ b / (2 * (m * 2)) = b / (4 * m) := by
  constructor <;> grind
theorem ipos {a : Int} (h : 0 < a) : (0 : Rat) < (a : Rat) := Rat.intCast_pos.mpr h
theorem divN_rat {a b : Int} (hb : 0 < b) : Wi ((b : Rat) * (divN a b : Int) - (a : Rat)) ((b : Rat) / 2) := by
  obtain ⟨e, h1, h2, h3, _⟩ := divN_spec a b hb
  have e1 : (a : Rat) = (divN a b : Int) * (b : Rat) + (e : Rat) := by
    rw [← Rat.intCast_mul, ← Rat.intCast_add, ← h1]
  have h2' : ((-b : Int) : Rat) ≤ ((2 * e : Int) : Rat) := Rat.intCast_le_intCast.mpr h2
  have h3' : ((2 * e : Int) : Rat) ≤ (b : Rat) := Rat.intCast_le_intCast.mpr h3
  rw [Rat.intCast_mul] at h2' h3'
  rw [Rat.intCast_neg] at h2'
  rw [show ((2 : Int) : Rat) = 2 from rfl] at h2' h3'
  constructor <;> (first | (clear hb h1 h2 h3; grind) | grind)
/-- the rows by Horner, each row rounded -/
theorem ser_err {x S : Int} {t u : Rat} (hS : 0 < S) (ht : (x : Rat) = (S : Rat) * t) (hu : Wi t u) : ∀ (n : Nat) (y : Int) (h a : Rat), Wi ((y : Rat) - (S : Rat) * h) (a / 2) →
    Wi ((ser x S n y : Int) - (S : Rat) * (sm n t + tm n t * h - 1)) ((sm n u - tm n u + tm n u * a) / 2)
  | 0, y, h, a, hy => by
    show Wi ((y : Rat) - (S : Rat) * (1 + 1 * h - 1)) ((1 - 1 + 1 * a) / 2)
    rw [show (1 + 1 * h - 1 : Rat) = h by (first | (clear hS ht hu hy; grind) | grind), show ((1 - 1 + 1 * a) / 2 : Rat) = a / 2 by (first | (clear hS ht hu hy; grind) | grind)]
    exact hy
  | n + 1, y, h, a, hy => by
    have hS' := ipos hS
    have hn := npos n
    have hi : 0 < S * ((n : Int) + 1) := Int.mul_pos hS (by first | with_reducible assumption | with_reducible exact Int.le_of_lt (by assumption) | with_reducible exact Nat.le_of_lt (by assumption) | with_reducible exact qz1 (by assumption) | with_reducible exact qz2 (by assumption) | with_reducible exact qz3 (by assumption) | with_reducible exact qz4 (by assumption) | with_reducible exact qz5 (by assumption) | with_reducible exact qz6 (by assumption) | with_reducible exact qz7 (by assumption) | with_reducible exact qz8 (by assumption) | with_reducible exact qz9 (by assumption) | with_reducible exact qza (by assumption) | with_reducible exact qzb (by assumption) | with_reducible exact qzc | with_reducible exact qzd | with_reducible exact qze | omega)
    have hq := divN_rat (a := x * (S + y)) hi
    have ec : (((S * ((n : Int) + 1) : Int)) : Rat) = (S : Rat) * ((n : Rat) + 1) := by rw [Rat.intCast_mul, Rat.intCast_add, Rat.intCast_natCast]; rfl
    have ex' : ((x * (S + y) : Int) : Rat) = (S : Rat) * t * ((S : Rat) + (y : Rat)) := by rw [Rat.intCast_mul, Rat.intCast_add, ht]
    rw [ec, ex'] at hq
    have ih := ser_err hS ht hu n (divN (x * (S + y)) (S * ((n : Int) + 1))) (t / ((n : Rat) + 1) * (1 + h)) (1 + u / ((n : Rat) + 1) * a)
    show Wi ((ser x S n (divN (x * (S + y)) (S * ((n : Int) + 1))) : Int) - (S : Rat) * (sm n t + tm n t * t / ((n : Rat) + 1) + tm n t * t / ((n : Rat) + 1) * h - 1)) ((sm n u + tm n u * u / ((n : Rat) + 1) - tm n u * u / ((n : Rat) + 1) + tm n u * u / ((n : Rat) + 1) * a) / 2)
    have e1 : sm n t + tm n t * t / ((n : Rat) + 1) + tm n t * t / ((n : Rat) + 1) * h - 1 = sm n t + tm n t * (t / ((n : Rat) + 1) * (1 + h)) - 1 := by (first | (clear hS ht hu hy hS' hn hi hq ec ex' ih; grind) | grind)
    have e2 : (sm n u + tm n u * u / ((n : Rat) + 1) - tm n u * u / ((n : Rat) + 1) + tm n u * u / ((n : Rat) + 1) * a) / 2 = (sm n u - tm n u + tm n u * (1 + u / ((n : Rat) + 1) * a)) / 2 := by (first | (clear hS ht hu hy hS' hn hi hq ec ex' ih e1; grind) | grind)
    rw [e1, e2]
    refine ih ?_
    generalize (((divN (x * (S + y)) (S * ((n : Int) + 1)) : Int)) : Rat) = q at *
    generalize (n : Rat) + 1 = i at *
    have hw := hu.mul hy
    refine Wi.div (Rat.mul_pos hS' hn) ?_
    have e3 : (S : Rat) * i * (q - (S : Rat) * (t / i * (1 + h))) = (S : Rat) * i * q - (S : Rat) * t * ((S : Rat) + (y : Rat)) + (S : Rat) * (t * ((y : Rat) - (S : Rat) * h)) := by (first | (clear hS hu hy hS' hi ex' e1 e2 hq ih hw; grind) | grind)
    have e4 : (S : Rat) * i * ((1 + u / i * a) / 2) = (S : Rat) * i / 2 + (S : Rat) * (u * (a / 2)) := by (first | (clear hS ht hu hy hS' hi ex' e1 e2 hq ih hw e3; grind) | grind)
    rw [e3, e4]
    refine hq.add ?_
    have := Rat.mul_le_mul_of_nonneg_left hw.1 (Rat.le_of_lt hS')
    have := Rat.mul_le_mul_of_nonneg_left hw.2 (Rat.le_of_lt hS')
    constructor <;> (first | (clear hS ht hu hy hS' hi ex' hn ec e1 e2 hq ih hw e3 e4; grind) | grind)
/-- the halves of the doublings, as parts of the answer -/
noncomputable def sE (d : Rat) : Nat → Int → Rat
  | 0, _ => 0
  | n + 1, Q => ex d (-(2 * Q)) / 2 + sE d n (2 * Q)
theorem sE_nonneg {d : Rat} (hd : 0 < d) : ∀ (n : Nat) (Q : Int), 0 ≤ sE d n Q
  | 0, _ => Rat.le_refl
  | n + 1, Q => by
    have := sE_nonneg hd n (2 * Q)
    have := ex_pos hd (-(2 * Q))
    show 0 ≤ ex d (-(2 * Q)) / 2 + sE d n (2 * Q)
    (first | (clear hd; grind) | grind)
theorem pow2pos (n : Nat) : (0 : Rat) < 2 ^ n := Rat.pow_pos (by decide)
theorem pow2ge (n : Nat) : (1 : Rat) ≤ 2 ^ n := by
  induction n with
  | zero => rw [Rat.pow_zero]; exact Rat.le_refl
  | succ n ih => rw [Rat.pow_succ]; grind
theorem icast_p2 (M : Int) (n : Nat) : ((M * 2 ^ n : Int) : Rat) = (M : Rat) * 2 ^ n := by rw [Rat.intCast_mul, Rat.intCast_pow]; rfl
/-- one doubling -/
theorem dbl_one {M : Int} (hM : 0 < M) (n : Nat) (y : Int) (e D : Rat) (hD : (M : Rat) * 2 ^ n * 2 + (y : Rat) - (M : Rat) * 2 ^ n * 2 * e = D) :
    Wi (4 * ((M : Rat) * 2 ^ n) * ((M : Rat) * 2 ^ n + (divN (y * (y + M * 2 ^ (n + 2))) (M * 2 ^ (n + 2)) : Int) - (M : Rat) * 2 ^ n * (e * e)) - (D * D + 4 * ((M : Rat) * 2 ^ n) * (e * D))) (2 * ((M : Rat) * 2 ^ n)) := by
  have hp : 0 < M * 2 ^ (n + 2) := Int.mul_pos hM (Int.pow_pos (by decide))
  have hq := divN_rat (a := y * (y + M * 2 ^ (n + 2))) hp
  have e1 : ((M * 2 ^ (n + 2) : Int) : Rat) = 4 * ((M : Rat) * 2 ^ n) := by rw [icast_p2, Rat.pow_succ, Rat.pow_succ]; (first | (clear hM hD hp hq; grind) | grind)
  have e2 : ((y * (y + M * 2 ^ (n + 2)) : Int) : Rat) = (y : Rat) * ((y : Rat) + 4 * ((M : Rat) * 2 ^ n)) := by rw [Rat.intCast_mul, Rat.intCast_add, e1]
  rw [e1, e2] at hq
  generalize (((divN (y * (y + M * 2 ^ (n + 2))) (M * 2 ^ (n + 2)) : Int)) : Rat) = q at *
  generalize (M : Rat) * 2 ^ n = m at *
  subst hD
  obtain ⟨h1, h2⟩ := hq
  constructor <;> (first | (clear hM hp e1 e2; grind) | grind)
theorem dbl_alg {m a b e f : Rat} (hm : 0 < m) : 4 * m * ((a + b / (4 * m) + f / 2) * e) = 4 * m * a * e + b * e + 2 * m * (e * f) := by grind
theorem dbl_rel {d : Rat} (hd : 0 < d) {M : Int} (hM : 0 < M) {B tot : Rat} (hB : tot ≤ B) : ∀ (n : Nat) (y Q : Int) (a : Rat), 0 ≤ a →
    Wi ((M : Rat) * 2 ^ n + (y : Rat) - (M : Rat) * 2 ^ n * ex d Q) (a * ex d Q) → a + sE d n Q + B * B / (2 * (M : Rat)) - B * B / (2 * ((M : Rat) * 2 ^ n)) ≤ tot →
    Wi ((M : Rat) + (dbl M n y : Int) - (M : Rat) * ex d (2 ^ n * Q)) (tot * ex d (2 ^ n * Q))
  | 0, y, Q, a, ha, hy, ht => by
    rw [show (2 : Int) ^ 0 * Q = Q by simp]
    rw [show (M : Rat) * 2 ^ 0 = (M : Rat) by rw [Rat.pow_zero]; (first | (clear hd hM hB ha hy ht; grind) | grind)] at hy ht
    have e : sE d 0 Q = 0 := rfl
    rw [e] at ht
    exact hy.le (Rat.mul_le_mul_of_nonneg_right (by (first | (clear hd hM hB ha hy e; grind) | grind)) (Rat.le_of_lt (ex_pos hd Q)))
  | n + 1, y, Q, a, ha, hy, ht => by
    have hM' := ipos hM
    have hm : 0 < (M : Rat) * 2 ^ n := Rat.mul_pos hM' (pow2pos n)
    have e1 : (M : Rat) * 2 ^ (n + 1) = (M : Rat) * 2 ^ n * 2 := by rw [Rat.pow_succ]; (first | (clear hd hM hB ha hy ht hM' hm; grind) | grind)
    have e2 : (2 : Int) ^ (n + 1) * Q = 2 ^ n * (2 * Q) := by rw [Int.pow_succ]; (first | (clear hd hM hB ha hy ht hM' hm e1; grind) | grind)
    have hs := sE_nonneg hd n (2 * Q)
    have hE : sE d (n + 1) Q = ex d (-(2 * Q)) / 2 + sE d n (2 * Q) := rfl
    have hx := ex_pos hd (-(2 * Q))
    have hge : (M : Rat) ≤ (M : Rat) * 2 ^ n := by
      have := Rat.mul_le_mul_of_nonneg_left (pow2ge n) (Rat.le_of_lt hM')
      (first | (clear hd hM hB ha hy ht hM' hm e1 e2 hs hE hx; grind) | grind)
    have hBB : 0 ≤ B * B := by
      rcases Rat.le_total (a := 0) (b := B) with h | h
      · exact Rat.mul_nonneg h h
      · have := Rat.mul_nonneg (show 0 ≤ -B by first | with_reducible assumption | with_reducible exact Rat.le_of_lt (by assumption) | decide +kernel | with_reducible exact qr1 (by assumption) | with_reducible exact qr2 (by assumption) | with_reducible exact qr3 (by assumption) | with_reducible exact qr4 (by assumption) | with_reducible exact qr5 (by assumption) | with_reducible exact qr6 (by assumption) | with_reducible exact qr7 (by assumption) | with_reducible exact qr8 (by assumption) | with_reducible exact qr9 (by assumption) | grind) (show 0 ≤ -B by first | with_reducible assumption | with_reducible exact Rat.le_of_lt (by assumption) | decide +kernel | with_reducible exact qr1 (by assumption) | with_reducible exact qr2 (by assumption) | with_reducible exact qr3 (by assumption) | with_reducible exact qr4 (by assumption) | with_reducible exact qr5 (by assumption) | with_reducible exact qr6 (by assumption) | with_reducible exact qr7 (by assumption) | with_reducible exact qr8 (by assumption) | with_reducible exact qr9 (by assumption) | grind); (first | (clear hd hM hB ha hy ht hM' hm e1 e2 hs hE hx hge h; grind) | grind)
    have hone := dbl_one hM n y (ex d Q) _ rfl
    rw [e1] at hy ht
    rw [e2]
    have ih := dbl_rel hd hM hB n (divN (y * (y + M * 2 ^ (n + 2))) (M * 2 ^ (n + 2))) (2 * Q) (a + B * B / (4 * ((M : Rat) * 2 ^ n)) + ex d (-(2 * Q)) / 2)
    have hinv : 0 ≤ B * B / (4 * ((M : Rat) * 2 ^ n)) := rdiv_nonneg hBB (Rat.mul_pos (by decide) hm)
    obtain ⟨s1, s2⟩ := half_split (b := B * B) hm
    have hdiff : B * B / (2 * ((M : Rat) * 2 ^ n)) ≤ B * B / (2 * (M : Rat)) := rdiv_anti hBB (Rat.mul_pos (by decide) hM') (Rat.mul_le_mul_of_nonneg_left hge (by decide))
    rw [s2] at ht
    rw [hE] at ht
    clear e1 e2
    generalize hb4 : B * B / (4 * ((M : Rat) * 2 ^ n)) = b4 at *
    generalize B * B / (2 * ((M : Rat) * 2 ^ n)) = b2 at *
    generalize B * B / (2 * (M : Rat)) = b0 at *
    have haB : a ≤ B := by clear ih hone hy; (first | (clear hd hM ha hM' hm hE hge hBB hb4 s2; grind) | grind)
    refine ih (by clear ih hone hy; (first | (clear hd hM hB hM' hm hs hE hge hBB hb4 s2 s1 ht hdiff haB; grind) | grind)) ?_ (by clear ih hone hy; (first | (clear hd hM hB ha hM' hm hs hE hx hge hBB hb4 hinv s2 hdiff haB; grind) | grind))
    clear ih
    · have he := ex_pos hd Q
      subst hb4
      have e3 : ex d (2 * Q) = ex d Q * ex d Q := ex_two hd Q
      have e4 : ex d (2 * Q) * ex d (-(2 * Q)) = 1 := ex_neg hd (2 * Q)
      rw [e3] at e4 ⊢
      have hDD := hy.mul hy
      have haa : a * a ≤ B * B := rmul ha (by (first | (clear hd hM hB hy hM' hm hs hE hx hge hBB hone hdiff he hinv s2 s1 ht e3 e4 hDD; grind) | grind)) haB haB
      have hee : 0 < ex d Q * ex d Q := Rat.mul_pos he he
      have h5 := Rat.mul_le_mul_of_nonneg_right haa (Rat.le_of_lt hee)
      have h6 := Rat.mul_le_mul_of_nonneg_left hy.1 (Rat.mul_nonneg (Rat.le_of_lt hm) (Rat.le_of_lt he))
      have h7 := Rat.mul_le_mul_of_nonneg_left hy.2 (Rat.mul_nonneg (Rat.le_of_lt hm) (Rat.le_of_lt he))
      generalize (((divN (y * (y + M * 2 ^ (n + 2))) (M * 2 ^ (n + 2)) : Int)) : Rat) = q at *
      generalize (M : Rat) * 2 ^ n = m at *
      generalize ex d Q = e at *
      generalize ex d (-(2 * Q)) = f at *
      generalize m * 2 + (y : Rat) - m * 2 * e = D at *
      refine Wi.div (c := 4 * m) (by (first | (clear hd hM hB ha hs hBB hdiff haB haa hm hinv s2 s1 he e3 hee h5 hE hx ht e4 hy hDD h6 h7 hone; grind) | grind)) ?_
      have e5 : 4 * m * ((a + B * B / (4 * m) + f / 2) * (e * e)) = 4 * m * a * (e * e) + B * B * (e * e) + 2 * m * (e * e * f) := dbl_alg hm
      rw [e5, e4]
      obtain ⟨o1, o2⟩ := hone
      obtain ⟨d1, d2⟩ := hDD
      constructor <;> (first | (clear hd hM hB ha hM' hs hBB hdiff haB haa hm hge hinv s2 s1 he e3 hee hE hx ht e4 hy e5; grind) | grind)

theorem hor_err {x S : Int} {t u : Rat} (hS : 0 < S) (ht : (x : Rat) = (S : Rat) * t) (hu : Wi t u) (n : Nat) :
    Wi ((ser x S n (divN x ((n : Int) + 1)) : Int) - (S : Rat) * (sm (n + 1) t - 1)) (sm n u / 2) := by
  have hn := npos n
  have hd := divN_rat (a := x) (b := (n : Int) + 1) (by first | with_reducible assumption | with_reducible exact Int.le_of_lt (by assumption) | with_reducible exact Nat.le_of_lt (by assumption) | with_reducible exact qz1 (by assumption) | with_reducible exact qz2 (by assumption) | with_reducible exact qz3 (by assumption) | with_reducible exact qz4 (by assumption) | with_reducible exact qz5 (by assumption) | with_reducible exact qz6 (by assumption) | with_reducible exact qz7 (by assumption) | with_reducible exact qz8 (by assumption) | with_reducible exact qz9 (by assumption) | with_reducible exact qza (by assumption) | with_reducible exact qzb (by assumption) | with_reducible exact qzc | with_reducible exact qzd | with_reducible exact qze | omega)
  have e0 : (((n : Int) + 1 : Int) : Rat) = (n : Rat) + 1 := by rw [Rat.intCast_add, Rat.intCast_natCast]; rfl
  rw [e0, ht] at hd
  have h1 : Wi ((divN x ((n : Int) + 1) : Int) - (S : Rat) * (t / ((n : Rat) + 1))) (1 / 2) := by
    refine Wi.div hn ?_
    generalize (((divN x ((n : Int) + 1) : Int)) : Rat) = q at *
    generalize (n : Rat) + 1 = i at *
    have e1 : i * (q - (S : Rat) * (t / i)) = i * q - (S : Rat) * t := by (first | (clear hS hu hd; grind) | grind)
    have e2 : i * (1 / 2) = i / 2 := by (first | (clear hS ht hu hn e0 hd e1; grind) | grind)
    rw [e1, e2]; exact hd
  have h2 := ser_err hS ht hu n _ _ 1 h1
  have e1 : sm n t + tm n t * (t / ((n : Rat) + 1)) - 1 = sm (n + 1) t - 1 := by
    show sm n t + tm n t * (t / ((n : Rat) + 1)) - 1 = sm n t + tm n t * t / ((n : Rat) + 1) - 1
    (first | (clear hS ht hu hn hd e0 h1 h2; grind) | grind)
  have e2 : (sm n u - tm n u + tm n u * 1) / 2 = sm n u / 2 := by (first | (clear hS ht hu hn hd e0 h1 h2 e1; grind) | grind)
  rw [e1, e2] at h2
  exact h2
/-- the rows' number -/
noncomputable def nN (M L : Int) : Nat := (nT M L - 1).toNat
theorem nN_eq {M L : Int} (hM : 0 < M) (hL : 1 ≤ L) : nT M L = (nN M L : Int) + 1 := by
  have := (nT_facts hM hL).1
  unfold nN
  (first | (clear hM hL; omega) | omega)
noncomputable def iy (x M L : Int) : Int := ser x (M * 2 ^ nR x M L) (nN M L) (divN x ((nN M L : Int) + 1))
theorem iexp_iy {x M L : Int} (hM : 0 < M) (hL : 1 ≤ L) : iexp x M L = M + dbl M (nR x M L) (iy x M L) := by
  unfold iexp iy
  rw [nN_eq hM hL]
  show _ = M + dbl M (nR x M L) (ser x (M * 2 ^ nR x M L) (nN M L) (divN x ((nN M L : Int) + 1)))
  have : ((nN M L : Int) + 1 - 1).toNat = nN M L := by (first | (clear hM hL; omega) | omega)
  rw [this]
section
variable {d : Rat} (hd : 0 < d)
include hd
/-- the number at the great scale -/
theorem top_err {x S P : Int} {u mx : Rat} (hS : 0 < S) (hP : (x : Rat) = (S : Rat) * ((P : Rat) * d)) (hu : u = (P.natAbs : Rat) * d) (hu1 : u ≤ 1) (hd1 : d ≤ 1) (hm1 : 1 ≤ mx) (hm2 : ex d P ≤ mx) (n : Nat) :
    Wi ((S : Rat) + (ser x S n (divN x ((n : Int) + 1)) : Int) - (S : Rat) * ex d P) (sm n u / 2 + (S : Rat) * tm (n + 2) u * mx + (4 * (n : Rat) + 7) * ((S : Rat) * d)) := by
  have hS' := ipos hS
  have hu0 : 0 ≤ u := by rw [hu]; exact Rat.mul_nonneg Rat.natCast_nonneg (Rat.le_of_lt hd)
  have hwu : Wi ((P : Rat) * d) u := by
    rw [hu]
    rcases Int.le_total 0 P with h | h
    · obtain ⟨p, rfl⟩ := Int.eq_ofNat_of_zero_le h
      rw [show ((p : Int).natAbs : Rat) = (p : Rat) by simp, Rat.intCast_natCast]
      rw [show ((p : Int).natAbs : Rat) = (p : Rat) by simp] at hu
      constructor <;> (first | (clear hd hS hu1 hd1 hm1 hS' hP hm2 h; grind) | grind)
    · obtain ⟨p, hp⟩ := Int.eq_ofNat_of_zero_le (show 0 ≤ -P by (first | (clear hd hS hP hu hu1 hd1 hm1 hm2 hS' hu0; omega) | omega))
      have : P = -(p : Int) := by (first | (clear hd hS hP hu hu1 hd1 hm1 hm2 hS' hu0 h; omega) | omega)
      subst this
      rw [show ((-(p : Int)).natAbs : Rat) = (p : Rat) by simp, Rat.intCast_neg, Rat.intCast_natCast]
      rw [show ((-(p : Int)).natAbs : Rat) = (p : Rat) by simp] at hu
      constructor <;> (first | (clear hd hS hu1 hd1 hm1 hS' hP hm2 h hp; grind) | grind)
  have h1 := hor_err hS hP hwu n
  have hT := tm_nonneg hu0 (n + 2)
  have key : Wi (sm (n + 1) ((P : Rat) * d) - ex d P) (tm (n + 2) u * mx + (4 * (n : Rat) + 7) * d) := by
    have hn : (0 : Rat) ≤ (n : Rat) := Rat.natCast_nonneg
    have hnd := Rat.mul_nonneg hn (Rat.le_of_lt hd)
    have hmx := Rat.mul_le_mul_of_nonneg_left hm1 hT
    have hmx2 := Rat.mul_le_mul_of_nonneg_left hm2 hT
    rcases Int.le_total 0 P with h | h
    · obtain ⟨p, rfl⟩ := Int.eq_ofNat_of_zero_le h
      rw [show ((p : Int).natAbs : Rat) = (p : Rat) by simp] at hu
      rw [Rat.intCast_natCast]
      rw [← hu]
      have h2 := ex_up hd (n + 1) p
      have hdd : (p : Rat) * d * d ≤ 1 := by rw [← hu]; exact Rat.le_trans (rmul hu0 (by decide) hu1 hd1) (by first | with_reducible assumption | with_reducible exact Rat.le_of_lt (by assumption) | decide +kernel | with_reducible exact qr1 (by assumption) | with_reducible exact qr2 (by assumption) | with_reducible exact qr3 (by assumption) | with_reducible exact qr4 (by assumption) | with_reducible exact qr5 (by assumption) | with_reducible exact qr6 (by assumption) | with_reducible exact qr7 (by assumption) | with_reducible exact qr8 (by assumption) | with_reducible exact qr9 (by assumption) | grind)
      have h3 := ex_dn hd (n + 1) p hdd
      rw [← hu] at h2 h3
      have h4 := Rat.le_trans (sm_mono hu0 hu1 (n + 1)) (sm_one_le (n + 1))
      have h5 := rmul (sm_ge_one hu0 (n + 1) |> fun h => Rat.le_trans (by decide) h) (Rat.le_of_lt hd) h4 (show u * d ≤ d by have := Rat.mul_le_mul_of_nonneg_right hu1 (Rat.le_of_lt hd); (first | (clear hd hS hu1 hd1 hm1 hS' hu0 hT hn hnd hmx hP hu hm2 hwu h1 hmx2 h h2 hdd h3 h4; grind) | grind))
      rw [show n + 1 + 1 = n + 2 from rfl] at h2
      generalize tm (n + 2) u = tt at *
      generalize sm (n + 1) u = ss at *
      generalize ex d (p : Int) = e at *
      constructor <;> (first | (clear hS hu1 hd1 hm1 hS' hu0 hn hP hu hwu h1 h hdd h4 hm2; grind) | grind)
    · obtain ⟨p, hp⟩ := Int.eq_ofNat_of_zero_le (show 0 ≤ -P by (first | (clear hd hS hP hu hu1 hd1 hm1 hm2 hS' hu0 hwu h1 hT hn hnd hmx hmx2; omega) | omega))
      have : P = -(p : Int) := by (first | (clear hd hS hP hu hu1 hd1 hm1 hm2 hS' hu0 hwu h1 hT hn hnd hmx hmx2 h; omega) | omega)
      subst this
      rw [show ((-(p : Int)).natAbs : Rat) = (p : Rat) by simp] at hu
      rw [Rat.intCast_neg, Rat.intCast_natCast]
      have h2 := ex_alt hd (n + 1) p (by rw [← hu]; exact hu1)
      rw [show -(p : Rat) * d = -((p : Rat) * d) by (first | (clear hd hS hu1 hd1 hm1 hS' hu0 hT hn hnd hmx hP hu hm2 hwu h1 hmx2 h hp h2; grind) | grind)]
      rw [← hu] at h2 ⊢
      have h3 := Rat.mul_le_mul_of_nonneg_left hu1 (show 0 ≤ 4 * ((n : Rat) + 1) * d by (first | (clear hS hu1 hd1 hm1 hS' hu0 hT hn hmx hP hu hm2 hwu h1 hmx2 h hp h2; grind) | grind))
      rw [cast_succ] at h2
      rw [show n + 1 + 1 = n + 2 from rfl] at h2
      generalize tm (n + 2) u = tt at *
      generalize sm (n + 1) (-u) = ss at *
      generalize ex d (-(p : Int)) = e at *
      obtain ⟨h21, h22⟩ := h2
      constructor <;> (first | (clear hS hu1 hd1 hm1 hS' hu0 hn hnd hP hu hwu h1 h hp hT hm2 hmx2; grind) | grind)
  have h6 := Rat.mul_le_mul_of_nonneg_left key.1 (Rat.le_of_lt hS')
  have h7 := Rat.mul_le_mul_of_nonneg_left key.2 (Rat.le_of_lt hS')
  obtain ⟨h8, h9⟩ := h1
  generalize (((ser x S n (divN x ((n : Int) + 1)) : Int)) : Rat) = y at *
  generalize tm (n + 2) u = tt at *
  generalize sm (n + 1) ((P : Rat) * d) = ss at *
  generalize ex d P = e at *
  generalize sm n u = sn at *
  constructor <;> (first | (clear hd hS hP hu hu1 hd1 hm1 hS' hu0 hwu hT hm2 key; grind) | grind)
end

theorem rpow_add (a : Rat) (m n : Nat) : a ^ (m + n) = a ^ m * a ^ n := by
  induction n with
  | zero => rw [Nat.add_zero, Rat.pow_zero]; grind
  | succ n ih => rw [← Nat.add_assoc, Rat.pow_succ, ih, Rat.pow_succ]; (first | (clear ih; grind) | grind)
theorem rpow_mul (a : Rat) (m n : Nat) : a ^ (m * n) = (a ^ m) ^ n := by
  induction n with
  | zero => rw [Nat.mul_zero, Rat.pow_zero, Rat.pow_zero]
  | succ n ih => rw [Nat.mul_succ, rpow_add, ih, Rat.pow_succ]
/-- the great scale -/
noncomputable def sS (x M L : Int) : Int := M * 2 ^ nR x M L
theorem sS_pos {x M L : Int} (hM : 0 < M) : 0 < sS x M L := Int.mul_pos hM (Int.pow_pos (by decide))
/-- the size of x by the great scale, times 2 ^ L, is at most 1 -/
theorem u_le {x M L : Int} {u : Rat} (hM : 0 < M) (hu : (x.natAbs : Rat) = (sS x M L : Rat) * u) : u * 2 ^ L.toNat ≤ 1 := by
  have h := (nR_facts (x := x) (L := L) hM).1
  have hS := ipos (sS_pos (x := x) (L := L) hM)
  have h2 : (x.natAbs : Int) * 2 ^ L.toNat ≤ sS x M L := by
    unfold sS
    split at h <;> (first | (clear hu hS; omega) | omega)
  have h3 : (((x.natAbs : Int) * 2 ^ L.toNat : Int) : Rat) ≤ (sS x M L : Rat) := Rat.intCast_le_intCast.mpr h2
  rw [icast_p2, Rat.intCast_natCast, hu] at h3
  refine div_le' hS ?_
  (first | (clear hM hu h hS h2; grind) | grind)
theorem cube_lt {a b : Nat} (h : a ^ 3 < b ^ 3) : a < b := by
  refine Nat.not_le.mp fun hle => ?_
  have := Nat.pow_le_pow_left hle 3
  (first | (clear hle; omega) | omega)
/-- as many rows as the figures of M want -/
theorem M_lt {M L : Int} (hM : 0 < M) (hL : 1 ≤ L) : M < 2 ^ (L.toNat * (nN M L + 1)) := by
  obtain ⟨_, h2, _⟩ := nT_facts hM hL
  rw [nN_eq hM hL] at h2
  obtain ⟨e, he, _, h3⟩ := figs_ex hM
  rw [← he] at h3
  obtain ⟨l, rfl⟩ := Int.eq_ofNat_of_zero_le (show 0 ≤ L by first | with_reducible assumption | with_reducible exact Int.le_of_lt (by assumption) | with_reducible exact Nat.le_of_lt (by assumption) | with_reducible exact qz1 (by assumption) | with_reducible exact qz2 (by assumption) | with_reducible exact qz3 (by assumption) | with_reducible exact qz4 (by assumption) | with_reducible exact qz5 (by assumption) | with_reducible exact qz6 (by assumption) | with_reducible exact qz7 (by assumption) | with_reducible exact qz8 (by assumption) | with_reducible exact qz9 (by assumption) | with_reducible exact qza (by assumption) | with_reducible exact qzb (by assumption) | with_reducible exact qzc | with_reducible exact qzd | with_reducible exact qze | omega)
  obtain ⟨m, rfl⟩ := Int.eq_ofNat_of_zero_le (show 0 ≤ M by first | with_reducible assumption | with_reducible exact Int.le_of_lt (by assumption) | with_reducible exact Nat.le_of_lt (by assumption) | with_reducible exact qz1 (by assumption) | with_reducible exact qz2 (by assumption) | with_reducible exact qz3 (by assumption) | with_reducible exact qz4 (by assumption) | with_reducible exact qz5 (by assumption) | with_reducible exact qz6 (by assumption) | with_reducible exact qz7 (by assumption) | with_reducible exact qz8 (by assumption) | with_reducible exact qz9 (by assumption) | with_reducible exact qza (by assumption) | with_reducible exact qzb (by assumption) | with_reducible exact qzc | with_reducible exact qzd | with_reducible exact qze | omega)
  have h4 : m < 10 ^ figs (m : Int) := by exact_mod_cast h3
  rw [show ((l : Int)).toNat = l by (first | (clear hM he h3 h2 h4; omega) | omega)]
  generalize figs (m : Int) = f at *
  generalize nN (m : Int) (l : Int) = n at *
  have h5 : 10 * f ≤ (l * (n + 1)) * 3 := by
    have e1 : ((n : Int) + 1) * (3 * (l : Int)) = (((l * (n + 1)) * 3 : Nat) : Int) := by
      rw [Int.natCast_mul, Int.natCast_mul]; (first | (clear hL hM he h3 h4 h2; grind) | grind)
    rw [e1] at h2
    (first | (clear hL hM h3 h4 e1; omega) | omega)
  have key : m < 2 ^ (l * (n + 1)) := by
    refine cube_lt ?_
    rw [← Nat.pow_mul]
    have h6 : m ^ 3 < (10 ^ f) ^ 3 := Nat.pow_lt_pow_left h4 (by decide)
    have h7 : (10 ^ f) ^ 3 ≤ 2 ^ (10 * f) := by
      rw [← Nat.pow_mul, Nat.mul_comm f 3, Nat.pow_mul, Nat.pow_mul]
      exact Nat.pow_le_pow_left (by decide) f
    have h8 : 2 ^ (10 * f) ≤ 2 ^ (l * (n + 1) * 3) := Nat.pow_le_pow_right (by decide) h5
    (first | (clear hL hM he h3 h4 h2 h5; omega) | omega)
  exact_mod_cast key
theorem pow_scale {u p : Rat} (hu : 0 ≤ u) (hp : 0 ≤ p) (h : u * p ≤ 1) (n : Nat) : u ^ n * p ^ n ≤ 1 := by
  induction n with
  | zero => rw [Rat.pow_zero, Rat.pow_zero]; (first | (clear hu hp h; grind) | grind)
  | succ n ih =>
    rw [Rat.pow_succ, Rat.pow_succ]
    have h1 := rmul (Rat.mul_nonneg hu hp) (show (0 : Rat) ≤ 1 by decide) h ih
    (first | (clear hu hp h ih; grind) | grind)
/-- the power that the rows leave out is less than the M-th part -/
theorem u_pow {x M L : Int} {u : Rat} (hM : 0 < M) (hL : 1 ≤ L) (hu0 : 0 ≤ u) (hu : (x.natAbs : Rat) = (sS x M L : Rat) * u) : u ^ (nN M L + 1) * (M : Rat) ≤ 1 := by
  have h1 := u_le hM hu
  have h2 := pow_scale hu0 (Rat.le_of_lt (pow2pos L.toNat)) h1 (nN M L + 1)
  have h3 : (M : Rat) ≤ ((2 ^ (L.toNat * (nN M L + 1)) : Int) : Rat) := Rat.intCast_le_intCast.mpr (Int.le_of_lt (M_lt hM hL))
  have e : ((2 ^ (L.toNat * (nN M L + 1)) : Int) : Rat) = (2 ^ L.toNat) ^ (nN M L + 1) := by
    rw [Rat.intCast_pow]
    exact rpow_mul 2 L.toNat (nN M L + 1)
  rw [e] at h3
  have h4 := Rat.mul_le_mul_of_nonneg_left h3 (Rat.pow_nonneg hu0 (n := nN M L + 1))
  (first | (clear hM hL hu0 hu h1 h3 e; grind) | grind)
theorem sm_le_inv {u : Rat} (hu : 0 ≤ u) (n : Nat) : sm n u * (1 - u) ≤ 1 := by
  have h := sm_hi' (x := 0) (by decide) hu n
  rw [sm_zero, show (0 : Rat) + u = u by (first | (clear hu h; grind) | grind)] at h
  exact h

theorem pow_mono {u v : Rat} (hu : 0 ≤ u) (h : u ≤ v) (m : Nat) : u ^ m ≤ v ^ m := by
  induction m with
  | zero => rw [Rat.pow_zero, Rat.pow_zero]; exact Rat.le_refl
  | succ m ih => rw [Rat.pow_succ, Rat.pow_succ]; exact rmul (Rat.pow_nonneg hu) (by (first | (clear ih; grind) | grind)) ih h
theorem pow_hi {u v : Rat} (hu : 0 ≤ u) (h : u ≤ v) (n : Nat) : v ^ (n + 1) ≤ u ^ (n + 1) + ((n : Rat) + 1) * (v - u) * v ^ n := by
  induction n with
  | zero => rw [Rat.pow_succ, Rat.pow_succ, Rat.pow_zero, Rat.pow_zero, show ((0 : Nat) : Rat) = 0 from rfl]; (first | (clear hu h; grind) | grind)
  | succ n ih =>
    have h1 := Rat.mul_le_mul_of_nonneg_right ih (show 0 ≤ v by (first | (clear ih; grind) | grind))
    have h2 : u ^ (n + 1) * (v - u) ≤ v ^ (n + 1) * (v - u) := by
      exact Rat.mul_le_mul_of_nonneg_right (pow_mono hu h (n + 1)) (by first | with_reducible assumption | with_reducible exact Rat.le_of_lt (by assumption) | decide +kernel | with_reducible exact qr1 (by assumption) | with_reducible exact qr2 (by assumption) | with_reducible exact qr3 (by assumption) | with_reducible exact qr4 (by assumption) | with_reducible exact qr5 (by assumption) | with_reducible exact qr6 (by assumption) | with_reducible exact qr7 (by assumption) | with_reducible exact qr8 (by assumption) | with_reducible exact qr9 (by assumption) | grind)
    rw [Rat.pow_succ v (n + 1), Rat.pow_succ u (n + 1), cast_succ]
    rw [Rat.pow_succ v n] at *
    generalize u ^ (n + 1) = a at *
    generalize v ^ n = b at *
    (first | (clear hu h ih; grind) | grind)
theorem pow_lo {u v : Rat} (hu : 0 ≤ u) (h : u ≤ v) (n : Nat) : u ^ (n + 1) + ((n : Rat) + 1) * (v - u) * u ^ n ≤ v ^ (n + 1) := by
  induction n with
  | zero => rw [Rat.pow_succ, Rat.pow_succ, Rat.pow_zero, Rat.pow_zero, show ((0 : Nat) : Rat) = 0 from rfl]; (first | (clear hu h; grind) | grind)
  | succ n ih =>
    have h1 := Rat.mul_le_mul_of_nonneg_right ih (show 0 ≤ v by (first | (clear ih; grind) | grind))
    have h2 : 0 ≤ ((n : Rat) + 1) * u ^ n * ((v - u) * (v - u)) := Rat.mul_nonneg (Rat.mul_nonneg (Rat.le_of_lt (npos n)) (Rat.pow_nonneg hu)) (Rat.mul_nonneg (by first | with_reducible assumption | with_reducible exact Rat.le_of_lt (by assumption) | decide +kernel | with_reducible exact qr1 (by assumption) | with_reducible exact qr2 (by assumption) | with_reducible exact qr3 (by assumption) | with_reducible exact qr4 (by assumption) | with_reducible exact qr5 (by assumption) | with_reducible exact qr6 (by assumption) | with_reducible exact qr7 (by assumption) | with_reducible exact qr8 (by assumption) | with_reducible exact qr9 (by assumption) | grind) (by first | with_reducible assumption | with_reducible exact Rat.le_of_lt (by assumption) | decide +kernel | with_reducible exact qr1 (by assumption) | with_reducible exact qr2 (by assumption) | with_reducible exact qr3 (by assumption) | with_reducible exact qr4 (by assumption) | with_reducible exact qr5 (by assumption) | with_reducible exact qr6 (by assumption) | with_reducible exact qr7 (by assumption) | with_reducible exact qr8 (by assumption) | with_reducible exact qr9 (by assumption) | grind))
    rw [Rat.pow_succ v (n + 1), Rat.pow_succ u (n + 1), cast_succ]
    rw [Rat.pow_succ u n] at *
    generalize v ^ (n + 1) = a at *
    generalize u ^ n = b at *
    (first | (clear hu h ih; grind) | grind)
/-- the rows of the logarithm -/
noncomputable def aK (u : Rat) : Nat → Rat
  | 0 => 0
  | K + 1 => aK u K + 2 * u ^ (2 * K + 1) / (2 * (K : Rat) + 1)
theorem k2pos (K : Nat) : (0 : Rat) < 2 * (K : Rat) + 1 := by
  have : (0 : Rat) ≤ (K : Rat) := Rat.natCast_nonneg
  grind
theorem aK_hi {u v : Rat} (hu : 0 ≤ u) (h : u ≤ v) (hv : v ≤ 1) (K : Nat) : (1 - v * v) * (aK v K - aK u K) ≤ 2 * (v - u) * (1 - v ^ (2 * K)) := by
  induction K with
  | zero => show (1 - v * v) * (0 - 0) ≤ 2 * (v - u) * (1 - v ^ (2 * 0)); rw [Nat.mul_zero, Rat.pow_zero]; (first | (clear hu h hv; grind) | grind)
  | succ K ih =>
    have h1 := pow_hi hu h (2 * K)
    have e1 : ((2 * K : Nat) : Rat) = 2 * (K : Rat) := by norm_cast
    rw [e1] at h1
    have hp := k2pos K
    have hvv : 0 ≤ 1 - v * v := by have := rmul (show 0 ≤ v by (first | (clear hv ih h1 e1 hp; grind) | grind)) (show (0 : Rat) ≤ 1 by decide) hv hv; (first | (clear hu h hv ih h1 e1 hp; grind) | grind)
    have h2 : 2 * v ^ (2 * K + 1) / (2 * (K : Rat) + 1) - 2 * u ^ (2 * K + 1) / (2 * (K : Rat) + 1) ≤ 2 * (v - u) * v ^ (2 * K) := by
      refine div_le' hp ?_
      generalize v ^ (2 * K + 1) = a at *
      generalize u ^ (2 * K + 1) = b at *
      generalize v ^ (2 * K) = c at *
      generalize 2 * (K : Rat) + 1 = q at *
      have : q * (2 * a / q - 2 * b / q) = 2 * a - 2 * b := by (first | (clear hu h hv e1 hvv ih h1; grind) | grind)
      rw [this]; (first | (clear hu h hv e1 hvv ih hp this; grind) | grind)
    have h3 := Rat.mul_le_mul_of_nonneg_left h2 hvv
    have e2 : v ^ (2 * (K + 1)) = v ^ (2 * K) * (v * v) := by rw [show 2 * (K + 1) = 2 * K + 1 + 1 by (first | (clear hu h hv ih h1 e1 hp hvv h2 h3; omega) | omega), Rat.pow_succ, Rat.pow_succ]; (first | (clear hu h hv ih h1 e1 hp hvv h2 h3; grind) | grind)
    rw [e2]
    show (1 - v * v) * (aK v K + 2 * v ^ (2 * K + 1) / (2 * (K : Rat) + 1) - (aK u K + 2 * u ^ (2 * K + 1) / (2 * (K : Rat) + 1))) ≤ _
    (first | (clear hu h hv h1 e1 hp hvv h2 e2; grind) | grind)
/-- (exp - 1) / (exp + 1) -/
noncomputable def th (d : Rat) (q : Int) : Rat := (ex d q - 1) / (ex d q + 1)
section
variable {d : Rat} (hd : 0 < d)
include hd
theorem th_mul (q : Int) : th d q * (ex d q + 1) = ex d q - 1 := by
  have := ex_pos hd q
  unfold th
  (first | (clear hd; grind) | grind)
theorem th_facts (q : Nat) : 0 ≤ th d q ∧ th d q < 1 ∧ th d q ≤ th d ((q : Int) + 1) ∧ 2 * (th d ((q : Int) + 1) - th d q) ≤ d * (1 - th d ((q : Int) + 1) * th d ((q : Int) + 1)) ∧
    d * (1 - d) * (1 - th d q * th d q) ≤ 2 * (th d ((q : Int) + 1) - th d q) := by
  have h1 := th_mul hd q
  have h2 := th_mul hd ((q : Int) + 1)
  rw [ex_succ hd] at h2
  have hE := ex_one_le hd (show (0 : Int) ≤ q by (first | (clear hd h1 h2; omega) | omega))
  generalize th d q = a at *
  generalize th d ((q : Int) + 1) = b at *
  generalize ex d q = E at *
  have hEd := Rat.mul_pos (show 0 < E by first | with_reducible assumption | with_reducible exact Rat.le_of_lt (by assumption) | decide +kernel | with_reducible exact qr1 (by assumption) | with_reducible exact qr2 (by assumption) | with_reducible exact qr3 (by assumption) | with_reducible exact qr4 (by assumption) | with_reducible exact qr5 (by assumption) | with_reducible exact qr6 (by assumption) | with_reducible exact qr7 (by assumption) | with_reducible exact qr8 (by assumption) | with_reducible exact qr9 (by assumption) | grind) hd
  have p1 : 0 < E + 1 := by (first | (clear hd h1 h2 hEd; grind) | grind)
  have p2 : 0 < E * (1 + d) + 1 := by (first | (clear hd h1 h2 p1; grind) | grind)
  have p12 := Rat.mul_pos p1 p2
  -- the difference
  have hdiff : (E + 1) * (E * (1 + d) + 1) * (b - a) = 2 * (E * d) := by
    have x1 : (E + 1) * (b * (E * (1 + d) + 1)) = (E + 1) * (E * (1 + d) - 1) := by rw [h2]
    have x2 : (E * (1 + d) + 1) * (a * (E + 1)) = (E * (1 + d) + 1) * (E - 1) := by rw [h1]
    (first | (clear hd hE hEd p1 p2 p12 x1 x2; grind) | grind)
  have ha0 : 0 ≤ a := div_le' p1 (by (first | (clear hd h2 hEd p1 p2 p12 hdiff; grind) | grind))
  have hba : a ≤ b := div_le' p12 (by (first | (clear hd hE h1 h2 p1 p2 p12 ha0; grind) | grind))
  have ha1 : a < 1 := by
    refine Rat.lt_of_mul_lt_mul_left (c := E + 1) ?_ (Rat.le_of_lt p1)
    (first | (clear hd hE h2 hEd p1 p2 p12 hdiff ha0 hba; grind) | grind)
  refine ⟨ha0, ha1, hba, ?_, ?_⟩
  · -- 1 - b b = 4 E (1 + d) / (E (1 + d) + 1) ^ 2
    have hb : (E * (1 + d) + 1) * (E * (1 + d) + 1) * (1 - b * b) = 4 * (E * (1 + d)) := by
      have x1 : (E * (1 + d) + 1) * (E * (1 + d) + 1) * (b * b) = (b * (E * (1 + d) + 1)) * (b * (E * (1 + d) + 1)) := by (first | (clear hd hE h1 h2 hEd p1 p2 p12 hdiff ha0 hba ha1; grind) | grind)
      rw [h2] at x1
      (first | (clear hd hE h1 hEd p1 p2 p12 hdiff ha0 hba ha1 x1; grind) | grind)
    refine div_le' (Rat.mul_pos p12 p2) ?_
    have e1 : (E + 1) * (E * (1 + d) + 1) * (E * (1 + d) + 1) * (2 * (b - a)) = 2 * (E * (1 + d) + 1) * (2 * (E * d)) := by
      have : (E + 1) * (E * (1 + d) + 1) * (E * (1 + d) + 1) * (2 * (b - a)) = 2 * (E * (1 + d) + 1) * ((E + 1) * (E * (1 + d) + 1) * (b - a)) := by (first | (clear hd hE h1 h2 hEd p1 p2 p12 hdiff ha0 hba ha1 hb; grind) | grind)
      rw [this, hdiff]
    have e2 : (E + 1) * (E * (1 + d) + 1) * (E * (1 + d) + 1) * (d * (1 - b * b)) = d * (E + 1) * (4 * (E * (1 + d))) := by
      have : (E + 1) * (E * (1 + d) + 1) * (E * (1 + d) + 1) * (d * (1 - b * b)) = d * (E + 1) * ((E * (1 + d) + 1) * (E * (1 + d) + 1) * (1 - b * b)) := by (first | (clear hd hE h1 h2 hEd p1 p2 p12 hdiff ha0 hba ha1 hb e1; grind) | grind)
      rw [this, hb]
    rw [e1, e2]
    have := Rat.mul_pos hEd hd
    (first | (clear hd hE h1 h2 hEd p1 p2 p12 hdiff ha0 hba ha1 hb e1 e2; grind) | grind)
  · have hb : (E + 1) * (E + 1) * (1 - a * a) = 4 * E := by
      have x1 : (E + 1) * (E + 1) * (a * a) = (a * (E + 1)) * (a * (E + 1)) := by (first | (clear hd hE h1 h2 hEd p1 p2 p12 hdiff ha0 hba ha1; grind) | grind)
      rw [h1] at x1
      (first | (clear hd hE h2 hEd p1 p2 p12 hdiff ha0 hba ha1 x1; grind) | grind)
    refine div_le' (Rat.mul_pos p12 p1) ?_
    have e1 : (E + 1) * (E * (1 + d) + 1) * (E + 1) * (2 * (b - a)) = 2 * (E + 1) * (2 * (E * d)) := by
      have : (E + 1) * (E * (1 + d) + 1) * (E + 1) * (2 * (b - a)) = 2 * (E + 1) * ((E + 1) * (E * (1 + d) + 1) * (b - a)) := by (first | (clear hd hE h1 h2 hEd p1 p2 p12 hdiff ha0 hba ha1 hb; grind) | grind)
      rw [this, hdiff]
    have e2 : (E + 1) * (E * (1 + d) + 1) * (E + 1) * (d * (1 - d) * (1 - a * a)) = d * (1 - d) * (E * (1 + d) + 1) * (4 * E) := by
      have : (E + 1) * (E * (1 + d) + 1) * (E + 1) * (d * (1 - d) * (1 - a * a)) = d * (1 - d) * (E * (1 + d) + 1) * ((E + 1) * (E + 1) * (1 - a * a)) := by (first | (clear hd hE h1 h2 hEd p1 p2 p12 hdiff ha0 hba ha1 hb e1; grind) | grind)
      rw [this, hb]
    rw [e1, e2]
    have y1 := Rat.mul_pos hEd hd
    have y2 := Rat.mul_pos (Rat.mul_pos hEd hEd) hd
    have y3 := Rat.mul_pos (Rat.mul_pos hEd hd) (Rat.mul_pos hEd hd)
    (first | (clear hd hE h1 h2 hEd p1 p2 p12 hdiff ha0 hba ha1 hb e1 e2 y3; grind) | grind)
theorem th_zero : th d 0 = 0 := by
  have := th_mul hd 0
  rw [ex_zero] at this
  (first | (clear hd; grind) | grind)
/-- the rows of the logarithm of exp, from above -/
theorem log_up (K p : Nat) : aK (th d p) K ≤ (p : Rat) * d := by
  induction p with
  | zero =>
    rw [show (((0 : Nat)) : Int) = 0 from rfl, th_zero hd, show ((0 : Nat) : Rat) = 0 from rfl]
    have : ∀ K, aK 0 K = 0 := fun K => by
      induction K with
      | zero => rfl
      | succ K ih =>
        show aK 0 K + 2 * 0 ^ (2 * K + 1) / (2 * (K : Rat) + 1) = 0
        rw [ih, Rat.pow_succ]
        have := k2pos K
        (first | (clear hd ih this; grind) | grind)
    rw [this]; (first | (clear hd this; grind) | grind)
  | succ p ih =>
    obtain ⟨h0, h1, h2, h3, h4⟩ := th_facts hd p
    obtain ⟨h0', h1', _⟩ := th_facts hd (p + 1)
    rw [show ((p + 1 : Nat) : Int) = (p : Int) + 1 by (first | (clear hd ih h0 h1 h2 h3 h4 h0' h1'; omega) | omega)] at *
    rw [cast_succ]
    have h5 := aK_hi h0 h2 (Rat.le_of_lt h1') K
    generalize th d ((p : Int) + 1) = b at *
    generalize th d p = a at *
    have hb : 0 < 1 - b * b := by
      have := Rat.mul_lt_mul_of_pos_left h1' (show 0 < 1 + b by (first | (clear hd h1' ih h0 h1 h2 h3 h4 h5; grind) | grind))
      (first | (clear hd h0' h1' ih h0 h1 h2 h3 h4 h5; grind) | grind)
    have hpw := Rat.pow_nonneg h0' (n := 2 * K)
    have h6 := Rat.mul_nonneg (show 0 ≤ b - a by first | with_reducible assumption | with_reducible exact Rat.le_of_lt (by assumption) | decide +kernel | with_reducible exact qr1 (by assumption) | with_reducible exact qr2 (by assumption) | with_reducible exact qr3 (by assumption) | with_reducible exact qr4 (by assumption) | with_reducible exact qr5 (by assumption) | with_reducible exact qr6 (by assumption) | with_reducible exact qr7 (by assumption) | with_reducible exact qr8 (by assumption) | with_reducible exact qr9 (by assumption) | grind) hpw
    have h7 : aK b K - aK a K ≤ d := div_le' hb (by (first | (clear hd h0' h1' ih h0 h1 h2 h4 hb hpw; grind) | grind))
    (first | (clear hd h0' h1' h0 h1 h2 h3 h4 h5 hb hpw h6; grind) | grind)
end

/-! rows of the logarithm: log (1 - z) = - (z + z ^ 2 / 2 + ...) -/
noncomputable def hS (z : Rat) : Nat → Rat
  | 0 => 0
  | n + 1 => hS z n + z ^ (n + 1) / ((n : Rat) + 1)
noncomputable def gsum (z : Rat) : Nat → Rat
  | 0 => 0
  | n + 1 => gsum z n + z ^ n
noncomputable def gS (z : Rat) : Nat → Rat
  | 0 => 0
  | n + 1 => gS z n + z ^ n / ((n : Rat) + 1)
theorem gsum_mul (z : Rat) (n : Nat) : gsum z n * (1 - z) = 1 - z ^ n := by
  induction n with
  | zero => show 0 * (1 - z) = 1 - z ^ 0; rw [Rat.pow_zero]; grind
  | succ n ih => show (gsum z n + z ^ n) * (1 - z) = 1 - z ^ (n + 1); rw [Rat.pow_succ]; grind
theorem gS_mul (z : Rat) (n : Nat) : z * gS z n = hS z n := by
  induction n with
  | zero => show z * 0 = 0; grind
  | succ n ih =>
    have := npos n
    show z * (gS z n + z ^ n / ((n : Rat) + 1)) = hS z n + z ^ (n + 1) / ((n : Rat) + 1)
    rw [Rat.pow_succ]
    generalize z ^ n = a at *
    (first | (clear this; grind) | grind)
theorem pow_wi {z U : Rat} (h : Wi z U) : ∀ n : Nat, Wi (z ^ n) (U ^ n)
  | 0 => by rw [Rat.pow_zero, Rat.pow_zero]; constructor <;> (first | (clear h; grind) | grind)
  | n + 1 => by rw [Rat.pow_succ, Rat.pow_succ]; exact (pow_wi h n).mul h
theorem sq_nn (h : Rat) : 0 ≤ h * h := by
  rcases Rat.le_total (a := 0) (b := h) with h0 | h0
  · exact Rat.mul_nonneg h0 h0
  · have := Rat.mul_nonneg (show 0 ≤ -h by first | with_reducible assumption | with_reducible exact Rat.le_of_lt (by assumption) | decide +kernel | with_reducible exact qr1 (by assumption) | with_reducible exact qr2 (by assumption) | with_reducible exact qr3 (by assumption) | with_reducible exact qr4 (by assumption) | with_reducible exact qr5 (by assumption) | with_reducible exact qr6 (by assumption) | with_reducible exact qr7 (by assumption) | with_reducible exact qr8 (by assumption) | with_reducible exact qr9 (by assumption) | grind) (show 0 ≤ -h by first | with_reducible assumption | with_reducible exact Rat.le_of_lt (by assumption) | decide +kernel | with_reducible exact qr1 (by assumption) | with_reducible exact qr2 (by assumption) | with_reducible exact qr3 (by assumption) | with_reducible exact qr4 (by assumption) | with_reducible exact qr5 (by assumption) | with_reducible exact qr6 (by assumption) | with_reducible exact qr7 (by assumption) | with_reducible exact qr8 (by assumption) | with_reducible exact qr9 (by assumption) | grind); (first | (clear h0; grind) | grind)
theorem one_pow (n : Nat) : (1 : Rat) ^ n = 1 := by
  induction n with
  | zero => rw [Rat.pow_zero]
  | succ n ih => rw [Rat.pow_succ, ih]; (first | (clear ih; grind) | grind)
theorem pow_step {z h : Rat} (h1 : Wi z 1) (h2 : Wi (z - h) 1) : ∀ j : Nat, Wi ((z - h) ^ (j + 1) - z ^ (j + 1) + ((j : Rat) + 1) * h * z ^ j) (((j : Rat) + 1) * ((j : Rat) + 1) * (h * h))
  | 0 => by
    have hh : 0 ≤ h * h := by
      exact sq_nn h
    rw [Rat.pow_succ, Rat.pow_succ, Rat.pow_zero, Rat.pow_zero, show ((0 : Nat) : Rat) = 0 from rfl]
    constructor <;> (first | (clear h1 h2; grind) | grind)
  | j + 1 => by
    have ih := pow_step h1 h2 j
    have hh : 0 ≤ h * h := by
      exact sq_nn h
    have hj : (0 : Rat) ≤ (j : Rat) := Rat.natCast_nonneg
    have hz := pow_wi h1 j
    rw [one_pow] at hz
    have a1 := h2.mul ih
    have a2 : Wi (((j : Rat) + 1) * (h * h) * z ^ j) (((j : Rat) + 1) * (h * h) * 1) := (show Wi (((j : Rat) + 1) * (h * h)) (((j : Rat) + 1) * (h * h)) from by
      have := Rat.mul_nonneg (show (0 : Rat) ≤ (j : Rat) + 1 by first | with_reducible assumption | with_reducible exact Rat.le_of_lt (by assumption) | decide +kernel | with_reducible exact qr1 (by assumption) | with_reducible exact qr2 (by assumption) | with_reducible exact qr3 (by assumption) | with_reducible exact qr4 (by assumption) | with_reducible exact qr5 (by assumption) | with_reducible exact qr6 (by assumption) | with_reducible exact qr7 (by assumption) | with_reducible exact qr8 (by assumption) | with_reducible exact qr9 (by assumption) | grind) hh
      constructor <;> (first | (clear h1 h2 ih hh hj hz a1; grind) | grind)).mul hz
    have a3 := a1.add a2
    rw [cast_succ, Rat.pow_succ (z - h) (j + 1), Rat.pow_succ z (j + 1)]
    rw [Rat.pow_succ z j] at *
    generalize (z - h) ^ (j + 1) = b at *
    generalize z ^ j = c at *
    have e : b * (z - h) - c * z * z + ((j : Rat) + 1 + 1) * h * (c * z) = (z - h) * (b - c * z + ((j : Rat) + 1) * h * c) + ((j : Rat) + 1) * (h * h) * c := by (first | (clear h1 h2 hh hj hz a2 ih a1 a3; grind) | grind)
    rw [e]
    refine a3.le ?_
    have := Rat.mul_nonneg hj hh
    (first | (clear h1 h2 hj hz a2 ih a1 a3 e; grind) | grind)
theorem hS_step {z h : Rat} (h1 : Wi z 1) (h2 : Wi (z - h) 1) (n : Nat) : Wi (hS (z - h) n - hS z n + h * gsum z n) ((n : Rat) * (n : Rat) * (h * h)) := by
  have hh : 0 ≤ h * h := by
    exact sq_nn h
  induction n with
  | zero => show Wi (0 - 0 + h * 0) (((0 : Nat) : Rat) * ((0 : Nat) : Rat) * (h * h)); rw [show ((0 : Nat) : Rat) = 0 from rfl]; constructor <;> (first | (clear h1 h2 hh; grind) | grind)
  | succ n ih =>
    have hp := npos n
    have hn : (0 : Rat) ≤ (n : Rat) := Rat.natCast_nonneg
    have a1 := pow_step h1 h2 n
    have a2 : Wi (((z - h) ^ (n + 1) - z ^ (n + 1)) / ((n : Rat) + 1) + h * z ^ n) (((n : Rat) + 1) * (h * h)) := by
      refine Wi.div hp ?_
      generalize (z - h) ^ (n + 1) = a at *
      generalize z ^ (n + 1) = b at *
      generalize z ^ n = c at *
      generalize (n : Rat) + 1 = q at *
      have e : q * ((a - b) / q + h * c) = a - b + q * h * c := by (first | (clear h1 h2 hh ih hn a1; grind) | grind)
      rw [e]
      refine a1.le ?_
      (first | (clear h1 h2 hh ih hn hp a1 e; grind) | grind)
    have a3 := ih.add a2
    show Wi (hS (z - h) n + (z - h) ^ (n + 1) / ((n : Rat) + 1) - (hS z n + z ^ (n + 1) / ((n : Rat) + 1)) + h * (gsum z n + z ^ n)) _
    rw [cast_succ]
    generalize (z - h) ^ (n + 1) = a at *
    generalize z ^ (n + 1) = b at *
    generalize z ^ n = c at *
    have e : hS (z - h) n + a / ((n : Rat) + 1) - (hS z n + b / ((n : Rat) + 1)) + h * (gsum z n + c) = (hS (z - h) n - hS z n + h * gsum z n) + ((a - b) / ((n : Rat) + 1) + h * c) := by (first | (clear h1 h2 hh ih hp hn a1 a2 a3; grind) | grind)
    rw [e]
    refine a3.le ?_
    have := Rat.mul_nonneg hn hh
    (first | (clear h1 h2 hh ih hp hn a1 a2 a3 e; grind) | grind)
/-- powers near each other -/
theorem pow_lip {z z' U w : Rat} (h1 : Wi z U) (h2 : Wi z' U) (hw : Wi (z' - z) w) : ∀ j : Nat, Wi (z' ^ (j + 1) - z ^ (j + 1)) (((j : Rat) + 1) * (w * U ^ j))
  | 0 => by rw [Rat.pow_succ, Rat.pow_succ, Rat.pow_zero, Rat.pow_zero, Rat.pow_zero, show ((0 : Nat) : Rat) = 0 from rfl]; obtain ⟨a, b⟩ := hw; constructor <;> (first | (clear h1 h2; grind) | grind)
  | j + 1 => by
    have ih := pow_lip h1 h2 hw j
    have a1 := h2.mul ih
    have a2 := hw.mul (pow_wi h1 (j + 1))
    have a3 := a1.add a2
    rw [cast_succ, Rat.pow_succ z' (j + 1), Rat.pow_succ z (j + 1)]
    rw [Rat.pow_succ U j] at *
    generalize z' ^ (j + 1) = a at *
    generalize z ^ (j + 1) = b at *
    have e : a * z' - b * z = z' * (a - b) + (z' - z) * b := by (first | (clear h1 h2 hw a2 ih a1 a3; grind) | grind)
    rw [e]
    exact a3.le (by (first | (clear h1 h2 hw a2 ih a1 a3 e; grind) | grind))
theorem hS_lip {z z' U w : Rat} (h1 : Wi z U) (h2 : Wi z' U) (hw : Wi (z' - z) w) (n : Nat) : Wi (hS z' n - hS z n) (w * gsum U n) := by
  induction n with
  | zero => show Wi (0 - 0) (w * 0); constructor <;> (first | (clear h1 h2 hw; grind) | grind)
  | succ n ih =>
    have hp := npos n
    have a1 := pow_lip h1 h2 hw n
    have a2 : Wi ((z' ^ (n + 1) - z ^ (n + 1)) / ((n : Rat) + 1)) (w * U ^ n) := by
      refine Wi.div hp ?_
      generalize z' ^ (n + 1) - z ^ (n + 1) = a at *
      have e : ((n : Rat) + 1) * (a / ((n : Rat) + 1)) = a := by (first | (clear h1 h2 hw ih hp a1; grind) | grind)
      rw [e]; exact a1
    have a3 := ih.add a2
    show Wi (hS z' n + z' ^ (n + 1) / ((n : Rat) + 1) - (hS z n + z ^ (n + 1) / ((n : Rat) + 1))) (w * (gsum U n + U ^ n))
    generalize z' ^ (n + 1) = a at *
    generalize z ^ (n + 1) = b at *
    have e : hS z' n + a / ((n : Rat) + 1) - (hS z n + b / ((n : Rat) + 1)) = (hS z' n - hS z n) + (a - b) / ((n : Rat) + 1) := by (first | (clear h1 h2 hw ih hp a1 a2 a3; grind) | grind)
    rw [e]
    exact a3.le (by (first | (clear h1 h2 hw ih hp a1 a2 a3 e; grind) | grind))
theorem gS_lip {z z' U w : Rat} (h1 : Wi z U) (h2 : Wi z' U) (hw : Wi (z' - z) w) (n : Nat) : Wi (gS z' (n + 2) - gS z (n + 2)) (w * (gsum U (n + 1) - 1 / 2)) := by
  have hU := h1.nonneg
  have hw0 := hw.nonneg
  induction n with
  | zero =>
    show Wi (0 + z' ^ 0 / (((0 : Nat) : Rat) + 1) + z' ^ 1 / (((1 : Nat) : Rat) + 1) - (0 + z ^ 0 / (((0 : Nat) : Rat) + 1) + z ^ 1 / (((1 : Nat) : Rat) + 1))) (w * (0 + U ^ 0 - 1 / 2))
    rw [Rat.pow_zero, Rat.pow_zero, Rat.pow_zero, Rat.pow_one, Rat.pow_one, show ((0 : Nat) : Rat) = 0 from rfl, show ((1 : Nat) : Rat) = 1 from rfl]
    obtain ⟨a, b⟩ := hw
    constructor <;> (first | (clear h1 h2 hU hw0; grind) | grind)
  | succ n ih =>
    have hp : (0 : Rat) < ((n + 2 : Nat) : Rat) + 1 := npos _
    have a1 := pow_lip h1 h2 hw (n + 1)
    have a2 : Wi ((z' ^ (n + 2) - z ^ (n + 2)) / (((n + 2 : Nat) : Rat) + 1)) (w * U ^ (n + 1)) := by
      refine Wi.div hp ?_
      rw [show n + 1 + 1 = n + 2 from rfl] at a1
      generalize z' ^ (n + 2) - z ^ (n + 2) = a at *
      have e : (((n + 2 : Nat) : Rat) + 1) * (a / (((n + 2 : Nat) : Rat) + 1)) = a := by (first | (clear h1 h2 hw hU hw0 ih hp a1; grind) | grind)
      rw [e]
      refine a1.le ?_
      have e2 : ((n + 2 : Nat) : Rat) = ((n + 1 : Nat) : Rat) + 1 := by norm_cast
      rw [e2]
      have := Rat.mul_nonneg hw0 (Rat.pow_nonneg hU (n := n + 1))
      (first | (clear h1 h2 hw hU hw0 ih hp a1 e e2; grind) | grind)
    have a3 := ih.add a2
    show Wi (gS z' (n + 2) + z' ^ (n + 2) / (((n + 2 : Nat) : Rat) + 1) - (gS z (n + 2) + z ^ (n + 2) / (((n + 2 : Nat) : Rat) + 1))) (w * (gsum U (n + 1) + U ^ (n + 1) - 1 / 2))
    generalize z' ^ (n + 2) = a at *
    generalize z ^ (n + 2) = b at *
    have e : gS z' (n + 2) + a / (((n + 2 : Nat) : Rat) + 1) - (gS z (n + 2) + b / (((n + 2 : Nat) : Rat) + 1)) = (gS z' (n + 2) - gS z (n + 2)) + (a - b) / (((n + 2 : Nat) : Rat) + 1) := by (first | (clear h1 h2 hw hU hw0 ih hp a1 a2 a3; grind) | grind)
    rw [e]
    exact a3.le (by (first | (clear h1 h2 hw hU hw0 ih hp a1 a2 a3 e; grind) | grind))
theorem gsum_nonneg {U : Rat} (hU : 0 ≤ U) (n : Nat) : 0 ≤ gsum U n := by
  induction n with
  | zero => exact Rat.le_refl
  | succ n ih => have := Rat.pow_nonneg hU (n := n); show 0 ≤ gsum U n + U ^ n; (first | (clear hU; grind) | grind)
theorem gsum_le {U : Rat} (hU : 0 ≤ U) (h : U ≤ 1 / 7) (n : Nat) : gsum U n ≤ 7 / 6 := by
  have h1 := gsum_mul U n
  have h2 := Rat.pow_nonneg hU (n := n)
  have h3 := gsum_nonneg hU n
  have h4 := Rat.mul_le_mul_of_nonneg_left (show 6 / 7 ≤ 1 - U by (first | (clear hU h1 h2 h3; grind) | grind)) h3
  (first | (clear hU h h3; grind) | grind)
section
variable {d : Rat} (hd : 0 < d)
include hd
theorem logS_pos (n p : Nat) (h : ex d p ≤ 2) : Wi (hS (1 - ex d p) n + (p : Rat) * d) ((ex d p - 1) ^ (n + 1) / ((n : Rat) + 1) + (p : Rat) * ((n : Rat) * (n : Rat) * (4 * (d * d)))) := by
  induction p with
  | zero =>
    rw [show (((0 : Nat)) : Int) = 0 from rfl, ex_zero, show ((0 : Nat) : Rat) = 0 from rfl]
    have e : hS (1 - 1) n = 0 := by
      rw [show (1 : Rat) - 1 = 0 by (first | (clear hd h; grind) | grind)]
      induction n with
      | zero => rfl
      | succ n ih => show hS 0 n + 0 ^ (n + 1) / ((n : Rat) + 1) = 0; rw [ih, Rat.pow_succ]; have := npos n; (first | (clear hd h ih this; grind) | grind)
    have e2 : (1 - 1 : Rat) ^ (n + 1) / ((n : Rat) + 1) = 0 := by rw [Rat.pow_succ]; have := npos n; (first | (clear hd h e this; grind) | grind)
    rw [e, e2]
    constructor <;> (first | (clear hd h e e2; grind) | grind)
  | succ p ih =>
    have e1 : ex d ((p + 1 : Nat) : Int) = ex d p * (1 + d) := by rw [show ((p + 1 : Nat) : Int) = (p : Int) + 1 by (first | (clear hd ih h; omega) | omega), ex_succ hd]
    have hp0 := ex_one_le hd (show (0 : Int) ≤ p by (first | (clear hd ih h e1; omega) | omega))
    have hle : ex d p ≤ ex d ((p + 1 : Nat) : Int) := ex_mono hd (by (first | (clear hd ih h e1 hp0; omega) | omega))
    have ih := ih (by (first | (clear hd ih e1 hp0; grind) | grind))
    rw [e1] at h hle ⊢
    have hn := npos n
    have hd0 := Rat.le_of_lt hd
    have hde := Rat.mul_nonneg hd0 (show 0 ≤ ex d p by first | with_reducible assumption | with_reducible exact Rat.le_of_lt (by assumption) | decide +kernel | with_reducible exact qr1 (by assumption) | with_reducible exact qr2 (by assumption) | with_reducible exact qr3 (by assumption) | with_reducible exact qr4 (by assumption) | with_reducible exact qr5 (by assumption) | with_reducible exact qr6 (by assumption) | with_reducible exact qr7 (by assumption) | with_reducible exact qr8 (by assumption) | with_reducible exact qr9 (by assumption) | grind)
    have st := hS_step (z := 1 - ex d p) (h := d * ex d p) (by constructor <;> (first | (clear hd e1 ih hn hd0 hde; grind) | grind)) (by constructor <;> (first | (clear hd e1 ih hn hd0 hde; grind) | grind)) n
    have gm := gsum_mul (1 - ex d p) n
    have lo := pow_lo (u := ex d p - 1) (v := ex d p * (1 + d) - 1) (by first | with_reducible assumption | with_reducible exact Rat.le_of_lt (by assumption) | decide +kernel | with_reducible exact qr1 (by assumption) | with_reducible exact qr2 (by assumption) | with_reducible exact qr3 (by assumption) | with_reducible exact qr4 (by assumption) | with_reducible exact qr5 (by assumption) | with_reducible exact qr6 (by assumption) | with_reducible exact qr7 (by assumption) | with_reducible exact qr8 (by assumption) | with_reducible exact qr9 (by assumption) | grind) (by (first | (clear hd h e1 hp0 ih hn hd0 hde st gm; grind) | grind)) n
    have zw := pow_wi (z := 1 - ex d p) (U := ex d p - 1) (by constructor <;> (first | (clear hd h e1 hle ih hn hd0 hde st gm lo; grind) | grind)) n
    rw [show 1 - ex d p - d * ex d p = 1 - ex d p * (1 + d) by (first | (clear hd h e1 hp0 hle ih hn hd0 hde st gm lo zw; grind) | grind)] at st
    rw [cast_succ]
    generalize ex d p = e at *
    generalize hS (1 - e * (1 + d)) n = H' at *
    generalize hS (1 - e) n = H at *
    generalize gsum (1 - e) n = G at *
    generalize (1 - e) ^ n = zn at *
    generalize (e - 1) ^ n = vn at *
    have hvn : 0 ≤ vn := zw.nonneg
    have hlo2 : (e - 1) ^ (n + 1) / ((n : Rat) + 1) + d * vn ≤ (e * (1 + d) - 1) ^ (n + 1) / ((n : Rat) + 1) := by
      refine div_le' hn ?_
      generalize (e - 1) ^ (n + 1) = a at *
      generalize (e * (1 + d) - 1) ^ (n + 1) = b at *
      generalize (n : Rat) + 1 = q at *
      have x1 : q * (a / q + d * vn) = a + q * (d * vn) := by (first | (clear hd hd0 h e1 hp0 hle hde st gm zw hvn ih lo; grind) | grind)
      have x2 : q * (b / q) = b := by (first | (clear hd hd0 h e1 hp0 hle hde st gm zw hvn ih lo x1; grind) | grind)
      rw [x1, x2]
      have x3 := Rat.mul_le_mul_of_nonneg_right (show d ≤ e * (1 + d) - 1 - (e - 1) by have := Rat.mul_le_mul_of_nonneg_left hp0 hd0; (first | (clear hd hd0 h e1 hp0 hle hde st gm zw hvn hn ih lo x1 x2; grind) | grind)) (Rat.mul_nonneg (Rat.le_of_lt hn) hvn)
      (first | (clear hd hd0 h e1 hp0 hle hde st gm zw hvn hn ih x1 x2; grind) | grind)
    have hh : (n : Rat) * (n : Rat) * (d * e * (d * e)) ≤ (n : Rat) * (n : Rat) * (4 * (d * d)) := by
      have hnn : (0 : Rat) ≤ (n : Rat) * (n : Rat) := Rat.mul_nonneg Rat.natCast_nonneg Rat.natCast_nonneg
      refine Rat.mul_le_mul_of_nonneg_left ?_ hnn
      have := rmul (show 0 ≤ e by first | with_reducible assumption | with_reducible exact Rat.le_of_lt (by assumption) | decide +kernel | with_reducible exact qr1 (by assumption) | with_reducible exact qr2 (by assumption) | with_reducible exact qr3 (by assumption) | with_reducible exact qr4 (by assumption) | with_reducible exact qr5 (by assumption) | with_reducible exact qr6 (by assumption) | with_reducible exact qr7 (by assumption) | with_reducible exact qr8 (by assumption) | with_reducible exact qr9 (by assumption) | grind) (show (0 : Rat) ≤ 2 by decide) (show e ≤ 2 by (first | (clear hd hn hd0 e1 hp0 hde ih st gm lo zw hvn hlo2 hnn; grind) | grind)) (show e ≤ 2 by (first | (clear hd hn hd0 e1 hp0 hde ih st gm lo zw hvn hlo2 hnn; grind) | grind))
      have := Rat.mul_le_mul_of_nonneg_left this (Rat.mul_nonneg hd0 hd0)
      (first | (clear hd hn hd0 h e1 hp0 hle hde ih st gm lo zw hvn hlo2 hnn; grind) | grind)
    have e2 : d * e * G = d * (1 - zn) := by
      have : d * e * G = d * (G * (1 - (1 - e))) := by (first | (clear hd hn hd0 h e1 hp0 hle hde ih st gm lo zw hvn hlo2 hh; grind) | grind)
      rw [this, gm]
    rw [e2] at st
    have hz1 := Rat.mul_le_mul_of_nonneg_left zw.1 hd0
    have hz2 := Rat.mul_le_mul_of_nonneg_left zw.2 hd0
    obtain ⟨s1, s2⟩ := st
    obtain ⟨i1, i2⟩ := ih
    constructor <;> (first | (clear hd hn hd0 h e1 hp0 hle hde ih gm lo zw hvn; grind) | grind)
theorem logS_neg (n p : Nat) (h : 1 - ex d (-(p : Int)) ≤ 1 / 7) : Wi (hS (1 - ex d (-(p : Int))) n - (p : Rat) * d) (7 / 6 * ((1 - ex d (-(p : Int))) ^ (n + 1) / ((n : Rat) + 1)) + (p : Rat) * (((n : Rat) * (n : Rat) + (n : Rat)) * (d * d))) := by
  induction p with
  | zero =>
    rw [show (-((0 : Nat) : Int)) = 0 from rfl, ex_zero, show ((0 : Nat) : Rat) = 0 from rfl]
    have e : hS (1 - 1) n = 0 := by
      rw [show (1 : Rat) - 1 = 0 by (first | (clear hd h; grind) | grind)]
      induction n with
      | zero => rfl
      | succ n ih => show hS 0 n + 0 ^ (n + 1) / ((n : Rat) + 1) = 0; rw [ih, Rat.pow_succ]; have := npos n; (first | (clear hd h ih this; grind) | grind)
    have e2 : (1 - 1 : Rat) ^ (n + 1) / ((n : Rat) + 1) = 0 := by rw [Rat.pow_succ]; have := npos n; (first | (clear hd h e this; grind) | grind)
    rw [e, e2]
    constructor <;> (first | (clear hd h e e2; grind) | grind)
  | succ p ih =>
    have e1 : ex d (-(p : Int)) = ex d (-((p + 1 : Nat) : Int)) * (1 + d) := by rw [← ex_succ hd]; congr 1; (first | (clear hd ih h; omega) | omega)
    have hp0 := ex_pos hd (-((p + 1 : Nat) : Int))
    have hp1 := ex_le_one hd (show -((p + 1 : Nat) : Int) ≤ 0 by (first | (clear hd ih h e1 hp0; omega) | omega))
    have hq1 := ex_le_one hd (show -(p : Int) ≤ 0 by (first | (clear hd ih h e1 hp0 hp1; omega) | omega))
    have hle : ex d (-((p + 1 : Nat) : Int)) ≤ ex d (-(p : Int)) := ex_mono hd (by (first | (clear hd ih h e1 hp0 hp1 hq1; omega) | omega))
    have ih := ih (by (first | (clear hd ih e1 hp0 hp1 hq1; grind) | grind))
    rw [e1] at hle hq1 ih
    have hn := npos n
    have hd0 := Rat.le_of_lt hd
    have hde := Rat.mul_nonneg hd0 (Rat.le_of_lt hp0)
    have st := hS_step (z := 1 - ex d (-((p + 1 : Nat) : Int))) (h := d * ex d (-((p + 1 : Nat) : Int))) (by constructor <;> (first | (clear hd h e1 hq1 hle ih hn hd0 hde; grind) | grind)) (by constructor <;> (first | (clear hd e1 hp0 hp1 ih hn hd0 hde; grind) | grind)) n
    have gm := gsum_mul (1 - ex d (-((p + 1 : Nat) : Int))) n
    rw [show 1 - ex d (-((p + 1 : Nat) : Int)) - d * ex d (-((p + 1 : Nat) : Int)) = 1 - ex d (-((p + 1 : Nat) : Int)) * (1 + d) by (first | (clear hd h hp0 hp1 hq1 hle ih hn hd0 hde st gm; grind) | grind)] at st
    rw [cast_succ]
    generalize ex d (-((p + 1 : Nat) : Int)) = e at *
    have lo := pow_lo (u := 1 - e * (1 + d)) (v := 1 - e) (by first | with_reducible assumption | with_reducible exact Rat.le_of_lt (by assumption) | decide +kernel | with_reducible exact qr1 (by assumption) | with_reducible exact qr2 (by assumption) | with_reducible exact qr3 (by assumption) | with_reducible exact qr4 (by assumption) | with_reducible exact qr5 (by assumption) | with_reducible exact qr6 (by assumption) | with_reducible exact qr7 (by assumption) | with_reducible exact qr8 (by assumption) | with_reducible exact qr9 (by assumption) | grind) (by (first | (clear hd hn hd0 h e1 hp0 hp1 hq1 ih hde st gm; grind) | grind)) n
    have hz'0 : 0 ≤ (1 - e * (1 + d)) ^ n := Rat.pow_nonneg (by first | with_reducible assumption | with_reducible exact Rat.le_of_lt (by assumption) | decide +kernel | with_reducible exact qr1 (by assumption) | with_reducible exact qr2 (by assumption) | with_reducible exact qr3 (by assumption) | with_reducible exact qr4 (by assumption) | with_reducible exact qr5 (by assumption) | with_reducible exact qr6 (by assumption) | with_reducible exact qr7 (by assumption) | with_reducible exact qr8 (by assumption) | with_reducible exact qr9 (by assumption) | grind)
    have hup : d * (1 - e) ^ n ≤ d * (1 - e * (1 + d)) ^ n + (n : Rat) * (d * d) := by
      cases n with
      | zero => rw [Rat.pow_zero, Rat.pow_zero, show ((0 : Nat) : Rat) = 0 from rfl]; (first | (clear hd hd0 h e1 hp0 hp1 hq1 hle hde hn ih st gm lo hz'0; grind) | grind)
      | succ m =>
        have hi := pow_hi (u := 1 - e * (1 + d)) (v := 1 - e) (by first | with_reducible assumption | with_reducible exact Rat.le_of_lt (by assumption) | decide +kernel | with_reducible exact qr1 (by assumption) | with_reducible exact qr2 (by assumption) | with_reducible exact qr3 (by assumption) | with_reducible exact qr4 (by assumption) | with_reducible exact qr5 (by assumption) | with_reducible exact qr6 (by assumption) | with_reducible exact qr7 (by assumption) | with_reducible exact qr8 (by assumption) | with_reducible exact qr9 (by assumption) | grind) (by (first | (clear hd hd0 h e1 hp0 hp1 hq1 hde hn ih st gm lo hz'0; grind) | grind)) m
        have hm1 : (1 - e) ^ m ≤ 1 := by
          have := (pow_wi (z := 1 - e) (U := 1) (by constructor <;> (first | (clear hd hd0 h e1 hq1 hle hde hn ih st gm lo hz'0 hi; grind) | grind)) m).2
          rwa [one_pow] at this
        have hm0 : 0 ≤ (1 - e) ^ m := Rat.pow_nonneg (by first | with_reducible assumption | with_reducible exact Rat.le_of_lt (by assumption) | decide +kernel | with_reducible exact qr1 (by assumption) | with_reducible exact qr2 (by assumption) | with_reducible exact qr3 (by assumption) | with_reducible exact qr4 (by assumption) | with_reducible exact qr5 (by assumption) | with_reducible exact qr6 (by assumption) | with_reducible exact qr7 (by assumption) | with_reducible exact qr8 (by assumption) | with_reducible exact qr9 (by assumption) | grind)
        rw [cast_succ]
        have x1 : ((m : Rat) + 1) * (1 - e - (1 - e * (1 + d))) * (1 - e) ^ m ≤ ((m : Rat) + 1) * d := by
          have y1 : (1 - e - (1 - e * (1 + d))) = d * e := by (first | (clear hd hd0 h e1 hp0 hp1 hq1 hle hde hn ih st gm lo hz'0 hi hm1 hm0; grind) | grind)
          rw [y1]
          have y2 := rmul hde (show (0 : Rat) ≤ 1 by decide) (show d * e ≤ d by have := Rat.mul_le_mul_of_nonneg_left hp1 hd0; (first | (clear hd hd0 h e1 hp0 hp1 hq1 hle hde hn ih st gm lo hz'0 hi hm1 hm0 y1; grind) | grind)) hm1
          have y3 := Rat.mul_le_mul_of_nonneg_left y2 (Rat.le_of_lt (npos m))
          (first | (clear hd hd0 h e1 hp0 hp1 hq1 hle hde hn ih st gm lo hz'0 hi hm1 hm0 y1 y2; grind) | grind)
        have x2 := Rat.mul_le_mul_of_nonneg_left (Rat.le_trans hi (show _ ≤ (1 - e * (1 + d)) ^ (m + 1) + ((m : Rat) + 1) * d by (first | (clear hd hd0 h e1 hp0 hp1 hq1 hle hde hn ih st gm lo hz'0 hi hm1 hm0; grind) | grind))) hd0
        (first | (clear hd hd0 h e1 hp0 hp1 hq1 hle hde hn ih st gm lo hz'0 hi hm1 hm0 x1; grind) | grind)
    generalize hS (1 - e * (1 + d)) n = H' at *
    generalize hS (1 - e) n = H at *
    generalize gsum (1 - e) n = G at *
    generalize (1 - e * (1 + d)) ^ n = un at *
    have hlo2 : (1 - e * (1 + d)) ^ (n + 1) / ((n : Rat) + 1) * (7 / 6) + d * un ≤ 7 / 6 * ((1 - e) ^ (n + 1) / ((n : Rat) + 1)) := by
      refine div_le' hn ?_
      generalize (1 - e) ^ (n + 1) = b at *
      generalize (1 - e * (1 + d)) ^ (n + 1) = a at *
      generalize (n : Rat) + 1 = q at *
      have x1 : q * (a / q * (7 / 6) + d * un) = 7 / 6 * a + q * (d * un) := by (first | (clear hd hd0 h e1 hp0 hp1 hq1 hle hde gm st hz'0 hup ih lo; grind) | grind)
      have x2 : q * (7 / 6 * (b / q)) = 7 / 6 * b := by (first | (clear hd hd0 h e1 hp0 hp1 hq1 hle hde gm st hz'0 hup ih lo x1; grind) | grind)
      rw [x1, x2]
      have x3 := Rat.mul_le_mul_of_nonneg_right (show d ≤ 7 / 6 * (1 - e - (1 - e * (1 + d))) by have := Rat.mul_le_mul_of_nonneg_left (show 6 / 7 ≤ e by (first | (clear hd hd0 e1 hp0 hp1 hq1 hle hde gm st hz'0 hup hn ih lo x1 x2; grind) | grind)) hd0; (first | (clear hd hd0 h e1 hp0 hp1 hq1 hle hde gm st hz'0 hup hn ih lo x1 x2; grind) | grind)) (Rat.mul_nonneg (Rat.le_of_lt hn) hz'0)
      (first | (clear hd hd0 h e1 hp0 hp1 hq1 hle hde gm st hz'0 hup hn ih x1 x2; grind) | grind)
    have hh : (n : Rat) * (n : Rat) * (d * e * (d * e)) ≤ (n : Rat) * (n : Rat) * (d * d) := by
      have hnn : (0 : Rat) ≤ (n : Rat) * (n : Rat) := Rat.mul_nonneg Rat.natCast_nonneg Rat.natCast_nonneg
      refine Rat.mul_le_mul_of_nonneg_left ?_ hnn
      have := rmul (Rat.le_of_lt hp0) (show (0 : Rat) ≤ 1 by decide) hp1 hp1
      have := Rat.mul_le_mul_of_nonneg_left this (Rat.mul_nonneg hd0 hd0)
      (first | (clear hd hn hd0 h e1 hp0 hp1 hq1 hle hde ih gm st lo hz'0 hup hlo2 hnn; grind) | grind)
    have e2 : d * e * G = d * (1 - (1 - e) ^ n) := by
      have : d * e * G = d * (G * (1 - (1 - e))) := by (first | (clear hd hn hd0 h e1 hp0 hp1 hq1 hle hde ih gm st lo hz'0 hup hlo2 hh; grind) | grind)
      rw [this, gm]
    rw [e2] at st
    have hzn : 0 ≤ (1 - e) ^ n := Rat.pow_nonneg (by first | with_reducible assumption | with_reducible exact Rat.le_of_lt (by assumption) | decide +kernel | with_reducible exact qr1 (by assumption) | with_reducible exact qr2 (by assumption) | with_reducible exact qr3 (by assumption) | with_reducible exact qr4 (by assumption) | with_reducible exact qr5 (by assumption) | with_reducible exact qr6 (by assumption) | with_reducible exact qr7 (by assumption) | with_reducible exact qr8 (by assumption) | with_reducible exact qr9 (by assumption) | grind)
    generalize (1 - e) ^ n = zn at *
    have hzd := Rat.mul_nonneg hd0 hzn
    obtain ⟨s1, s2⟩ := st
    obtain ⟨i1, i2⟩ := ih
    constructor <;> (first | (clear hd ih hn hd0 h e1 hp0 hp1 hq1 hle hde lo hz'0 gm e2 hzn; grind) | grind)
end

/-! one halving, beside exp -/
theorem sq_lt_of {a b : Rat} (ha : 0 < a) (h : a < b) : a * a < b * b := by
  have h1 := Rat.mul_pos (show 0 < b - a by (first | (clear ha; grind) | grind)) (show 0 < b + a by grind)
  (first | (clear ha h; grind) | grind)
theorem root_hi {m e g b r : Rat} (hc : 0 < m * e + b * g / 2) (heg : e * g = 1) (h : (r - 1 / 2) * (r - 1 / 2) ≤ m * m * (e * e) + m * b) : r - 1 / 2 ≤ m * e + b * g / 2 := by
  refine Rat.not_lt.mp fun hlt => ?_
  have h1 := sq_lt_of hc hlt
  have h2 := sq_nn (b * g)
  have e1 : (m * e + b * g / 2) * (m * e + b * g / 2) = m * m * (e * e) + m * b * (e * g) + b * g * (b * g) / 4 := by (first | (clear hc heg h hlt h1 h2; grind) | grind)
  rw [heg] at e1
  (first | (clear hc heg hlt; grind) | grind)
theorem root_lo {m e g b r k : Rat} (hm : 1000000 ≤ m) (he : 0 < e) (heg : e * g = 1) (hb : Wi b (50 * (e * e))) (hk : k * m = 625 * e) (hk0 : 0 ≤ k) (hr : 0 < r) (h : m * m * (e * e) + m * b ≤ (r + 1 / 2) * (r + 1 / 2)) : m * e + b * g / 2 - k ≤ r + 1 / 2 := by
  refine Rat.not_lt.mp fun hlt => ?_
  have hg : 0 < g := by
    refine Rat.not_le.mp fun hle => ?_
    have := Rat.mul_le_mul_of_nonneg_left hle (Rat.le_of_lt he)
    (first | (clear hm he hb hk hk0 hr h hlt hle; grind) | grind)
  have h1 := sq_lt_of (show 0 < r + 1 / 2 by (first | (clear hm he heg hb hk hk0 h hlt hg; grind) | grind)) hlt
  -- b g lies within 50 e
  have hbg : Wi (b * g) (50 * e) := by
    have := hb.mul (show Wi g g from by constructor <;> (first | (clear hm he heg hb hk hk0 hr h hlt h1; grind) | grind))
    refine this.le ?_
    have : 50 * (e * e) * g = 50 * e * (e * g) := by (first | (clear hm he heg hb hk hk0 hr h hlt hg h1 this; grind) | grind)
    rw [this, heg]; (first | (clear hm he heg hb hk hk0 hr h hlt hg h1 this; grind) | grind)
  have hb2 : b * g * (b * g) ≤ 2500 * (e * e) := by
    have := (hbg.mul hbg).2
    (first | (clear hm he heg hb hk hk0 hr h hlt hg h1 hbg; grind) | grind)
  have hme : 1000000 * e ≤ m * e := Rat.mul_le_mul_of_nonneg_right hm (Rat.le_of_lt he)
  have hke : k ≤ e := by
    refine div_le' (show 0 < m by first | with_reducible assumption | with_reducible exact Rat.le_of_lt (by assumption) | decide +kernel | with_reducible exact qr1 (by assumption) | with_reducible exact qr2 (by assumption) | with_reducible exact qr3 (by assumption) | with_reducible exact qr4 (by assumption) | with_reducible exact qr5 (by assumption) | with_reducible exact qr6 (by assumption) | with_reducible exact qr7 (by assumption) | with_reducible exact qr8 (by assumption) | with_reducible exact qr9 (by assumption) | grind) ?_
    (first | (clear hm heg hb hk0 hr h hlt hg h1 hbg hb2; grind) | grind)
  obtain ⟨c1, c2⟩ := hbg
  have hc : m * e ≤ 2 * (m * e + b * g / 2) - k := by (first | (clear hm heg hb hk hk0 hr h hlt hg h1 hb2 c2; grind) | grind)
  have h3 := Rat.mul_le_mul_of_nonneg_left hc hk0
  have e3 : k * (m * e) = 625 * (e * e) := by
    have : k * (m * e) = k * m * e := by (first | (clear hm he heg hb hk hk0 hr h hlt hg h1 hb2 hme hke c1 c2 hc h3; grind) | grind)
    rw [this, hk]; (first | (clear hm he heg hb hk hk0 hr h hlt hg h1 hb2 hme hke c1 c2 hc h3 this; grind) | grind)
  have e1 : (m * e + b * g / 2 - k) * (m * e + b * g / 2 - k) = m * m * (e * e) + m * b * (e * g) + b * g * (b * g) / 4 - k * (2 * (m * e + b * g / 2) - k) := by (first | (clear hm he heg hb hk hk0 hr h hlt hg h1 hb2 hme hke c1 c2 hc h3 e3; grind) | grind)
  rw [heg] at e1
  (first | (clear hm he heg hb hk hk0 hr hlt hg hme hke c1 c2 hc; grind) | grind)
/-- the halving: its error by exp -/
theorem hv_step {m e g p y0 s r y1 tt lam : Rat} (hm : 1000000 ≤ m) (he : 1 / 3 ≤ e) (heg : e * g = 1) (hg3 : g ≤ 3) (hp : 1 ≤ p) (hlam : 0 ≤ lam) (hlam2 : lam ≤ 45) (htt : 0 ≤ tt) (htt2 : tt ≤ 4)
    (hs : Wi (p * s - y0) (p / 2)) (hr : 0 < r) (hr1 : (r - 1 / 2) * (r - 1 / 2) ≤ m * (m + s)) (hr2 : m * (m + s) ≤ (r + 1 / 2) * (r + 1 / 2)) (hq : Wi ((m + r) * y1 - 2 * m * y0) ((m + r) / 2))
    (hE : Wi (y0 - p * m * (e * e - 1)) (lam * (e * e))) (hth : Wi (2 * p * (e - 1)) ((e + 1) * (tt / 2))) :
    Wi (y1 - 2 * p * m * (e - 1)) ((lam + (g * (1 / 2 + (1 / 4 + g / 8) * tt) + 3 / 1000)) * e) := by
  have he0 : 0 < e := by (first | (clear hm heg hg3 hp hlam hlam2 htt htt2 hs hr hr1 hr2 hq hE hth; grind) | grind)
  have hm0 : 0 < m := by (first | (clear he heg hg3 hp hlam hlam2 htt htt2 hs hr hr1 hr2 hq hE hth he0; grind) | grind)
  have hp0 : 0 < p := by (first | (clear hm he heg hg3 hlam hlam2 htt htt2 hs hr hr1 hr2 hq hE hth he0 hm0; grind) | grind)
  have hg : 0 < g := by
    refine Rat.not_le.mp fun hle => ?_
    have := Rat.mul_le_mul_of_nonneg_left hle (Rat.le_of_lt he0)
    (first | (clear hm he hg3 hp hlam hlam2 htt htt2 hs hr hr1 hr2 hq hE hth he0 hm0 hp0 hle; grind) | grind)
  have hee : 1 / 9 ≤ e * e := by have := rmul (show (0 : Rat) ≤ 1 / 3 by first | with_reducible assumption | with_reducible exact Rat.le_of_lt (by assumption) | decide +kernel | with_reducible exact qr1 (by assumption) | with_reducible exact qr2 (by assumption) | with_reducible exact qr3 (by assumption) | with_reducible exact qr4 (by assumption) | with_reducible exact qr5 (by assumption) | with_reducible exact qr6 (by assumption) | with_reducible exact qr7 (by assumption) | with_reducible exact qr8 (by assumption) | with_reducible exact qr9 (by assumption) | grind) (Rat.le_of_lt he0) he he; (first | (clear hm he heg hg3 hp hlam hlam2 htt htt2 hs hr hr1 hr2 hq hE hth he0 hm0 hp0 hg; grind) | grind)
  obtain ⟨b, hb⟩ : ∃ b, b = m + s - m * (e * e) := ⟨_, rfl⟩
  have hn : m * (m + s) = m * m * (e * e) + m * b := by rw [hb]; (first | (clear hm he heg hg3 hp hlam hlam2 htt htt2 hs hr hr1 hr2 hq hE hth he0 hm0 hp0 hg hee hb; grind) | grind)
  rw [hn] at hr1 hr2
  -- p b = E0 + p δ
  have hpb : Wi (p * b) (lam * (e * e) + p / 2) := by
    have := hE.add hs
    have e1 : y0 - p * m * (e * e - 1) + (p * s - y0) = p * b := by rw [hb]; (first | (clear hm he heg hg3 hp hlam hlam2 htt htt2 hs hr hq hE hth he0 hm0 hp0 hg hee hr2 hr1 hb hn this; grind) | grind)
    rwa [e1] at this
  have hb50 : Wi b (50 * (e * e)) := by
    refine Wi.div hp0 (hpb.le ?_)
    have h1 := Rat.mul_le_mul_of_nonneg_right hlam2 (show 0 ≤ e * e by (first | (clear hm he heg hg3 hp hlam hlam2 htt htt2 hs hr hq hE hth he0 hm0 hp0 hg hr2 hr1 hb hn hpb; grind) | grind))
    have h2 := Rat.mul_le_mul_of_nonneg_right hp (show 0 ≤ e * e by (first | (clear hm he heg hg3 hp hlam hlam2 htt htt2 hs hr hq hE hth he0 hm0 hp0 hg hr2 hr1 hb hn hpb h1; grind) | grind))
    have h3 := Rat.mul_le_mul_of_nonneg_left hee (Rat.le_of_lt hp0)
    (first | (clear hm he heg hg3 hlam hlam2 htt htt2 hs hr hq hE hth he0 hm0 hp0 hg hee hr2 hr1 hb hn hpb; grind) | grind)
  have hbg : Wi (b * g) (50 * e) := by
    have := hb50.mul (show Wi g g from by constructor <;> (first | (clear hm he heg hg3 hp hlam hlam2 htt htt2 hs hr hq hE hth he0 hm0 hp0 hee hr2 hr1 hb hn hpb hb50; grind) | grind))
    refine this.le ?_
    have : 50 * (e * e) * g = 50 * e * (e * g) := by (first | (clear hm he heg hg3 hp hlam hlam2 htt htt2 hs hr hq hE hth he0 hm0 hp0 hg hee hr2 hr1 hb hn hpb hb50 this; grind) | grind)
    rw [this, heg]; (first | (clear hm he heg hg3 hp hlam hlam2 htt htt2 hs hr hq hE hth he0 hm0 hp0 hg hee hr2 hr1 hb hn hpb hb50 this; grind) | grind)
  obtain ⟨k, hk⟩ : ∃ k : Rat, k * m = 625 * e := ⟨625 * e / m, by (first | (clear he hg3 hp hlam hlam2 htt htt2 hs hr hq hE hth he0 hm0 hp0 hg hee hr2 hr1 hn hpb hb50 hbg; grind) | grind)⟩
  have hk0 : 0 ≤ k := by
    refine Rat.not_lt.mp fun hlt => ?_
    have := Rat.mul_lt_mul_of_pos_right hlt hm0
    (first | (clear hm heg hg3 hp hlam hlam2 htt htt2 hs hr hq hE hth he0 hm0 hp0 hg hee hr2 hr1 hb hn hpb hb50 hbg hlt; grind) | grind)
  have hk1 : k * 1000000 ≤ 625 * e := by
    have := Rat.mul_le_mul_of_nonneg_left hm hk0
    (first | (clear hm he heg hg3 hp hlam hlam2 htt htt2 hs hr hq hE hth he0 hm0 hp0 hg hee hr2 hr1 hb hn hpb hb50 hbg hk0; grind) | grind)
  have hme : 1000000 * e ≤ m * e := Rat.mul_le_mul_of_nonneg_right hm (Rat.le_of_lt he0)
  obtain ⟨c1, c2⟩ := hbg
  have hc : 0 < m * e + b * g / 2 := by (first | (clear hm heg hg3 hp hlam hlam2 htt htt2 hs hr hq hE hth he0 hm0 hp0 hg hee hr2 hr1 hb hn hpb hb50 hk hk0 hk1 c2; grind) | grind)
  have r1 := root_hi hc heg hr1
  have r2 := root_lo hm he0 heg hb50 hk hk0 hr hr2
  -- ρ
  obtain ⟨q, hq'⟩ : ∃ q, q = r - m * e - b * g / 2 := ⟨_, rfl⟩
  have hqw : Wi q (1 / 2 + k) := by constructor <;> (first | (clear hm he heg hg3 hp hlam hlam2 htt htt2 hs hr hq hE hth he0 hm0 hp0 hg hee hr2 hr1 hb hn hpb hb50 hk hk1 hme c1 c2 hc; grind) | grind)
  have hrho : Wi (r - m * e) (26 * e + 1 / 2) := by constructor <;> (first | (clear hm heg hg3 hp hlam hlam2 htt htt2 hs hr hq hE hth he0 hm0 hp0 hg hee hr2 hr1 hb hn hpb hb50 hk hk0 hme hc hq' hqw; grind) | grind)
  obtain ⟨D, hD⟩ : ∃ D, D = m + r := ⟨_, rfl⟩
  have hmD : m * (e + 1) * 999973 ≤ D * 1000000 := by
    obtain ⟨x1, x2⟩ := hrho
    have := Rat.mul_le_mul_of_nonneg_right hm (show 0 ≤ e + 1 by first | with_reducible assumption | with_reducible exact Rat.le_of_lt (by assumption) | decide +kernel | with_reducible exact qr1 (by assumption) | with_reducible exact qr2 (by assumption) | with_reducible exact qr3 (by assumption) | with_reducible exact qr4 (by assumption) | with_reducible exact qr5 (by assumption) | with_reducible exact qr6 (by assumption) | with_reducible exact qr7 (by assumption) | with_reducible exact qr8 (by assumption) | with_reducible exact qr9 (by assumption) | grind)
    (first | (clear heg hg3 hp hlam hlam2 htt htt2 hs hr hq hE hth he0 hm0 hp0 hg hee hr2 hr1 hb hn hpb hb50 hk hk0 c2 hc r1 hq' hqw x1 x2 this; grind) | grind)
  have hD0 : 0 < D := by rw [hD]; (first | (clear he heg hg3 hp hlam hlam2 htt htt2 hs hq hE hth he0 hm0 hp0 hg hee hr2 hr1 hb hn hpb hb50 hk hk0 hk1 hme c1 c2 hc r1 r2 hq' hqw hrho hD hmD; grind) | grind)
  rw [← hD] at hq
  obtain ⟨E0, hE0⟩ : ∃ E0, E0 = y0 - p * m * (e * e - 1) := ⟨_, rfl⟩
  rw [← hE0] at hE
  obtain ⟨dl, hdl⟩ : ∃ dl, dl = p * s - y0 := ⟨_, rfl⟩
  rw [← hdl] at hs
  have hpb2 : p * b = E0 + dl := by rw [hE0, hdl, hb]; (first | (clear hm he heg hg3 hp hlam hlam2 htt htt2 hr hth he0 hm0 hp0 hg hee hr2 hr1 hb hn hpb hb50 hk hk0 hk1 hme c1 c2 hc r1 r2 hq' hqw hrho hq hD hmD hD0 hE hE0 hs hdl; grind) | grind)
  -- the identity
  have key : D * (y1 - 2 * p * m * (e - 1)) = (D * y1 - 2 * m * y0) + m * (e + 1) * (g * E0) - m * ((e - 1) * g * dl) - m * (2 * p * (e - 1)) * q := by
    have hr' : r = m * e + b * g / 2 + q := by rw [hq']; (first | (clear hm he heg hg3 hp hlam hlam2 htt htt2 hr hth he0 hm0 hp0 hg hee hr2 hr1 hb hn hpb hb50 hk hk0 hk1 hme c1 c2 hc r1 r2 hq' hqw hrho hq hD hmD hD0 hE hE0 hs hdl hpb2; grind) | grind)
    have hy : y0 = E0 + p * m * (e * e - 1) := by rw [hE0]; (first | (clear hm he heg hg3 hp hlam hlam2 htt htt2 hr hth he0 hm0 hp0 hg hee hr2 hr1 hb hn hpb hb50 hk hk0 hk1 hme c1 c2 hc r1 r2 hq' hqw hrho hq hD hmD hD0 hE hE0 hs hdl hpb2 hr'; grind) | grind)
    have e2 : 2 * p * m * (e - 1) * (b * g / 2) = m * (e - 1) * g * (p * b) := by (first | (clear hm he heg hg3 hp hlam hlam2 htt htt2 hr hth he0 hm0 hp0 hg hee hr2 hr1 hb hn hpb hb50 hk hk0 hk1 hme c1 c2 hc r1 r2 hq' hqw hrho hq hD hmD hD0 hE hE0 hs hdl hpb2 hr' hy; grind) | grind)
    rw [hpb2] at e2
    have e3 : m * (e + 1) * (g * E0) = m * E0 + m * (e * g) * E0 - m * E0 + m * g * E0 := by (first | (clear hm he heg hg3 hp hlam hlam2 htt htt2 hr hth he0 hm0 hp0 hg hee hr2 hr1 hb hn hpb hb50 hk hk0 hk1 hme c1 c2 hc r1 r2 hq' hqw hrho hq hD hmD hD0 hE hE0 hs hdl hpb2 hr' hy e2; grind) | grind)
    rw [heg] at e3
    have e4 : m * (e - 1) * g * (E0 + dl) = m * (e * g) * (E0 + dl) - m * g * (E0 + dl) := by (first | (clear hm he heg hg3 hp hlam hlam2 htt htt2 hr hth he0 hm0 hp0 hg hee hr2 hr1 hb hn hpb hb50 hk hk0 hk1 hme c1 c2 hc r1 r2 hq' hqw hrho hq hD hmD hD0 hE hE0 hs hdl hpb2 hr' hy e2 e3; grind) | grind)
    rw [heg] at e4
    have e5 : m * ((e - 1) * g * dl) = m * (e * g) * dl - m * g * dl := by (first | (clear hm he heg hg3 hp hlam hlam2 htt htt2 hr hth he0 hm0 hp0 hg hee hr2 hr1 hb hn hpb hb50 hk hk0 hk1 hme c1 c2 hc r1 r2 hq' hqw hrho hq hD hmD hD0 hE hE0 hs hdl hpb2 hr' hy e2 e3 e4; grind) | grind)
    rw [heg] at e5
    rw [hD]
    have e6 : (m + r) * (y1 - 2 * p * m * (e - 1)) = (m + r) * y1 - 2 * p * m * (e - 1) * (m + m * e) - 2 * p * m * (e - 1) * (b * g / 2) - 2 * p * m * (e - 1) * q := by rw [hr']; (first | (clear hm he heg hg3 hp hlam hlam2 htt htt2 hr hth he0 hm0 hp0 hg hee hr2 hr1 hb hn hpb hb50 hk hk0 hk1 hme c1 c2 hc r1 r2 hq' hqw hrho hq hD hmD hD0 hE hE0 hs hdl hpb2 hr' hy e2 e3 e4 e5; grind) | grind)
    rw [e6, e2, e4, e3, e5, hy]
    (first | (clear hm he heg hg3 hp hlam hlam2 htt htt2 hr hth he0 hm0 hp0 hg hee hr2 hr1 hb hn hpb hb50 hk hk0 hk1 hme c1 c2 hc r1 r2 hq' hqw hrho hq hD hmD hD0 hE hE0 hs hdl hpb2 hr' hy e2 e3 e4 e5 e6; grind) | grind)
  -- sizes of the parts
  have w1 : Wi (m * (e + 1) * (g * E0)) (m * (e + 1) * (lam * e)) := by
    have h1 := (show Wi (m * (e + 1) * g) (m * (e + 1) * g) from by
      have := Rat.mul_nonneg (Rat.mul_nonneg (Rat.le_of_lt hm0) (show 0 ≤ e + 1 by first | with_reducible assumption | with_reducible exact Rat.le_of_lt (by assumption) | decide +kernel | with_reducible exact qr1 (by assumption) | with_reducible exact qr2 (by assumption) | with_reducible exact qr3 (by assumption) | with_reducible exact qr4 (by assumption) | with_reducible exact qr5 (by assumption) | with_reducible exact qr6 (by assumption) | with_reducible exact qr7 (by assumption) | with_reducible exact qr8 (by assumption) | with_reducible exact qr9 (by assumption) | grind)) (Rat.le_of_lt hg)
      constructor <;> (first | (clear hm he heg hg3 hp hlam hlam2 htt htt2 hr hth he0 hm0 hp0 hg hee hr2 hr1 hb hn hpb hb50 hk hk0 hk1 hme c1 c2 hc r1 r2 hq' hqw hrho hq hD hmD hD0 hE hE0 hs hdl hpb2 key; grind) | grind)).mul hE
    have e1 : m * (e + 1) * g * E0 = m * (e + 1) * (g * E0) := by (first | (clear hm he heg hg3 hp hlam hlam2 htt htt2 hr hth he0 hm0 hp0 hg hee hr2 hr1 hb hn hpb hb50 hk hk0 hk1 hme c1 c2 hc r1 r2 hq' hqw hrho hq hD hmD hD0 hE hE0 hs hdl hpb2 key h1; grind) | grind)
    have e2 : m * (e + 1) * g * (lam * (e * e)) = m * (e + 1) * (lam * e) * (e * g) := by (first | (clear hm he heg hg3 hp hlam hlam2 htt htt2 hr hth he0 hm0 hp0 hg hee hr2 hr1 hb hn hpb hb50 hk hk0 hk1 hme c1 c2 hc r1 r2 hq' hqw hrho hq hD hmD hD0 hE hE0 hs hdl hpb2 key h1 e1; grind) | grind)
    rw [e1, e2, heg] at h1
    exact h1.le (by (first | (clear hm he heg hg3 hp hlam hlam2 htt htt2 hr hth he0 hm0 hp0 hg hee hr2 hr1 hb hn hpb hb50 hk hk0 hk1 hme c1 c2 hc r1 r2 hq' hqw hrho hq hD hmD hD0 hE hE0 hs hdl hpb2 key h1 e1 e2; grind) | grind))
  have hpe : Wi ((e - 1) * dl) ((e + 1) * (tt / 8)) := by
    refine Wi.div (show 0 < 2 * p by (first | (clear hm he heg hg3 hlam hlam2 htt htt2 hr hth he0 hm0 hp0 hg hee hr2 hr1 hb hn hpb hb50 hk hk0 hk1 hme c1 c2 hc r1 r2 hq' hqw hrho hq hD hmD hD0 hE hE0 hs hdl hpb2 key w1; grind) | grind)) ?_
    have h1 := hth.mul hs
    have e1 : 2 * p * (e - 1) * dl = 2 * p * ((e - 1) * dl) := by (first | (clear hm he heg hg3 hp hlam hlam2 htt htt2 hr hth he0 hm0 hp0 hg hee hr2 hr1 hb hn hpb hb50 hk hk0 hk1 hme c1 c2 hc r1 r2 hq' hqw hrho hq hD hmD hD0 hE hE0 hs hdl hpb2 key w1 h1; grind) | grind)
    rw [e1] at h1
    refine h1.le ?_
    (first | (clear hm he heg hg3 hp hlam hlam2 htt htt2 hr hth he0 hm0 hp0 hg hee hr2 hr1 hb hn hpb hb50 hk hk0 hk1 hme c1 c2 hc r1 r2 hq' hqw hrho hq hD hmD hD0 hE hE0 hs hdl hpb2 key w1 h1 e1; grind) | grind)
  have w2 : Wi (m * ((e - 1) * g * dl)) (m * (e + 1) * (g * tt / 8)) := by
    have h1 := (show Wi (m * g) (m * g) from by
      have := Rat.mul_nonneg (Rat.le_of_lt hm0) (Rat.le_of_lt hg)
      constructor <;> (first | (clear hm he heg hg3 hp hlam hlam2 htt htt2 hr hth he0 hm0 hp0 hg hee hr2 hr1 hb hn hpb hb50 hk hk0 hk1 hme c1 c2 hc r1 r2 hq' hqw hrho hq hD hmD hD0 hE hE0 hs hdl hpb2 key w1 hpe; grind) | grind)).mul hpe
    have e1 : m * g * ((e - 1) * dl) = m * ((e - 1) * g * dl) := by (first | (clear hm he heg hg3 hp hlam hlam2 htt htt2 hr hth he0 hm0 hp0 hg hee hr2 hr1 hb hn hpb hb50 hk hk0 hk1 hme c1 c2 hc r1 r2 hq' hqw hrho hq hD hmD hD0 hE hE0 hs hdl hpb2 key w1 hpe h1; grind) | grind)
    rw [e1] at h1
    exact h1.le (by (first | (clear hm he heg hg3 hp hlam hlam2 htt htt2 hr hth he0 hm0 hp0 hg hee hr2 hr1 hb hn hpb hb50 hk hk0 hk1 hme c1 c2 hc r1 r2 hq' hqw hrho hq hD hmD hD0 hE hE0 hs hdl hpb2 key w1 hpe h1 e1; grind) | grind))
  have w3 : Wi (m * (2 * p * (e - 1)) * q) (m * (e + 1) * (tt / 4 + tt * k / 2)) := by
    have h1 := ((show Wi m m from by constructor <;> (first | (clear he heg hg3 hp hlam hlam2 htt htt2 hr hth he0 hm0 hp0 hg hee hr2 hr1 hb hn hpb hb50 hk hk0 hk1 hme c1 c2 hc r1 r2 hq' hqw hrho hq hD hmD hD0 hE hE0 hs hdl hpb2 key w1 hpe w2; grind) | grind)).mul hth).mul hqw
    exact h1.le (by (first | (clear hm he heg hg3 hp hlam hlam2 htt htt2 hr hth he0 hm0 hp0 hg hee hr2 hr1 hb hn hpb hb50 hk hk0 hk1 hme c1 c2 hc r1 r2 hq' hqw hrho hq hD hmD hD0 hE hE0 hs hdl hpb2 key w1 hpe w2 h1; grind) | grind))
  have w4 : Wi (D * (y1 - 2 * p * m * (e - 1))) (D / 2 + m * (e + 1) * (lam * e + g * tt / 8 + (tt / 4 + tt * k / 2))) := by
    rw [key]
    have := ((hq.add w1).add w2.neg).add w3.neg
    have e1 : D * y1 - 2 * m * y0 + m * (e + 1) * (g * E0) + -(m * ((e - 1) * g * dl)) + -(m * (2 * p * (e - 1)) * q) = (D * y1 - 2 * m * y0) + m * (e + 1) * (g * E0) - m * ((e - 1) * g * dl) - m * (2 * p * (e - 1)) * q := by (first | (clear hm he heg hg3 hp hlam hlam2 htt htt2 hr hth he0 hm0 hp0 hg hee hr2 hr1 hb hn hpb hb50 hk hk0 hk1 hme c1 c2 hc r1 r2 hq' hqw hrho hq hD hmD hD0 hE hE0 hs hdl hpb2 key w1 hpe w2 w3 this; grind) | grind)
    rw [e1] at this
    exact this.le (by (first | (clear hm he heg hg3 hp hlam hlam2 htt htt2 hr hth he0 hm0 hp0 hg hee hr2 hr1 hb hn hpb hb50 hk hk0 hk1 hme c1 c2 hc r1 r2 hq' hqw hrho hq hD hmD hD0 hE hE0 hs hdl hpb2 key w1 hpe w2 w3 this e1; grind) | grind))
  refine Wi.div hD0 (w4.le ?_)
  -- the sizes together
  obtain ⟨I, hI⟩ : ∃ I, I = lam * e + g * tt / 8 + (tt / 4 + tt * k / 2) := ⟨_, rfl⟩
  rw [← hI]
  have htk0 := Rat.mul_nonneg htt hk0
  have hgt := Rat.mul_nonneg (Rat.le_of_lt hg) htt
  have hle := Rat.mul_nonneg hlam (Rat.le_of_lt he0)
  have hI0 : 0 ≤ I := by rw [hI]; (first | (clear hm he heg hg3 hp hlam hlam2 htt2 hr hth he0 hm0 hp0 hg hee hr2 hr1 hb hn hpb hb50 hk hk0 hk1 hme c1 c2 hc r1 r2 hq' hqw hrho hq hD hmD hD0 hE hE0 hs hdl hpb2 key w1 hpe w2 w3 w4 hI; grind) | grind)
  have hmI : m * (e + 1) * I * 999973 ≤ D * I * 1000000 := by
    have := Rat.mul_le_mul_of_nonneg_right hmD hI0
    (first | (clear hm he heg hg3 hp hlam hlam2 htt htt2 hr hth he0 hm0 hp0 hg hee hr2 hr1 hb hn hpb hb50 hk hk0 hk1 hme c1 c2 hc r1 r2 hq' hqw hrho hq hD hmD hD0 hE hE0 hs hdl hpb2 key w1 hpe w2 w3 w4 hI htk0 hgt hle hI0; grind) | grind)
  -- I in terms of e
  have i1 : tt * k * 1000000 ≤ 2500 * e := by
    have h1 := Rat.mul_le_mul_of_nonneg_left hk1 htt
    have h2 := Rat.mul_le_mul_of_nonneg_right htt2 (Rat.le_of_lt he0)
    (first | (clear hm he heg hg3 hp hlam hlam2 htt htt2 hr hth he0 hm0 hp0 hg hee hr2 hr1 hb hn hpb hb50 hk hk0 hk1 hme c1 c2 hc r1 r2 hq' hqw hrho hq hD hmD hD0 hE hE0 hs hdl hpb2 key w1 hpe w2 w3 w4 hI htk0 hgt hle hI0 hmI; grind) | grind)
  have i2 : lam * e ≤ 45 * e := Rat.mul_le_mul_of_nonneg_right hlam2 (Rat.le_of_lt he0)
  have i3 : g * tt ≤ 12 := by have := rmul (Rat.le_of_lt hg) (show (0 : Rat) ≤ 4 by decide) hg3 htt2; (first | (clear hm he heg hg3 hp hlam hlam2 htt htt2 hr hth he0 hm0 hp0 hg hee hr2 hr1 hb hn hpb hb50 hk hk0 hk1 hme c1 c2 hc r1 r2 hq' hqw hrho hq hD hmD hD0 hE hE0 hs hdl hpb2 key w1 hpe w2 w3 w4 hI htk0 hgt hle hI0 hmI i1 i2; grind) | grind)
  have hIb : I ≤ 53 * e := by rw [hI]; (first | (clear hm heg hg3 hp hlam hlam2 htt hr hth he0 hm0 hp0 hg hee hr2 hr1 hb hn hpb hb50 hk hk0 hk1 hme c1 c2 hc r1 r2 hq' hqw hrho hq hD hmD hD0 hE hE0 hs hdl hpb2 key w1 hpe w2 w3 w4 hI htk0 hgt hle hI0 hmI; grind) | grind)
  have hfin : m * (e + 1) * I ≤ D * (I + e * (15 / 10000)) := by
    refine div_le' (show (0 : Rat) < 999973 by decide) ?_
    have h1 := Rat.mul_le_mul_of_nonneg_left hIb (Rat.le_of_lt hD0)
    have h2 := Rat.mul_pos hD0 he0
    (first | (clear hm he heg hg3 hp hlam hlam2 htt htt2 hr hth he0 hm0 hp0 hg hee hr2 hr1 hb hn hpb hb50 hk hk0 hk1 hme c1 c2 hc r1 r2 hq' hqw hrho hq hD hmD hD0 hE hE0 hs hdl hpb2 key w1 hpe w2 w3 w4 hI htk0 hgt hle hI0 i1 i2 i3 hIb; grind) | grind)
  have e9 : (lam + (g * (1 / 2 + (1 / 4 + g / 8) * tt) + 3 / 1000)) * e = lam * e + (e * g) / 2 + (e * g) * tt / 4 + (e * g) * g * tt / 8 + 3 / 1000 * e := by (first | (clear hm he heg hg3 hp hlam hlam2 htt htt2 hr hth he0 hm0 hp0 hg hee hr2 hr1 hb hn hpb hb50 hk hk0 hk1 hme c1 c2 hc r1 r2 hq' hqw hrho hq hD hmD hD0 hE hE0 hs hdl hpb2 key w1 hpe w2 w3 w4 hI htk0 hgt hle hI0 hmI i1 i2 i3 hIb hfin; grind) | grind)
  rw [e9, heg]
  have hlast : D / 2 + D * (I + e * (15 / 10000)) ≤ D * (lam * e + 1 / 2 + 1 * tt / 4 + 1 * g * tt / 8 + 3 / 1000 * e) := by
    have h1 : I + e * (15 / 10000) + 1 / 2 ≤ lam * e + 1 / 2 + 1 * tt / 4 + 1 * g * tt / 8 + 3 / 1000 * e := by rw [hI]; (first | (clear hm heg hg3 hp hlam hlam2 htt htt2 hr hth he0 hm0 hp0 hg hee hr2 hr1 hb hn hpb hb50 hk hk0 hk1 hme c1 c2 hc r1 r2 hq' hqw hrho hq hD hmD hD0 hE hE0 hs hdl hpb2 key w1 hpe w2 w3 w4 hI htk0 hgt hle hI0 hmI i2 i3 hIb hfin e9; grind) | grind)
    have := Rat.mul_le_mul_of_nonneg_left h1 (Rat.le_of_lt hD0)
    (first | (clear hm he heg hg3 hp hlam hlam2 htt htt2 hr hth he0 hm0 hp0 hg hee hr2 hr1 hb hn hpb hb50 hk hk0 hk1 hme c1 c2 hc r1 r2 hq' hqw hrho hq hD hmD hD0 hE hE0 hs hdl hpb2 key w1 hpe w2 w3 w4 hI htk0 hgt hle hI0 hmI i1 i2 i3 hIb hfin e9 h1; grind) | grind)
  (first | (clear hm he heg hg3 hp hlam hlam2 htt htt2 hr hth he0 hm0 hp0 hg hee hr2 hr1 hb hn hpb hb50 hk hk0 hk1 hme c1 c2 hc r1 r2 hq' hqw hrho hq hD hmD hD0 hE hE0 hs hdl hpb2 key w1 hpe w2 w3 w4 hI htk0 hgt hle hI0 hmI i1 i2 i3 hIb e9; grind) | grind)

/-! Lambert's rows -/
section
variable {d : Rat} (hd : 0 < d)
include hd
theorem ex_three {Z : Nat} (h1 : (Z : Rat) * d ≤ 1) : ex d Z ≤ 3 := by
  have h := ex_up hd 2 Z
  have h0 : 0 ≤ (Z : Rat) * d := Rat.mul_nonneg Rat.natCast_nonneg (Rat.le_of_lt hd)
  have h2 := sm_mono h0 h1 2
  have h3 := tm_mono h0 h1 3
  have e2 : sm 2 1 = 5 / 2 := by
    show 1 + 1 * 1 / (((0 : Nat) : Rat) + 1) + 1 * 1 / (((0 : Nat) : Rat) + 1) * 1 / (((1 : Nat) : Rat) + 1) = 5 / 2
    rw [show ((0 : Nat) : Rat) = 0 from rfl, show ((1 : Nat) : Rat) = 1 from rfl]; (first | (clear hd h1 h h0 h2 h3; grind) | grind)
  have e3 : tm 3 1 = 1 / 6 := by
    show 1 * 1 / (((0 : Nat) : Rat) + 1) * 1 / (((1 : Nat) : Rat) + 1) * 1 / (((2 : Nat) : Rat) + 1) = 1 / 6
    rw [show ((0 : Nat) : Rat) = 0 from rfl, show ((1 : Nat) : Rat) = 1 from rfl, show ((2 : Nat) : Rat) = 2 from rfl]; (first | (clear hd h1 h h0 h2 h3 e2; grind) | grind)
  have h4 := ex_pos hd Z
  rw [e2] at h2
  rw [e3] at h3
  have h5 := Rat.mul_le_mul_of_nonneg_right h3 (Rat.le_of_lt h4)
  rw [show (2 + 1 : Nat) = 3 from rfl] at h
  (first | (clear hd h1 h0 h3 e2 e3 h4; grind) | grind)
end
/-! the halvings of _ilog, all together -/
/-- a number beside a power, as near as the step allows -/
theorem cross (P : Nat → Prop) : ∀ m : Nat, P 0 → ¬ P m → ∃ k, P k ∧ ¬ P (k + 1)
  | 0, h0, h1 => absurd h0 h1
  | m + 1, h0, h1 => by
    by_cases h : P m
    · exact ⟨m, h, h1⟩
    · exact cross P m h0 h
theorem arch {d X : Rat} (hd : 0 < d) : ∃ N : Nat, X < (N : Rat) * d := by
  have h1 : X / d ≤ ((X / d).ceil : Rat) := Rat.le_ceil
  refine ⟨((X / d).ceil).toNat + 1, ?_⟩
  have h2 : (((X / d).ceil : Int) : Rat) ≤ ((((X / d).ceil).toNat : Nat) : Rat) := by
    have : (X / d).ceil ≤ (((X / d).ceil.toNat : Nat) : Int) := Int.self_le_toNat _
    have := Rat.intCast_le_intCast.mpr this
    rwa [Rat.intCast_natCast] at this
  have h3 := Rat.mul_le_mul_of_nonneg_right (Rat.le_trans h1 h2) (Rat.le_of_lt hd)
  rw [Rat.div_mul_cancel (by (first | (clear h1 h2 h3; grind) | grind))] at h3
  rw [cast_succ]
  (first | (clear h1 h2; grind) | grind)
theorem flog {d X : Rat} (hd : 0 < d) (hX : 0 < X) {c : Int} (hc : 1 ≤ c) : ∃ q : Int, ex d (c * q) ≤ X ∧ X < ex d (c * (q + 1)) := by
  obtain ⟨N, hN⟩ := arch (d := d) (X := X) hd
  obtain ⟨N2, hN2⟩ := arch (d := d) (X := 1 / X) hd
  have up : ∀ n : Nat, 1 + (n : Rat) * d ≤ ex d (c * (n : Int)) := fun n => by
    have h1 := ex_ge_nat hd n
    refine Rat.le_trans h1 (ex_mono hd ?_)
    have := Int.mul_le_mul_of_nonneg_right hc (show (0 : Int) ≤ n by (first | (clear hd hX hc hN hN2 h1; omega) | omega))
    (first | (clear hd hX hc hN hN2 h1; omega) | omega)
  have lo : ex d (c * (-(N2 : Int))) ≤ X := by
    have h1 := up N2
    have h2 := ex_neg hd (c * (N2 : Int))
    have h3 := ex_pos hd (-(c * (N2 : Int)))
    rw [show c * (-(N2 : Int)) = -(c * (N2 : Int)) by (first | (clear hd hX hc hN hN2 up h1 h2 h3; grind) | grind)]
    have h4 := Rat.mul_le_mul_of_nonneg_right (show 1 / X ≤ ex d (c * (N2 : Int)) by (first | (clear hd hX hc hN up h2 h3; grind) | grind)) (Rat.le_of_lt h3)
    rw [h2] at h4
    have h5 := Rat.mul_le_mul_of_nonneg_left h4 (Rat.le_of_lt hX)
    have e : X * (1 / X * ex d (-(c * (N2 : Int)))) = ex d (-(c * (N2 : Int))) := by
      generalize ex d (-(c * (N2 : Int))) = a
      (first | (clear hd hc hN hN2 up h1 h2 h3 h4 h5; grind) | grind)
    rw [e] at h5
    (first | (clear hd hX hc hN hN2 up h1 h2 h3 h4 e; grind) | grind)
  obtain ⟨k, h1, h2⟩ := cross (fun k : Nat => ex d (c * (-(N2 : Int) + (k : Int))) ≤ X) (N2 + N) (by simpa using lo) (by
    have h3 := up N
    rw [show -(N2 : Int) + ((N2 + N : Nat) : Int) = (N : Int) by (first | (clear hd hX hc hN hN2 up lo h3; omega) | omega)]
    intro h
    (first | (clear hd hX hc hN2 up lo; grind) | grind))
  refine ⟨-(N2 : Int) + (k : Int), h1, ?_⟩
  have e : -(N2 : Int) + (k : Int) + 1 = -(N2 : Int) + ((k + 1 : Nat) : Int) := by (first | (clear hd hX hc hN hN2 up lo h1 h2; omega) | omega)
  rw [e]
  exact Rat.not_le.mp h2

/-! what _ilog computes -/
noncomputable def yv (M X : Int) : Nat → Int
  | 0 => X - M
  | k + 1 => divN (2 * (M * yv M X k)) (M + rt (M * (M + divN (yv M X k) (2 ^ k))))
/-- the exponents of the levels -/
noncomputable def qk (Q : Int) (k : Nat) : Int := 32 * 2 ^ (14 - k) * Q
theorem qk_two {Q : Int} {k : Nat} (h : k < 14) : qk Q k = 2 * qk Q (k + 1) := by
  unfold qk
  have : 14 - k = (14 - (k + 1)) + 1 := by omega
  rw [this, Int.pow_succ]; (first | (clear h this; grind) | grind)
theorem qk_pow {Q : Int} : ∀ k : Nat, k ≤ 14 → 2 ^ k * qk Q k = 524288 * Q
  | 0, _ => by unfold qk; show (2 : Int) ^ 0 * (32 * 2 ^ 14 * Q) = 524288 * Q; rw [Int.pow_zero, show (2 : Int) ^ 14 = 16384 from rfl]; grind
  | k + 1, h => by
    have ih := qk_pow (Q := Q) k (by omega)
    rw [qk_two (by (first | (clear ih; omega) | omega))] at ih
    rw [Int.pow_succ]; (first | (clear h; grind) | grind)
/-- one halving's part -/
noncomputable def TT (d tt : Rat) (Q : Int) (k : Nat) : Rat := ex d (-(qk Q k)) * (1 / 2 + (1 / 4 + ex d (-(qk Q k)) / 8) * tt)
noncomputable def lamS (d tt : Rat) (Q : Int) (l0 : Rat) : Nat → Rat
  | 0 => l0
  | k + 1 => lamS d tt Q l0 k + (TT d tt Q (k + 1) + 3 / 1000)
theorem TT_nonneg {d tt : Rat} (hd : 0 < d) (htt : 0 ≤ tt) (Q : Int) (k : Nat) : 0 ≤ TT d tt Q k := by
  have h := ex_pos hd (-(qk Q k))
  unfold TT
  generalize ex d (-(qk Q k)) = g at *
  have := Rat.mul_nonneg (Rat.le_of_lt h) htt
  exact Rat.mul_nonneg (Rat.le_of_lt h) (by (first | (clear hd h; grind) | grind))
theorem lamS_nonneg {d tt l0 : Rat} (hd : 0 < d) (htt : 0 ≤ tt) (h0 : 0 ≤ l0) (Q : Int) (k : Nat) : 0 ≤ lamS d tt Q l0 k := by
  induction k with
  | zero => exact h0
  | succ k ih => have := TT_nonneg hd htt Q (k + 1); show 0 ≤ lamS d tt Q l0 k + (TT d tt Q (k + 1) + 3 / 1000); (first | (clear hd htt h0; grind) | grind)
/-- exp of a number up to 1 -/
theorem ex_lin {d : Rat} (hd : 0 < d) {Z : Nat} (h1 : (Z : Rat) * d ≤ 1) : ex d Z ≤ 1 + 18 / 10 * ((Z : Rat) * d) := by
  have h := ex_up hd 3 Z
  have h3 := ex_three hd h1
  have h0 : 0 ≤ (Z : Rat) * d := Rat.mul_nonneg Rat.natCast_nonneg (Rat.le_of_lt hd)
  have hp := ex_pos hd Z
  generalize (Z : Rat) * d = x at *
  have e3 : sm 3 x = 1 + x + x * x / 2 + x * x * x / 6 := by
    show 1 + 1 * x / (((0 : Nat) : Rat) + 1) + 1 * x / (((0 : Nat) : Rat) + 1) * x / (((1 : Nat) : Rat) + 1) + 1 * x / (((0 : Nat) : Rat) + 1) * x / (((1 : Nat) : Rat) + 1) * x / (((2 : Nat) : Rat) + 1) = _
    rw [show ((0 : Nat) : Rat) = 0 from rfl, show ((1 : Nat) : Rat) = 1 from rfl, show ((2 : Nat) : Rat) = 2 from rfl]; (first | (clear hd h3 hp h1 h h0; grind) | grind)
  have e4 : tm (3 + 1) x = x * x * x * x / 24 := by
    show 1 * x / (((0 : Nat) : Rat) + 1) * x / (((1 : Nat) : Rat) + 1) * x / (((2 : Nat) : Rat) + 1) * x / (((3 : Nat) : Rat) + 1) = _
    rw [show ((0 : Nat) : Rat) = 0 from rfl, show ((1 : Nat) : Rat) = 1 from rfl, show ((2 : Nat) : Rat) = 2 from rfl, show ((3 : Nat) : Rat) = 3 from rfl]; (first | (clear hd h3 hp h1 h h0 e3; grind) | grind)
  rw [e3, e4] at h
  have x2 : x * x ≤ x := by have := Rat.mul_le_mul_of_nonneg_left h1 h0; (first | (clear hd h3 hp h1 h h0 e3 e4; grind) | grind)
  have x20 := Rat.mul_nonneg h0 h0
  have x3 : x * x * x ≤ x := by have := Rat.mul_le_mul_of_nonneg_left h1 x20; (first | (clear hd h3 hp h1 h h0 e3 e4 x20; grind) | grind)
  have x30 := Rat.mul_nonneg x20 h0
  have x4 : x * x * x * x ≤ x := by have := Rat.mul_le_mul_of_nonneg_left h1 x30; (first | (clear hd h3 hp h1 h h0 e3 e4 x2 x20 x30; grind) | grind)
  have x40 := Rat.mul_nonneg x30 h0
  have := Rat.mul_le_mul_of_nonneg_left h3 x40
  (first | (clear hd h3 hp h1 e3 e4 x20 x30 x40; grind) | grind)
/-- the range of the logarithms here -/
structure Rg (d t tt : Rat) (Q : Int) : Prop where
  hd : 0 < d
  ht : t = ((524288 * Q : Int) : Rat) * d
  lo : -2 ≤ t
  hi : t ≤ 4
  abs : (0 ≤ Q ∧ tt = t) ∨ (Q < 0 ∧ tt = -t)
theorem Rg.tt0 {d t tt : Rat} {Q : Int} (h : Rg d t tt Q) : 0 ≤ tt ∧ tt ≤ 4 ∧ (Q < 0 → tt ≤ 2) := by
  have hd := h.hd
  have h1 := h.lo
  have h2 := h.hi
  have h3 := h.ht
  rcases h.abs with ⟨hq, e⟩ | ⟨hq, e⟩
  · have : 0 ≤ ((524288 * Q : Int) : Rat) * d := Rat.mul_nonneg (Rat.intCast_nonneg.mpr (by (first | (clear h hd h1 h2 h3 e; omega) | omega))) (Rat.le_of_lt hd)
    exact ⟨by (first | (clear h hd h1 h2 hq; grind) | grind), by (first | (clear h hd h1 h3 hq this; grind) | grind), fun h => by (first | (clear hd h1 h2 h3 e this; omega) | omega)⟩
  · have : 0 ≤ ((-(524288 * Q) : Int) : Rat) * d := Rat.mul_nonneg (Rat.intCast_nonneg.mpr (by (first | (clear h hd h1 h2 h3 e; omega) | omega))) (Rat.le_of_lt hd)
    rw [Rat.intCast_neg] at this
    exact ⟨by (first | (clear h hd h1 h2 hq; grind) | grind), by (first | (clear h hd h2 h3 hq this; grind) | grind), fun _ => by (first | (clear h hd h2 h3 hq this; grind) | grind)⟩
theorem qk_rat {d t tt : Rat} {Q : Int} (h : Rg d t tt Q) {k : Nat} (hk : k ≤ 14) : (2 : Rat) ^ k * (((qk Q k : Int) : Rat) * d) = t := by
  have e := qk_pow (Q := Q) k hk
  have e2 : (((2 : Int) ^ k * qk Q k : Int) : Rat) = 2 ^ k * ((qk Q k : Int) : Rat) := by rw [Rat.intCast_mul, Rat.intCast_pow]; rfl
  rw [e] at e2
  rw [h.ht, e2]; (first | (clear h hk e e2; grind) | grind)
theorem qk_sign {Q : Int} (k : Nat) : (0 ≤ Q → 0 ≤ qk Q k) ∧ (Q < 0 → qk Q k < 0) := by
  have hp := p2pos (14 - k)
  unfold qk
  constructor
  · intro h; exact Int.mul_nonneg (by (first | (clear h; omega) | omega)) h
  · intro h; exact Int.mul_neg_of_pos_of_neg (by (first | (clear h; omega) | omega)) h
/-- sizes of exp at the levels -/
theorem lev_sz {d t tt : Rat} {Q : Int} (h : Rg d t tt Q) {k : Nat} (hk : k < 14) : 1 / 3 ≤ ex d (qk Q (k + 1)) ∧ ex d (-(qk Q (k + 1))) ≤ 3 ∧ (0 ≤ Q → ex d (-(qk Q (k + 1))) ≤ 1) ∧ (Q < 0 → ∃ x : Rat, x = -(((qk Q (k + 1) : Int) : Rat) * d) ∧ 0 ≤ x ∧ x ≤ 1 ∧ ex d (-(qk Q (k + 1))) ≤ 1 + 18 / 10 * x) := by
  have hd := h.hd
  have hq := qk_rat h (show k + 1 ≤ 14 by (first | (clear h hd; omega) | omega))
  have hp := pow2ge k
  have hs := qk_sign (Q := Q) (k + 1)
  have heg := ex_neg hd (qk Q (k + 1))
  have he := ex_pos hd (qk Q (k + 1))
  have hg := ex_pos hd (-(qk Q (k + 1)))
  have hlo := h.lo
  have key : ex d (-(qk Q (k + 1))) ≤ 3 ∧ (0 ≤ Q → ex d (-(qk Q (k + 1))) ≤ 1) ∧ (Q < 0 → ∃ x : Rat, x = -(((qk Q (k + 1) : Int) : Rat) * d) ∧ 0 ≤ x ∧ x ≤ 1 ∧ ex d (-(qk Q (k + 1))) ≤ 1 + 18 / 10 * x) := by
    rcases Int.lt_or_le Q 0 with hQ | hQ
    · have hneg := hs.2 hQ
      obtain ⟨Z, hZ⟩ := Int.eq_ofNat_of_zero_le (show 0 ≤ -(qk Q (k + 1)) by (first | (clear h hk hd hq hp hs heg he hg hlo hQ; omega) | omega))
      have hZr : ((qk Q (k + 1) : Int) : Rat) = -(Z : Rat) := by
        have : qk Q (k + 1) = -(Z : Int) := by (first | (clear h hk hd hq hp hs heg he hg hlo hQ hneg; omega) | omega)
        rw [this, Rat.intCast_neg, Rat.intCast_natCast]
      have hZd : (Z : Rat) * d ≤ 1 := by
        rw [hZr, Rat.pow_succ] at hq
        have h0 : 0 ≤ (Z : Rat) * d := Rat.mul_nonneg Rat.natCast_nonneg (Rat.le_of_lt hd)
        have h1 := Rat.mul_le_mul_of_nonneg_right hp h0
        (first | (clear h hk hd hp hs heg he hg hQ hneg hZ hZr h0; grind) | grind)
      have h0 : 0 ≤ (Z : Rat) * d := Rat.mul_nonneg Rat.natCast_nonneg (Rat.le_of_lt hd)
      rw [hZ]
      refine ⟨ex_three hd hZd, fun h => by (first | (clear hk hd hq hp hs heg he hg hlo hneg hZ hZr hZd h0; omega) | omega), fun _ => ⟨(Z : Rat) * d, by rw [hZr]; (first | (clear h hk hd hq hp hs heg he hg hlo hQ hneg hZ hZr hZd h0; grind) | grind), h0, hZd, ex_lin hd hZd⟩⟩
    · have := ex_le_one hd (show -(qk Q (k + 1)) ≤ 0 by have := hs.1 hQ; (first | (clear h hk hd hq hp hs heg he hg hlo hQ; omega) | omega))
      exact ⟨by (first | (clear h hk hd hq hp hs heg he hg hlo hQ; grind) | grind), fun _ => this, fun h => by (first | (clear hk hd hq hp hs heg he hg hlo this; omega) | omega)⟩
  refine ⟨?_, key⟩
  have := Rat.mul_le_mul_of_nonneg_left key.1 (Rat.le_of_lt he)
  (first | (clear h hk hd hq hp hs he hg hlo key; grind) | grind)
/-- all parts together stay small -/
theorem lamS_le {d t tt l0 : Rat} {Q : Int} (h : Rg d t tt Q) (h0 : 0 ≤ l0) (h14 : l0 ≤ 14) {k : Nat} (hk : k ≤ 14) : lamS d tt Q l0 k ≤ 45 := by
  obtain ⟨t0, t4, t2⟩ := h.tt0
  have hd := h.hd
  have hkr : (k : Rat) ≤ 14 := by
    have := Rat.natCast_le_natCast.mpr hk
    exact this
  rcases Int.lt_or_le Q 0 with hQ | hQ
  · have key : ∀ k : Nat, k ≤ 14 → lamS d tt Q l0 k + 352 / 100 * (-(((qk Q k : Int) : Rat) * d)) ≤ l0 + 1254 / 1000 * (k : Rat) + 352 / 100 * tt := by
      intro k
      induction k with
      | zero =>
        intro _
        have e := qk_rat h (show 0 ≤ 14 by first | with_reducible assumption | with_reducible exact Int.le_of_lt (by assumption) | with_reducible exact Nat.le_of_lt (by assumption) | with_reducible exact qz1 (by assumption) | with_reducible exact qz2 (by assumption) | with_reducible exact qz3 (by assumption) | with_reducible exact qz4 (by assumption) | with_reducible exact qz5 (by assumption) | with_reducible exact qz6 (by assumption) | with_reducible exact qz7 (by assumption) | with_reducible exact qz8 (by assumption) | with_reducible exact qz9 (by assumption) | with_reducible exact qza (by assumption) | with_reducible exact qzb (by assumption) | with_reducible exact qzc | with_reducible exact qzd | with_reducible exact qze | omega)
        rw [Rat.pow_zero] at e
        have htt : tt = -t := by rcases h.abs with ⟨a, b⟩ | ⟨a, b⟩; (first | (clear h h0 h14 hk t0 t4 t2 hd hkr e b; omega) | omega); exact b
        rw [show ((0 : Nat) : Rat) = 0 from rfl]
        show l0 + _ ≤ _
        (first | (clear h h0 h14 hk t0 t4 t2 hd hkr hQ; grind) | grind)
      | succ k ih =>
        intro hk
        have ih := ih (by (first | (clear h h0 h14 t0 t4 t2 hd hkr hQ ih; omega) | omega))
        obtain ⟨_, _, _, hx⟩ := lev_sz h (show k < 14 by (first | (clear h h0 h14 t0 t4 t2 hd hkr hQ ih; omega) | omega))
        obtain ⟨x, hx, x0, x1, hg⟩ := hx hQ
        have e2 := qk_two (Q := Q) (show k < 14 by (first | (clear h h0 h14 t0 t4 t2 hd hkr hQ ih hx x0 x1 hg; omega) | omega))
        have e3 : ((qk Q k : Int) : Rat) = 2 * ((qk Q (k + 1) : Int) : Rat) := by rw [e2, Rat.intCast_mul]; rfl
        rw [e3] at ih
        rw [cast_succ]
        show lamS d tt Q l0 k + (TT d tt Q (k + 1) + 3 / 1000) + _ ≤ _
        have hg0 := ex_pos hd (-(qk Q (k + 1)))
        have hT : TT d tt Q (k + 1) ≤ 125 / 100 + 351 / 100 * x := by
          unfold TT
          generalize ex d (-(qk Q (k + 1))) = g at *
          have ht2 := t2 hQ
          have g1 := Rat.mul_le_mul_of_nonneg_left ht2 (Rat.le_of_lt hg0)
          have g2 := Rat.mul_le_mul_of_nonneg_left g1 (Rat.le_of_lt hg0)
          have g3 := rmul (Rat.le_of_lt hg0) (show 0 ≤ 1 + 18 / 10 * x by (first | (clear h h0 h14 t0 t4 t2 hd hkr hQ hk ih x0 x1 e2 e3 hx ht2 g1 g2; grind) | grind)) hg hg
          have x2 := Rat.mul_le_mul_of_nonneg_left x1 x0
          (first | (clear h h0 h14 t0 t4 t2 hd hkr hQ hk ih x0 x1 e2 e3 hx hg0 ht2; grind) | grind)
        (first | (clear h h0 h14 t0 t4 t2 hd hkr hQ hk x1 hg e2 e3 hg0; grind) | grind)
    have h1 := key k hk
    have h2 : 0 ≤ -(((qk Q k : Int) : Rat) * d) := by
      have := (qk_sign (Q := Q) k).2 hQ
      have : 0 ≤ ((-(qk Q k) : Int) : Rat) * d := Rat.mul_nonneg (Rat.intCast_nonneg.mpr (by (first | (clear h h0 h14 hk t0 t4 t2 hd hkr hQ key h1; omega) | omega))) (Rat.le_of_lt hd)
      rw [Rat.intCast_neg] at this
      (first | (clear h h0 h14 hk t0 t4 t2 hd hkr hQ key h1; grind) | grind)
    have := t2 hQ
    (first | (clear h h0 hk t0 t4 hd key this; grind) | grind)
  · have key : ∀ k : Nat, k ≤ 14 → lamS d tt Q l0 k ≤ l0 + 2004 / 1000 * (k : Rat) := by
      intro k
      induction k with
      | zero => intro _; rw [show ((0 : Nat) : Rat) = 0 from rfl]; show l0 ≤ _; (first | (clear h h0 h14 hk t0 t4 t2 hd hkr hQ; grind) | grind)
      | succ k ih =>
        intro hk
        have ih := ih (by (first | (clear h h0 h14 t0 t4 t2 hd hkr hQ ih; omega) | omega))
        obtain ⟨_, _, hg, _⟩ := lev_sz h (show k < 14 by (first | (clear h h0 h14 t0 t4 t2 hd hkr hQ ih; omega) | omega))
        have hg := hg hQ
        have hg0 := ex_pos hd (-(qk Q (k + 1)))
        rw [cast_succ]
        show lamS d tt Q l0 k + (TT d tt Q (k + 1) + 3 / 1000) ≤ _
        have hT : TT d tt Q (k + 1) ≤ 2 := by
          unfold TT
          generalize ex d (-(qk Q (k + 1))) = g at *
          have g1 := rmul (Rat.le_of_lt hg0) (show (0 : Rat) ≤ 4 by decide) hg t4
          have g2 := rmul (Rat.le_of_lt hg0) (show (0 : Rat) ≤ 4 by decide) hg (show g * tt ≤ 4 by (first | (clear h h0 h14 t0 t4 t2 hd hkr hQ hk ih hg hg0; grind) | grind))
          (first | (clear h h0 h14 t0 t4 t2 hd hkr hk ih hg hg0; grind) | grind)
        (first | (clear h h0 h14 t0 t4 t2 hd hkr hQ ih hg hg0; grind) | grind)
    have := key k hk
    (first | (clear h h0 hk t0 t4 t2 hd hQ key; grind) | grind)
/-- the hyperbolic tangent is no more than its argument -/
theorem th_lev {d t tt : Rat} {Q : Int} (h : Rg d t tt Q) {k : Nat} (hk : k < 14) : Wi (2 * 2 ^ k * (ex d (qk Q (k + 1)) - 1)) ((ex d (qk Q (k + 1)) + 1) * (tt / 2)) := by
  have hd := h.hd
  have hq := qk_rat h (show k + 1 ≤ 14 by (first | (clear h hd; omega) | omega))
  rw [Rat.pow_succ] at hq
  have hp := pow2pos k
  have gen : ∀ p : Nat, ex d p - 1 ≤ (ex d p + 1) * ((p : Rat) * d / 2) := fun p => by
    have h1 := log_up hd 1 p
    have e : aK (th d p) 1 = 2 * th d p := by
      show 0 + 2 * th d p ^ (2 * 0 + 1) / (2 * ((0 : Nat) : Rat) + 1) = _
      rw [Nat.mul_zero, Nat.zero_add, Rat.pow_one, show ((0 : Nat) : Rat) = 0 from rfl]; (first | (clear h hk hd hq hp h1; grind) | grind)
    rw [e] at h1
    have h2 := th_mul hd (p : Int)
    have h3 := ex_pos hd p
    have h4 := Rat.mul_le_mul_of_nonneg_right h1 (show 0 ≤ ex d p + 1 by first | with_reducible assumption | with_reducible exact Rat.le_of_lt (by assumption) | decide +kernel | with_reducible exact qr1 (by assumption) | with_reducible exact qr2 (by assumption) | with_reducible exact qr3 (by assumption) | with_reducible exact qr4 (by assumption) | with_reducible exact qr5 (by assumption) | with_reducible exact qr6 (by assumption) | with_reducible exact qr7 (by assumption) | with_reducible exact qr8 (by assumption) | with_reducible exact qr9 (by assumption) | grind)
    (first | (clear h hk hd hq hp h1 e h3; grind) | grind)
  rcases h.abs with ⟨hQ, e⟩ | ⟨hQ, e⟩
  · obtain ⟨p, hp'⟩ := Int.eq_ofNat_of_zero_le ((qk_sign (Q := Q) (k + 1)).1 hQ)
    rw [hp'] at hq ⊢
    have h1 := gen p
    have h2 := ex_one_le hd (show (0 : Int) ≤ p by (first | (clear h hk hd hp gen hQ e hq hp' h1; omega) | omega))
    rw [Rat.intCast_natCast] at hq
    have h3 := Rat.mul_le_mul_of_nonneg_left h1 (show 0 ≤ 2 * (2 : Rat) ^ k by (first | (clear h hk hd gen hQ e hq hp' h1 h2; grind) | grind))
    have h4 := Rat.mul_nonneg (show 0 ≤ 2 * (2 : Rat) ^ k by (first | (clear h hk hd gen hQ e hq hp' h1 h2 h3; grind) | grind)) (show 0 ≤ ex d (p : Int) - 1 by first | with_reducible assumption | with_reducible exact Rat.le_of_lt (by assumption) | decide +kernel | with_reducible exact qr1 (by assumption) | with_reducible exact qr2 (by assumption) | with_reducible exact qr3 (by assumption) | with_reducible exact qr4 (by assumption) | with_reducible exact qr5 (by assumption) | with_reducible exact qr6 (by assumption) | with_reducible exact qr7 (by assumption) | with_reducible exact qr8 (by assumption) | with_reducible exact qr9 (by assumption) | grind)
    have e2 : 2 * (2 : Rat) ^ k * ((ex d (p : Int) + 1) * ((p : Rat) * d / 2)) = (ex d (p : Int) + 1) * ((2 : Rat) ^ k * 2 * ((p : Rat) * d) / 2) := by (first | (clear h hk hd hp gen hQ e hq hp' h1 h2 h3 h4; grind) | grind)
    rw [e2, hq, ← e] at h3
    have h5 := h.tt0.1
    have h6 := Rat.mul_nonneg (show 0 ≤ ex d (p : Int) + 1 by (first | (clear h hk hd hp gen hQ e hq hp' h1 h3 h4 e2 h5; grind) | grind)) (show 0 ≤ tt / 2 by (first | (clear h hk hd hp gen hQ e hq hp' h1 h2 h3 h4 e2; grind) | grind))
    constructor <;> (first | (clear h hk hd hp gen hQ e hq hp' h1 h2 e2 h5 h6; grind) | grind)
  · have hneg := (qk_sign (Q := Q) (k + 1)).2 hQ
    obtain ⟨p, hp'⟩ := Int.eq_ofNat_of_zero_le (show 0 ≤ -(qk Q (k + 1)) by (first | (clear h hk hd hq hp gen hQ e; omega) | omega))
    have hqn : qk Q (k + 1) = -(p : Int) := by (first | (clear h hk hd hq hp gen hQ e hneg; omega) | omega)
    rw [hqn, Rat.intCast_neg, Rat.intCast_natCast] at hq
    rw [hqn]
    have h1 := gen p
    have heg := ex_neg hd (p : Int)
    have hg0 := ex_pos hd (-(p : Int))
    have hg1 := ex_le_one hd (show -(p : Int) ≤ 0 by (first | (clear h hk hd hp gen hQ e hq hqn h1 heg hg0; omega) | omega))
    have h1' := Rat.mul_le_mul_of_nonneg_right h1 (Rat.le_of_lt hg0)
    have e2 : (ex d (p : Int) - 1) * ex d (-(p : Int)) = 1 - ex d (-(p : Int)) := by
      have : (ex d (p : Int) - 1) * ex d (-(p : Int)) = ex d (p : Int) * ex d (-(p : Int)) - ex d (-(p : Int)) := by (first | (clear h hk hd hp gen hQ e hneg hq hp' hqn h1 heg hg0 hg1 h1'; grind) | grind)
      rw [this, heg]
    have e3 : (ex d (p : Int) + 1) * ((p : Rat) * d / 2) * ex d (-(p : Int)) = (1 + ex d (-(p : Int))) * ((p : Rat) * d / 2) := by
      have : (ex d (p : Int) + 1) * ((p : Rat) * d / 2) * ex d (-(p : Int)) = (ex d (p : Int) * ex d (-(p : Int)) + ex d (-(p : Int))) * ((p : Rat) * d / 2) := by (first | (clear h hk hd hp gen hQ e hneg hq hp' hqn h1 heg hg0 hg1 h1' e2; grind) | grind)
      rw [this, heg]
    rw [e2, e3] at h1'
    have h3 := Rat.mul_le_mul_of_nonneg_left h1' (show 0 ≤ 2 * (2 : Rat) ^ k by (first | (clear h hk hd gen hQ e hneg hq hp' hqn h1 heg hg0 hg1 h1' e2 e3; grind) | grind))
    have e4 : 2 * (2 : Rat) ^ k * ((1 + ex d (-(p : Int))) * ((p : Rat) * d / 2)) = (1 + ex d (-(p : Int))) * ((2 : Rat) ^ k * 2 * ((p : Rat) * d) / 2) := by (first | (clear h hk hd hp gen hQ e hneg hq hp' hqn h1 heg hg0 hg1 h1' e2 e3 h3; grind) | grind)
    have e5 : (2 : Rat) ^ k * 2 * ((p : Rat) * d) = tt := by rw [e]; (first | (clear h hk hd hp gen hQ e hneg hp' hqn h1 heg hg0 hg1 h1' e2 e3 h3 e4; grind) | grind)
    rw [e4, e5] at h3
    have h4 := Rat.mul_nonneg (show 0 ≤ 2 * (2 : Rat) ^ k by (first | (clear h hk hd gen hQ e hneg hq hp' hqn h1 heg hg0 hg1 h1' e2 e3 h3 e4 e5; grind) | grind)) (show 0 ≤ 1 - ex d (-(p : Int)) by first | with_reducible assumption | with_reducible exact Rat.le_of_lt (by assumption) | decide +kernel | with_reducible exact qr1 (by assumption) | with_reducible exact qr2 (by assumption) | with_reducible exact qr3 (by assumption) | with_reducible exact qr4 (by assumption) | with_reducible exact qr5 (by assumption) | with_reducible exact qr6 (by assumption) | with_reducible exact qr7 (by assumption) | with_reducible exact qr8 (by assumption) | with_reducible exact qr9 (by assumption) | grind)
    have h5 := h.tt0.1
    have h6 := Rat.mul_nonneg (show 0 ≤ ex d (-(p : Int)) + 1 by first | with_reducible assumption | with_reducible exact Rat.le_of_lt (by assumption) | decide +kernel | with_reducible exact qr1 (by assumption) | with_reducible exact qr2 (by assumption) | with_reducible exact qr3 (by assumption) | with_reducible exact qr4 (by assumption) | with_reducible exact qr5 (by assumption) | with_reducible exact qr6 (by assumption) | with_reducible exact qr7 (by assumption) | with_reducible exact qr8 (by assumption) | with_reducible exact qr9 (by assumption) | grind) (show 0 ≤ tt / 2 by (first | (clear h hk hd hp gen hQ hneg hq hp' hqn h1 heg hg0 hg1 h1' e2 e3 h3 e4 e5 h4; grind) | grind))
    constructor <;> (first | (clear h hk hd hp gen hQ e hneg hq hp' hqn h1 heg hg0 hg1 h1' e2 e3 e4 e5 h5 h6; grind) | grind)
/-- the halvings -/
theorem yv_err {d t tt l0 : Rat} {Q M X : Int} (h : Rg d t tt Q) (hM : 10 ^ 6 ≤ M) (h0 : 0 ≤ l0) (h14 : l0 ≤ 14) (hX : Wi ((X : Rat) - (M : Rat) * ex d (qk Q 0)) (l0 * ex d (qk Q 0))) :
    ∀ k : Nat, k ≤ 14 → Wi ((yv M X k : Rat) - 2 ^ k * (M : Rat) * (ex d (qk Q k) - 1)) (lamS d tt Q l0 k * ex d (qk Q k)) ∧ (k < 14 → 0 < M * (M + divN (yv M X k) (2 ^ k))) := by
  have hd := h.hd
  have hMr : (1000000 : Rat) ≤ (M : Rat) := Rat.intCast_le_intCast.mpr hM
  obtain ⟨t0, t4, _⟩ := h.tt0
  have pos : ∀ k : Nat, k < 14 → Wi ((yv M X k : Rat) - 2 ^ k * (M : Rat) * (ex d (qk Q k) - 1)) (lamS d tt Q l0 k * ex d (qk Q k)) → 0 < M * (M + divN (yv M X k) (2 ^ k)) := by
    intro k hk hE
    have hl := lamS_le h h0 h14 (show k ≤ 14 by first | with_reducible assumption | with_reducible exact Int.le_of_lt (by assumption) | with_reducible exact Nat.le_of_lt (by assumption) | with_reducible exact qz1 (by assumption) | with_reducible exact qz2 (by assumption) | with_reducible exact qz3 (by assumption) | with_reducible exact qz4 (by assumption) | with_reducible exact qz5 (by assumption) | with_reducible exact qz6 (by assumption) | with_reducible exact qz7 (by assumption) | with_reducible exact qz8 (by assumption) | with_reducible exact qz9 (by assumption) | with_reducible exact qza (by assumption) | with_reducible exact qzb (by assumption) | with_reducible exact qzc | with_reducible exact qzd | with_reducible exact qze | omega)
    have hl0 := lamS_nonneg hd t0 h0 Q k
    have hdn := divN_rat (a := yv M X k) (p2pos k)
    have e2 : (((2 : Int) ^ k : Int) : Rat) = 2 ^ k := by rw [Rat.intCast_pow]; rfl
    rw [e2] at hdn
    obtain ⟨l1, _⟩ := lev_sz h hk
    have ek : ex d (qk Q k) = ex d (qk Q (k + 1)) * ex d (qk Q (k + 1)) := by rw [qk_two hk, ex_two hd]
    have he9 : 1 / 9 ≤ ex d (qk Q k) := by rw [ek]; have := rmul (show (0 : Rat) ≤ 1 / 3 by first | with_reducible assumption | with_reducible exact Rat.le_of_lt (by assumption) | decide +kernel | with_reducible exact qr1 (by assumption) | with_reducible exact qr2 (by assumption) | with_reducible exact qr3 (by assumption) | with_reducible exact qr4 (by assumption) | with_reducible exact qr5 (by assumption) | with_reducible exact qr6 (by assumption) | with_reducible exact qr7 (by assumption) | with_reducible exact qr8 (by assumption) | with_reducible exact qr9 (by assumption) | grind) (show 0 ≤ ex d (qk Q (k + 1)) by (first | (clear h hM h0 h14 hX hd hMr t0 t4 hk hE hl hl0 hdn e2 ek; grind) | grind)) l1 l1; (first | (clear h hM h0 h14 hX hd hMr t0 t4 hk hE hl hl0 hdn e2 l1 ek; grind) | grind)
    have hp := pow2ge k
    refine Int.mul_pos (by first | with_reducible assumption | with_reducible exact Int.le_of_lt (by assumption) | with_reducible exact Nat.le_of_lt (by assumption) | with_reducible exact qz1 (by assumption) | with_reducible exact qz2 (by assumption) | with_reducible exact qz3 (by assumption) | with_reducible exact qz4 (by assumption) | with_reducible exact qz5 (by assumption) | with_reducible exact qz6 (by assumption) | with_reducible exact qz7 (by assumption) | with_reducible exact qz8 (by assumption) | with_reducible exact qz9 (by assumption) | with_reducible exact qza (by assumption) | with_reducible exact qzb (by assumption) | with_reducible exact qzc | with_reducible exact qzd | with_reducible exact qze | omega) (Rat.intCast_pos.mp ?_)
    rw [Rat.intCast_add]
    generalize ((divN (yv M X k) (2 ^ k) : Int) : Rat) = s at *
    generalize ((yv M X k : Int) : Rat) = y at *
    generalize ex d (qk Q k) = e at *
    generalize (2 : Rat) ^ k = p at *
    obtain ⟨a1, a2⟩ := hdn
    obtain ⟨b1, b2⟩ := hE
    have c1 := Rat.mul_le_mul_of_nonneg_right hl (show 0 ≤ e by (first | (clear h hM h0 h14 hX hd hMr t0 t4 hk hl hl0 l1 ek e2 hp a1 a2 b1 b2; grind) | grind))
    refine Rat.not_le.mp fun hle => ?_
    have c2 := Rat.mul_le_mul_of_nonneg_left hle (show 0 ≤ p by first | with_reducible assumption | with_reducible exact Rat.le_of_lt (by assumption) | decide +kernel | with_reducible exact qr1 (by assumption) | with_reducible exact qr2 (by assumption) | with_reducible exact qr3 (by assumption) | with_reducible exact qr4 (by assumption) | with_reducible exact qr5 (by assumption) | with_reducible exact qr6 (by assumption) | with_reducible exact qr7 (by assumption) | with_reducible exact qr8 (by assumption) | with_reducible exact qr9 (by assumption) | grind)
    have c3 := Rat.mul_le_mul_of_nonneg_right hMr (show 0 ≤ e by (first | (clear h hM h0 h14 hX hd hMr t0 t4 hk hl hl0 l1 ek e2 hp a1 a2 b1 b2 c1 hle c2; grind) | grind))
    have c4 := Rat.mul_le_mul_of_nonneg_left c3 (show 0 ≤ p by first | with_reducible assumption | with_reducible exact Rat.le_of_lt (by assumption) | decide +kernel | with_reducible exact qr1 (by assumption) | with_reducible exact qr2 (by assumption) | with_reducible exact qr3 (by assumption) | with_reducible exact qr4 (by assumption) | with_reducible exact qr5 (by assumption) | with_reducible exact qr6 (by assumption) | with_reducible exact qr7 (by assumption) | with_reducible exact qr8 (by assumption) | with_reducible exact qr9 (by assumption) | grind)
    have c5 := Rat.mul_le_mul_of_nonneg_right hp (show 0 ≤ e by (first | (clear h hM h0 h14 hX hd hMr t0 t4 hk hl hl0 l1 ek e2 hp a1 a2 b1 b2 c1 hle c2 c3 c4; grind) | grind))
    have c6 := Rat.mul_le_mul_of_nonneg_left he9 (show 0 ≤ p by first | with_reducible assumption | with_reducible exact Rat.le_of_lt (by assumption) | decide +kernel | with_reducible exact qr1 (by assumption) | with_reducible exact qr2 (by assumption) | with_reducible exact qr3 (by assumption) | with_reducible exact qr4 (by assumption) | with_reducible exact qr5 (by assumption) | with_reducible exact qr6 (by assumption) | with_reducible exact qr7 (by assumption) | with_reducible exact qr8 (by assumption) | with_reducible exact qr9 (by assumption) | grind)
    (first | (clear h hM h0 h14 hX hd hMr t0 t4 hk hl hl0 l1 ek e2 hp a2 b2 hle c3; grind) | grind)
  intro k
  induction k with
  | zero =>
    intro _
    have base : Wi ((yv M X 0 : Rat) - 2 ^ 0 * (M : Rat) * (ex d (qk Q 0) - 1)) (lamS d tt Q l0 0 * ex d (qk Q 0)) := by
      have e : yv M X 0 = X - M := rfl
      rw [e, Rat.intCast_sub, Rat.pow_zero]
      show Wi _ (l0 * ex d (qk Q 0))
      have : (X : Rat) - (M : Rat) - 1 * (M : Rat) * (ex d (qk Q 0) - 1) = (X : Rat) - (M : Rat) * ex d (qk Q 0) := by (first | (clear h hM h0 h14 hX hd hMr t0 t4 pos e; grind) | grind)
      rw [this]; exact hX
    exact ⟨base, fun hk => pos 0 hk base⟩
  | succ k ih =>
    intro hk
    obtain ⟨hE, hn⟩ := ih (by (first | (clear h hM h0 h14 hX hd hMr t0 t4 pos ih; omega) | omega))
    have hn := hn (by (first | (clear h hM h0 h14 hX hd hMr t0 t4 pos ih hE hn; omega) | omega))
    have hk' : k < 14 := by (first | (clear h hM h0 h14 hX hd hMr t0 t4 pos ih hE hn; omega) | omega)
    have hl := lamS_le h h0 h14 (show k ≤ 14 by first | with_reducible assumption | with_reducible exact Int.le_of_lt (by assumption) | with_reducible exact Nat.le_of_lt (by assumption) | with_reducible exact qz1 (by assumption) | with_reducible exact qz2 (by assumption) | with_reducible exact qz3 (by assumption) | with_reducible exact qz4 (by assumption) | with_reducible exact qz5 (by assumption) | with_reducible exact qz6 (by assumption) | with_reducible exact qz7 (by assumption) | with_reducible exact qz8 (by assumption) | with_reducible exact qz9 (by assumption) | with_reducible exact qza (by assumption) | with_reducible exact qzb (by assumption) | with_reducible exact qzc | with_reducible exact qzd | with_reducible exact qze | omega)
    have hl0 := lamS_nonneg hd t0 h0 Q k
    obtain ⟨l1, l2, _, _⟩ := lev_sz h hk'
    have hth := th_lev h hk'
    have heg := ex_neg hd (qk Q (k + 1))
    have ek : ex d (qk Q k) = ex d (qk Q (k + 1)) * ex d (qk Q (k + 1)) := by rw [qk_two hk', ex_two hd]
    rw [ek] at hE
    have hdn := divN_rat (a := yv M X k) (p2pos k)
    have e2 : (((2 : Int) ^ k : Int) : Rat) = 2 ^ k := by rw [Rat.intCast_pow]; rfl
    rw [e2] at hdn
    obtain ⟨r1, r2, r3⟩ := rt_is hn
    have hD : 0 < M + rt (M * (M + divN (yv M X k) (2 ^ k))) := by (first | (clear h h0 h14 hX hd hMr t0 t4 pos ih hk hE hn hk' hl hl0 l1 l2 hth heg ek hdn e2 r2 r3; omega) | omega)
    have hq := divN_rat (a := 2 * (M * yv M X k)) hD
    have ey : yv M X (k + 1) = divN (2 * (M * yv M X k)) (M + rt (M * (M + divN (yv M X k) (2 ^ k)))) := rfl
    have step : Wi ((yv M X (k + 1) : Rat) - 2 ^ (k + 1) * (M : Rat) * (ex d (qk Q (k + 1)) - 1)) (lamS d tt Q l0 (k + 1) * ex d (qk Q (k + 1))) := by
      rw [ey]
      generalize rt (M * (M + divN (yv M X k) (2 ^ k))) = r at *
      have rr2 : (((r * r - r + 1 : Int)) : Rat) ≤ ((M * (M + divN (yv M X k) (2 ^ k)) : Int) : Rat) := Rat.intCast_le_intCast.mpr (by (first | (clear h hM h0 h14 hX hd hMr t0 t4 pos ih hk hE hn hk' hl hl0 l1 l2 hth heg ek hdn e2 r1 r3 hD hq ey; omega) | omega))
      have rr3 : ((M * (M + divN (yv M X k) (2 ^ k)) : Int) : Rat) ≤ ((r * r + r : Int) : Rat) := Rat.intCast_le_intCast.mpr r3
      have rr1 : (0 : Rat) < (r : Rat) := ipos r1
      rw [Rat.intCast_add, Rat.intCast_sub, Rat.intCast_mul, Rat.intCast_mul, Rat.intCast_add, show ((1 : Int) : Rat) = 1 from rfl] at rr2
      rw [Rat.intCast_add, Rat.intCast_mul, Rat.intCast_mul, Rat.intCast_add] at rr3
      rw [Rat.intCast_add, Rat.intCast_mul, Rat.intCast_mul, show ((2 : Int) : Rat) = 2 from rfl] at hq
      generalize ((divN (2 * (M * yv M X k)) (M + r) : Int) : Rat) = y1 at *
      generalize ((divN (yv M X k) (2 ^ k) : Int) : Rat) = s at *
      have st := hv_step (m := (M : Rat)) (e := ex d (qk Q (k + 1))) (g := ex d (-(qk Q (k + 1)))) (p := 2 ^ k) (y0 := (yv M X k : Rat)) (s := s) (r := (r : Rat)) (y1 := y1) (tt := tt) (lam := lamS d tt Q l0 k)
        hMr l1 heg l2 (pow2ge k) hl0 hl t0 t4 hdn rr1 (by (first | (clear h hM h0 h14 hX hd hMr t0 t4 pos ih hk hE hn hk' hl hl0 l1 l2 hth heg ek e2 r1 r2 r3 hD ey rr1 hq hdn rr3; grind) | grind)) (by (first | (clear h hM h0 h14 hX hd hMr t0 t4 pos ih hk hE hn hk' hl hl0 l1 l2 hth heg ek e2 r1 r2 r3 hD ey rr1 hq hdn rr2; grind) | grind)) (by
          obtain ⟨a, b⟩ := hq
          constructor <;> (first | (clear h hM h0 h14 hX hd hMr t0 t4 pos ih hk hE hn hk' hl hl0 l1 l2 hth heg ek e2 r1 r2 r3 hD ey rr1 hdn rr2 rr3; grind) | grind)) hE hth
      have e3 : (2 : Rat) ^ (k + 1) * (M : Rat) * (ex d (qk Q (k + 1)) - 1) = 2 * 2 ^ k * (M : Rat) * (ex d (qk Q (k + 1)) - 1) := by rw [Rat.pow_succ]; (first | (clear h hM h0 h14 hX hd hMr t0 t4 pos ih hk hE hn hk' hl hl0 l1 l2 hth heg ek e2 r1 r2 r3 hD ey rr1 hq hdn rr2 rr3 st; grind) | grind)
      rw [e3]
      exact st
    exact ⟨step, fun hk => pos (k + 1) hk step⟩

/-! the rows of _ilog -/
noncomputable def lser (M s : Int) : Nat → Int → Int
  | 0, w => w
  | n + 1, w => lser M s n (divN M ((n : Int) + 1) - divN (s * w) M)
noncomputable def er (U : Rat) : Nat → Rat
  | 0 => 0
  | n + 1 => er U n + U ^ n * (if n = 0 then 1 / 2 else 1)
theorem divN_one (M : Int) : divN M 1 = M := by
  obtain ⟨e, h1, h2, h3, _⟩ := divN_spec M 1 (by decide)
  omega
theorem lser_err {M s : Int} {v U : Rat} (hM : 0 < M) (hv : (s : Rat) = (M : Rat) * v) (hU : Wi v U) : ∀ (n : Nat) (w : Int) (h a : Rat), Wi ((w : Rat) - (M : Rat) * h) a → Wi ((lser M s n w : Int) - (M : Rat) * (gS (-v) n + (-v) ^ n * h)) (er U n + U ^ n * a)
  | 0, w, h, a, hw => by
    show Wi ((w : Rat) - (M : Rat) * (0 + (-v) ^ 0 * h)) (0 + U ^ 0 * a)
    rw [Rat.pow_zero, Rat.pow_zero]
    have e1 : (M : Rat) * (0 + 1 * h) = (M : Rat) * h := by (first | (clear hM hv hU hw; grind) | grind)
    rw [e1]
    exact hw.le (by (first | (clear hM hv hU hw e1; grind) | grind))
  | n + 1, w, h, a, hw => by
    have hMr := ipos hM
    have hn := npos n
    have hd2 := divN_rat (a := s * w) hM
    rw [Rat.intCast_mul, hv] at hd2
    have a2 : Wi (((divN (s * w) M : Int) : Rat) - v * (w : Rat)) (1 / 2) := by
      refine Wi.div hMr ?_
      obtain ⟨x, y⟩ := hd2
      constructor <;> (first | (clear hM hv hU hw hMr hn; grind) | grind)
    have a1 : Wi (((divN M ((n : Int) + 1) : Int) : Rat) - (M : Rat) / ((n : Rat) + 1)) (if n = 0 then 0 else 1 / 2) := by
      by_cases h0 : n = 0
      · subst h0
        rw [if_pos rfl]
        have : divN M (((0 : Nat) : Int) + 1) = M := divN_one M
        rw [this, show ((0 : Nat) : Rat) = 0 from rfl]
        constructor <;> (first | (clear hM hv hU hw hMr hd2 a2 hn this; grind) | grind)
      · rw [if_neg h0]
        have hd1 := divN_rat (a := M) (b := (n : Int) + 1) (by first | with_reducible assumption | with_reducible exact Int.le_of_lt (by assumption) | with_reducible exact Nat.le_of_lt (by assumption) | with_reducible exact qz1 (by assumption) | with_reducible exact qz2 (by assumption) | with_reducible exact qz3 (by assumption) | with_reducible exact qz4 (by assumption) | with_reducible exact qz5 (by assumption) | with_reducible exact qz6 (by assumption) | with_reducible exact qz7 (by assumption) | with_reducible exact qz8 (by assumption) | with_reducible exact qz9 (by assumption) | with_reducible exact qza (by assumption) | with_reducible exact qzb (by assumption) | with_reducible exact qzc | with_reducible exact qzd | with_reducible exact qze | omega)
        have e0 : (((n : Int) + 1 : Int) : Rat) = (n : Rat) + 1 := by rw [Rat.intCast_add, Rat.intCast_natCast]; rfl
        rw [e0] at hd1
        refine Wi.div hn ?_
        generalize ((divN M ((n : Int) + 1) : Int) : Rat) = q at *
        generalize (n : Rat) + 1 = i at *
        have e1 : i * (q - (M : Rat) / i) = i * q - (M : Rat) := by (first | (clear hM hv hU hw hMr hd2 a2 h0 hd1; grind) | grind)
        rw [e1]
        exact hd1.le (by (first | (clear hM hv hU hw hMr hd2 a2 h0 hn e0 hd1 e1; grind) | grind))
    have a3 := hU.mul hw
    have hw' : Wi (((divN M ((n : Int) + 1) - divN (s * w) M : Int) : Rat) - (M : Rat) * (1 / ((n : Rat) + 1) + (-v) * h)) ((if n = 0 then 1 / 2 else 1) + U * a) := by
      have := (a1.add a2.neg).add a3.neg
      rw [Rat.intCast_sub]
      generalize ((divN M ((n : Int) + 1) : Int) : Rat) = q at *
      generalize ((divN (s * w) M : Int) : Rat) = r at *
      have e1 : q - r - (M : Rat) * (1 / ((n : Rat) + 1) + -v * h) = q - (M : Rat) / ((n : Rat) + 1) + -(r - v * (w : Rat)) + -(v * ((w : Rat) - (M : Rat) * h)) := by (first | (clear hM hv hU hw hMr hn a3 a1 hd2 a2 this; grind) | grind)
      rw [e1]
      refine this.le ?_
      split <;> (first | (clear hM hv hU hw hMr hn a3 a1 hd2 a2 this e1; grind) | grind)
    have ih := lser_err hM hv hU n (divN M ((n : Int) + 1) - divN (s * w) M) _ _ hw'
    show Wi ((lser M s n (divN M ((n : Int) + 1) - divN (s * w) M) : Int) - (M : Rat) * (gS (-v) n + (-v) ^ n / ((n : Rat) + 1) + (-v) ^ (n + 1) * h)) (er U n + U ^ n * (if n = 0 then 1 / 2 else 1) + U ^ (n + 1) * a)
    rw [Rat.pow_succ, Rat.pow_succ]
    generalize (-v) ^ n = c at *
    have e2 : gS (-v) n + c / ((n : Rat) + 1) + c * -v * h = gS (-v) n + c * (1 / ((n : Rat) + 1) + -v * h) := by (first | (clear hM hv hU hw hMr hn hd2 a2 a1 a3 hw' ih; grind) | grind)
    rw [e2]
    exact ih.le (by (first | (clear hM hv hU hw hMr hn hd2 a2 a1 a3 hw' ih e2; grind) | grind))
theorem er_le {U : Rat} (hU : 0 ≤ U) (h7 : U ≤ 1 / 7) (n : Nat) : er U (n + 1) + U ^ (n + 1) * (1 / 2) ≤ 2 / 3 := by
  have key : ∀ n, er U (n + 1) = gsum U (n + 1) - 1 / 2 := fun n => by
    induction n with
    | zero => show 0 + U ^ 0 * (if 0 = 0 then 1 / 2 else 1) = 0 + U ^ 0 - 1 / 2; rw [Rat.pow_zero, if_pos rfl]; (first | (clear hU h7; grind) | grind)
    | succ n ih =>
      show er U (n + 1) + U ^ (n + 1) * (if n + 1 = 0 then 1 / 2 else 1) = gsum U (n + 1) + U ^ (n + 1) - 1 / 2
      rw [ih, if_neg (by (first | (clear hU h7 ih; omega) | omega))]; (first | (clear hU h7 ih; grind) | grind)
  rw [key]
  have h1 := gsum_le hU h7 (n + 2)
  have e : gsum U (n + 2) = gsum U (n + 1) + U ^ (n + 1) := rfl
  have h2 := Rat.pow_nonneg hU (n := n + 1)
  (first | (clear hU h7 key; grind) | grind)
/-- the last lines of _ilog, beside the rows -/
theorem fin_rows {M y p n' : Int} {n : Nat} {v0 pr : Rat} (hM : 10 ^ 6 ≤ M) (hp : 0 < p) (hpr : (p : Rat) = pr) (hv0 : pr * (M : Rat) * v0 = (y : Rat)) (hv8 : Wi v0 (1 / 8)) (hn : 2 ≤ n) (hn' : n' = (n : Int) + 1) {Y : Rat} (hY : Wi (pr * v0) Y) :
    Wi (((divN (lser M (divN y p) n (divN M n') * y) M : Int) : Rat) + pr * (M : Rat) * hS (-v0) (n + 1)) (1 / 2 + Y) := by
  have hM0 : 0 < M := by first | with_reducible assumption | with_reducible exact Int.le_of_lt (by assumption) | with_reducible exact Nat.le_of_lt (by assumption) | with_reducible exact qz1 (by assumption) | with_reducible exact qz2 (by assumption) | with_reducible exact qz3 (by assumption) | with_reducible exact qz4 (by assumption) | with_reducible exact qz5 (by assumption) | with_reducible exact qz6 (by assumption) | with_reducible exact qz7 (by assumption) | with_reducible exact qz8 (by assumption) | with_reducible exact qz9 (by assumption) | with_reducible exact qza (by assumption) | with_reducible exact qzb (by assumption) | with_reducible exact qzc | with_reducible exact qzd | with_reducible exact qze | omega
  have hMr : (1000000 : Rat) ≤ (M : Rat) := Rat.intCast_le_intCast.mpr hM
  have hpp := ipos hp
  rw [hpr] at hpp
  have hs := divN_rat (a := y) hp
  rw [hpr, ← hv0] at hs
  obtain ⟨v, hv⟩ : ∃ v : Rat, ((divN y p : Int) : Rat) = (M : Rat) * v := ⟨((divN y p : Int) : Rat) / (M : Rat), by (first | (clear hM hp hpr hv0 hv8 hn hn' hY hM0 hpp hs; grind) | grind)⟩
  rw [hv] at hs
  -- v beside v0
  have hvv : Wi (v - v0) (1 / (2 * (M : Rat))) := by
    refine Wi.div (Rat.mul_pos hpp (show (0 : Rat) < (M : Rat) by first | with_reducible assumption | with_reducible exact Rat.le_of_lt (by assumption) | decide +kernel | with_reducible exact qr1 (by assumption) | with_reducible exact qr2 (by assumption) | with_reducible exact qr3 (by assumption) | with_reducible exact qr4 (by assumption) | with_reducible exact qr5 (by assumption) | with_reducible exact qr6 (by assumption) | with_reducible exact qr7 (by assumption) | with_reducible exact qr8 (by assumption) | with_reducible exact qr9 (by assumption) | grind)) ?_
    have e1 : pr * (M : Rat) * (1 / (2 * (M : Rat))) = pr / 2 := by (first | (clear hM hp hv0 hv8 hn hn' hY hM0 hpp hs hv; grind) | grind)
    rw [e1]
    have e2 : pr * (M : Rat) * (v - v0) = pr * ((M : Rat) * v) - pr * (M : Rat) * v0 := by (first | (clear hM hp hpr hv0 hv8 hn hn' hY hM0 hMr hpp hs hv e1; grind) | grind)
    rw [e2]; exact hs
  have hM2 : 1 / (2 * (M : Rat)) ≤ 1 / 2000000 := rdiv_anti (by decide) (by decide) (by (first | (clear hM hp hpr hv0 hv8 hn hn' hY hM0 hpp hs hv hvv; grind) | grind))
  have hv7 : Wi v (1 / 7) := by
    obtain ⟨a, b⟩ := hvv
    obtain ⟨c, e⟩ := hv8
    constructor <;> (first | (clear hM hp hpr hv0 hn hn' hY hM0 hMr hpp hs hv; grind) | grind)
  have hn0 := npos n
  -- the first row
  have hw0 : Wi (((divN M n' : Int) : Rat) - (M : Rat) * (1 / ((n : Rat) + 1))) (1 / 2) := by
    have hd1 := divN_rat (a := M) (b := n') (by (first | (clear hM hp hpr hv0 hv8 hY hM0 hMr hpp hs hv hvv hM2 hv7 hn0; omega) | omega))
    have e0 : ((n' : Int) : Rat) = (n : Rat) + 1 := by rw [hn', Rat.intCast_add, Rat.intCast_natCast]; rfl
    rw [e0] at hd1
    refine Wi.div hn0 ?_
    generalize ((divN M n' : Int) : Rat) = q at *
    generalize (n : Rat) + 1 = i at *
    have e1 : i * (q - (M : Rat) * (1 / i)) = i * q - (M : Rat) := by (first | (clear hM hp hpr hv0 hv8 hn hn' hY hM0 hMr hpp hs hv hvv hM2 hv7 hd1; grind) | grind)
    rw [e1]
    exact hd1.le (by (first | (clear hM hp hpr hv0 hv8 hn hn' hY hM0 hMr hpp hs hv hvv hM2 hv7 hn0 e0 hd1 e1; grind) | grind))
  have hl := lser_err hM0 hv hv7 n (divN M n') _ _ hw0
  obtain ⟨m, rfl⟩ : ∃ m, n = m + 2 := ⟨n - 2, by (first | (clear hM hp hpr hv0 hv8 hY hM0 hMr hpp hs hv hvv hM2 hv7 hn0 hw0 hl; omega) | omega)⟩
  have her := er_le (U := 1 / 7) (by first | with_reducible assumption | with_reducible exact Rat.le_of_lt (by assumption) | decide +kernel | with_reducible exact qr1 (by assumption) | with_reducible exact qr2 (by assumption) | with_reducible exact qr3 (by assumption) | with_reducible exact qr4 (by assumption) | with_reducible exact qr5 (by assumption) | with_reducible exact qr6 (by assumption) | with_reducible exact qr7 (by assumption) | with_reducible exact qr8 (by assumption) | with_reducible exact qr9 (by assumption) | grind) Rat.le_refl (m + 1)
  have hg : gS (-v) (m + 2) + (-v) ^ (m + 2) * (1 / (((m + 2 : Nat) : Rat) + 1)) = gS (-v) (m + 3) := by
    show _ = gS (-v) (m + 2) + (-v) ^ (m + 2) / (((m + 2 : Nat) : Rat) + 1)
    (first | (clear hM hp hpr hv0 hv8 hY hM0 hMr hpp hs hv hvv hM2 hv7 hn hn' hn0 hw0 hl her; grind) | grind)
  rw [hg] at hl
  have hlip := gS_lip (z := -v0) (z' := -v) (U := 1 / 7) (w := 1 / (2 * (M : Rat))) (by obtain ⟨c, e⟩ := hv8; constructor <;> (first | (clear hM hp hpr hv0 hY hM0 hMr hpp hs hv hvv hM2 hv7 hn hn' hn0 hw0 hl her hg; grind) | grind)) (by obtain ⟨c, e⟩ := hv7; constructor <;> (first | (clear hM hp hpr hv0 hv8 hY hM0 hMr hpp hs hv hvv hM2 hn hn' hn0 hw0 hl her hg; grind) | grind)) (by obtain ⟨c, e⟩ := hvv; constructor <;> (first | (clear hM hp hpr hv0 hv8 hY hM0 hMr hpp hs hv hM2 hv7 hn hn' hn0 hw0 hl her hg; grind) | grind)) (m + 1)
  have hgs := gsum_le (U := 1 / 7) (by first | with_reducible assumption | with_reducible exact Rat.le_of_lt (by assumption) | decide +kernel | with_reducible exact qr1 (by assumption) | with_reducible exact qr2 (by assumption) | with_reducible exact qr3 (by assumption) | with_reducible exact qr4 (by assumption) | with_reducible exact qr5 (by assumption) | with_reducible exact qr6 (by assumption) | with_reducible exact qr7 (by assumption) | with_reducible exact qr8 (by assumption) | with_reducible exact qr9 (by assumption) | grind) Rat.le_refl (m + 2)
  rw [show m + 1 + 2 = m + 3 from rfl, show m + 1 + 1 = m + 2 from rfl] at *
  have hgm := gS_mul (-v0) (m + 3)
  have hZ := divN_rat (a := lser M (divN y p) (m + 2) (divN M n') * y) hM0
  rw [Rat.intCast_mul] at hZ
  rw [show m + 2 + 1 = m + 3 from rfl]
  generalize ((divN (lser M (divN y p) (m + 2) (divN M n') * y) M : Int) : Rat) = Z at *
  generalize ((lser M (divN y p) (m + 2) (divN M n') : Int) : Rat) = w1 at *
  rw [← hgm]
  generalize gS (-v) (m + 3) = G at *
  generalize gS (-v0) (m + 3) = G0 at *
  -- M Z + ...
  have hY0 := hY.nonneg
  have b1 : Wi (pr * v0 * (w1 - (M : Rat) * G)) (Y * (2 / 3)) := (hY.mul hl).le (Rat.mul_le_mul_of_nonneg_left her hY0)
  have b2 : Wi (pr * v0 * (G - G0)) (Y * (1 / (3 * (M : Rat)))) := by
    refine (hY.mul hlip).le (Rat.mul_le_mul_of_nonneg_left ?_ hY0)
    have := Rat.mul_le_mul_of_nonneg_left (show gsum (1 / 7) (m + 2) - 1 / 2 ≤ 2 / 3 by (first | (clear hM hp hpr hv0 hv8 hY hM0 hMr hpp hs hv hvv hM2 hv7 hn hn' hn0 hw0 her hZ hg hl hgm hlip hY0 b1; grind) | grind)) (show 0 ≤ 1 / (2 * (M : Rat)) from rdiv_nonneg (by decide) (by (first | (clear hM hp hpr hv0 hv8 hY hM0 hpp hs hv hvv hM2 hv7 hn hn' hn0 hw0 her hgs hZ hg hl hgm hlip hY0 b1; grind) | grind)))
    refine Rat.le_trans this ?_
    have : 1 / (2 * (M : Rat)) * (2 / 3) = 1 / (3 * (M : Rat)) := by (first | (clear hM hp hpr hv0 hv8 hY hM0 hMr hpp hs hv hvv hM2 hv7 hn hn' hn0 hw0 her hgs hZ hg hl hgm hlip hY0 b1 this; grind) | grind)
    rw [this]; exact Rat.le_refl
  have b3 := (show Wi (M : Rat) (M : Rat) from by constructor <;> (first | (clear hM hp hpr hv0 hv8 hY hM0 hpp hs hv hvv hM2 hv7 hn hn' hn0 hw0 her hgs hZ hg hl hgm hlip hY0 b1 b2; grind) | grind)).mul b2
  have e3 : (M : Rat) * (Y * (1 / (3 * (M : Rat)))) = Y / 3 := by (first | (clear hM hp hpr hv0 hv8 hY hM0 hpp hs hv hvv hM2 hv7 hn hn' hn0 hw0 her hgs hZ hg hl hgm hlip hY0 b1 b2 b3; grind) | grind)
  rw [e3] at b3
  refine Wi.div (show (0 : Rat) < (M : Rat) by first | with_reducible assumption | with_reducible exact Rat.le_of_lt (by assumption) | decide +kernel | with_reducible exact qr1 (by assumption) | with_reducible exact qr2 (by assumption) | with_reducible exact qr3 (by assumption) | with_reducible exact qr4 (by assumption) | with_reducible exact qr5 (by assumption) | with_reducible exact qr6 (by assumption) | with_reducible exact qr7 (by assumption) | with_reducible exact qr8 (by assumption) | with_reducible exact qr9 (by assumption) | grind) ?_
  have b4 := (hZ.add ((show Wi (M : Rat) (M : Rat) from by constructor <;> (first | (clear hM hp hpr hv0 hv8 hY hM0 hpp hs hv hvv hM2 hv7 hn hn' hn0 hw0 her hgs hZ hg hl hgm hlip hY0 b1 b2 b3 e3; grind) | grind)).mul b1)).add ((show Wi (M : Rat) (M : Rat) from by constructor <;> (first | (clear hM hp hpr hv0 hv8 hY hM0 hpp hs hv hvv hM2 hv7 hn hn' hn0 hw0 her hgs hZ hg hl hgm hlip hY0 b1 b2 b3 e3; grind) | grind)).mul b3)
  rw [← hv0] at b4
  have e4 : (M : Rat) * Z - w1 * (pr * (M : Rat) * v0) + (M : Rat) * (pr * v0 * (w1 - (M : Rat) * G)) + (M : Rat) * ((M : Rat) * (pr * v0 * (G - G0))) = (M : Rat) * (Z + pr * (M : Rat) * (-v0 * G0)) := by (first | (clear hM hp hpr hv0 hv8 hY hM0 hMr hpp hs hv hvv hM2 hv7 hn hn' hn0 hw0 her hgs hZ hg hl hgm hlip hY0 b1 b2 b3 e3 b4; grind) | grind)
  rw [e4] at b4
  exact b4.le (by (first | (clear hM hp hpr hv0 hv8 hY hM0 hMr hpp hs hv hvv hM2 hv7 hn hn' hn0 hw0 her hgs hZ hg hl hgm hlip hY0 b1 b2 b3 e3 b4 e4; grind) | grind))

/-- a power as near to 1 + v as the step allows, on the side of nought -/
theorem near_pow {d v : Rat} (hd : 0 < d) (hd1 : d ≤ 1 / 1000) (hv : Wi v (1 / 8)) : ∃ P : Int, Wi (ex d P - (1 + v)) (2 * d) ∧ ((0 ≤ P ∧ ex d P - 1 ≤ v ∧ 0 ≤ v) ∨ (P ≤ 0 ∧ 1 - ex d P ≤ -v ∧ v < 0)) := by
  obtain ⟨hv1, hv2⟩ := hv
  obtain ⟨P, h1, h2⟩ := flog hd (X := 1 + v) (by (first | (clear hd hd1 hv2; grind) | grind)) (c := 1) (by decide)
  rw [Int.one_mul] at h1 h2
  have e : ex d (P + 1) = ex d P * (1 + d) := ex_succ hd P
  have hp := ex_pos hd P
  have hpd := Rat.mul_le_mul_of_nonneg_right (show ex d P ≤ 2 by (first | (clear hd hd1 hv1 h2 e hp; grind) | grind)) (Rat.le_of_lt hd)
  by_cases h0 : 0 ≤ v
  · refine ⟨P, ?_, .inl ⟨?_, by (first | (clear hd hd1 hv1 hv2 h2 e hp hpd h0; grind) | grind), h0⟩⟩
    · rw [e] at h2
      constructor <;> (first | (clear hd1 hv1 hv2 e hp h0; grind) | grind)
    · refine Int.not_lt.mp fun hlt => ?_
      have := ex_le_one hd (show P + 1 ≤ 0 by (first | (clear hd hd1 hv1 hv2 h1 h2 e hp hpd h0; omega) | omega))
      (first | (clear hd hd1 hv1 hv2 h1 e hp hpd hlt; grind) | grind)
  · refine ⟨P + 1, ?_, .inr ⟨?_, ?_, by (first | (clear hd hd1 hv1 hv2 h1 h2 e hp hpd; grind) | grind)⟩⟩
    · rw [e] at h2 ⊢
      constructor <;> (first | (clear hd1 hv1 hv2 e hp h0; grind) | grind)
    · refine Int.not_lt.mp fun hlt => ?_
      have := ex_one_le hd (show 0 ≤ P by (first | (clear hd hd1 hv1 hv2 h1 h2 e hp hpd h0; omega) | omega))
      (first | (clear hd hd1 hv1 hv2 h2 e hp hpd hlt; grind) | grind)
    · (first | (clear hd hd1 hv1 hv2 h1 e hp hpd h0; grind) | grind)
/-- the rows at a number near 0 -/
theorem rows_log {d v : Rat} {n : Nat} (hd : 0 < d) (hd1 : d ≤ 1 / 1000) (hv : Wi v (1 / 8)) (hn : n ≤ 60) {w : Rat} (hw : Wi v w) (hw8 : w ≤ 1 / 8) : ∃ P : Int, Wi (ex d P - (1 + v)) (2 * d) ∧ Wi (hS (-v) n + (P : Rat) * d) (7 / 6 * (w ^ (n + 1) / ((n : Rat) + 1)) + 3000 * d) ∧ (∀ u : Rat, Wi ((P : Rat) * d) u → Wi v (1063 / 1000 * u + 2 * d)) := by
  obtain ⟨P, h1, h2⟩ := near_pow hd hd1 hv
  refine ⟨P, h1, ?_⟩
  have hd0 := Rat.le_of_lt hd
  have hnn : (0 : Rat) ≤ (n : Rat) := Rat.natCast_nonneg
  have hn60 : (n : Rat) ≤ 60 := Rat.natCast_le_natCast.mpr hn
  have hn2 : (n : Rat) * (n : Rat) ≤ 3600 := by have := rmul hnn (show (0 : Rat) ≤ 60 by decide) hn60 hn60; (first | (clear hd hd1 hv hn hw hw8 h1 h2 hd0 hnn hn60; grind) | grind)
  have hnp := npos n
  have hw0 := hw.nonneg
  obtain ⟨hv1, hv2⟩ := hv
  obtain ⟨hw1, hw2⟩ := hw
  -- from the power to 1 + v
  have lip : Wi (hS (-v) n - hS (1 - ex d P) n) (3 * d) := by
    have h3 : Wi (1 - ex d P) (1 / 7) := by
      obtain ⟨a, b⟩ := h1
      constructor <;> (first | (clear hd hn h2 hd0 hnn hn60 hn2 hnp hw0 hv1 hv2; grind) | grind)
    have := hS_lip (z := 1 - ex d P) (z' := -v) (U := 1 / 7) (w := 2 * d) h3 (by constructor <;> (first | (clear hd hd1 hn h1 h2 hd0 hnn hn60 hn2 hnp hw0 hv1 hv2 h3; grind) | grind)) (by obtain ⟨a, b⟩ := h1; constructor <;> (first | (clear hd hd1 hn hw8 h2 hd0 hnn hn60 hn2 hnp hw0 hv1 hv2 hw1 hw2 h3; grind) | grind)) n
    refine this.le ?_
    have hg := Rat.mul_le_mul_of_nonneg_left (gsum_le (U := 1 / 7) (by first | with_reducible assumption | with_reducible exact Rat.le_of_lt (by assumption) | decide +kernel | with_reducible exact qr1 (by assumption) | with_reducible exact qr2 (by assumption) | with_reducible exact qr3 (by assumption) | with_reducible exact qr4 (by assumption) | with_reducible exact qr5 (by assumption) | with_reducible exact qr6 (by assumption) | with_reducible exact qr7 (by assumption) | with_reducible exact qr8 (by assumption) | with_reducible exact qr9 (by assumption) | grind) Rat.le_refl n) (show 0 ≤ 2 * d by (first | (clear hd1 hn hw8 h1 h2 hd0 hnn hn60 hn2 hnp hw0 hv1 hv2 hw1 hw2 h3 this; grind) | grind))
    (first | (clear hd1 hn hw8 h1 h2 hd0 hnn hn60 hn2 hnp hw0 hv1 hv2 hw1 hw2 h3 this; grind) | grind)
  rcases h2 with ⟨hP, ha, hv0⟩ | ⟨hP, ha, hv0⟩
  · obtain ⟨p, rfl⟩ := Int.eq_ofNat_of_zero_le hP
    have hE1 := ex_one_le hd (show (0 : Int) ≤ p by (first | (clear hd hd1 hn hw8 hd0 hnn hn60 hn2 hnp hw0 hv1 hv2 hw1 hw2 hv0 h1 lip ha; omega) | omega))
    have hge := ex_ge_nat hd p
    have hl := logS_pos hd n p (by (first | (clear hd hd1 hn hd0 hnn hn60 hn2 hnp hw0 hv1 hv2 hw1 hv0 h1 lip hP hE1 hge; grind) | grind))
    rw [Rat.intCast_natCast]
    have hpd0 : 0 ≤ (p : Rat) * d := Rat.mul_nonneg Rat.natCast_nonneg hd0
    constructor
    · have hpw : (ex d p - 1) ^ (n + 1) ≤ w ^ (n + 1) := pow_mono (by first | with_reducible assumption | with_reducible exact Rat.le_of_lt (by assumption) | decide +kernel | with_reducible exact qr1 (by assumption) | with_reducible exact qr2 (by assumption) | with_reducible exact qr3 (by assumption) | with_reducible exact qr4 (by assumption) | with_reducible exact qr5 (by assumption) | with_reducible exact qr6 (by assumption) | with_reducible exact qr7 (by assumption) | with_reducible exact qr8 (by assumption) | with_reducible exact qr9 (by assumption) | grind) (by (first | (clear hd hd1 hn hw8 hd0 hnn hn60 hn2 hnp hw0 hv1 hv2 hw1 hv0 h1 lip hP hE1 hge hl hpd0; grind) | grind)) _
      have hq : (ex d p - 1) ^ (n + 1) / ((n : Rat) + 1) ≤ w ^ (n + 1) / ((n : Rat) + 1) := by
        refine div_le' hnp ?_
        generalize (ex d p - 1) ^ (n + 1) = a at *
        generalize w ^ (n + 1) = b at *
        generalize (n : Rat) + 1 = q at *
        have x1 : q * (a / q) = a := by (first | (clear hd hd1 hn hw8 hd0 hnn hn60 hn2 hw0 hv1 hv2 hw1 hw2 hv0 h1 lip hP ha hE1 hge hpd0 hpw hl; grind) | grind)
        have x2 : q * (b / q) = b := by (first | (clear hd hd1 hn hw8 hd0 hnn hn60 hn2 hw0 hv1 hv2 hw1 hw2 hv0 h1 lip hP ha hE1 hge hpd0 hpw hl; grind) | grind)
        rw [x1, x2]; exact hpw
      have hq0 : 0 ≤ w ^ (n + 1) / ((n : Rat) + 1) := rdiv_nonneg (Rat.pow_nonneg hw0) hnp
      have ht : (p : Rat) * ((n : Rat) * (n : Rat) * (4 * (d * d))) ≤ 1800 * d := by
        have a1 := rmul hpd0 (show (0 : Rat) ≤ 3600 by decide) (show (p : Rat) * d ≤ 1 / 8 by (first | (clear hd hd1 hn hw8 hd0 hnn hn60 hn2 hnp hw0 hv1 hw1 hw2 hv0 h1 lip hP hE1 hl hpd0 hpw hq hq0; grind) | grind)) hn2
        have a2 := Rat.mul_le_mul_of_nonneg_right a1 hd0
        (first | (clear hd hd1 hn hw8 hd0 hnn hn60 hn2 hnp hw0 hv1 hv2 hw1 hw2 hv0 h1 lip hP ha hE1 hge hl hpd0 hpw hq hq0 a1; grind) | grind)
      have := lip.add hl
      have e : hS (-v) n - hS (1 - ex d p) n + (hS (1 - ex d p) n + (p : Rat) * d) = hS (-v) n + (p : Rat) * d := by (first | (clear hd hd1 hn hw8 hd0 hnn hn60 hn2 hnp hw0 hv1 hv2 hw1 hw2 hv0 h1 lip hP ha hE1 hge hl hpd0 hpw hq hq0 ht this; grind) | grind)
      rw [e] at this
      refine this.le ?_
      generalize w ^ (n + 1) / ((n : Rat) + 1) = b at *
      generalize (ex d (p : Int) - 1) ^ (n + 1) / ((n : Rat) + 1) = a at *
      (first | (clear hd1 hn hw8 hd0 hnn hn60 hn2 hnp hw0 hv1 hv2 hw1 hw2 hv0 h1 lip hP ha hE1 hge hpd0 hpw e hl this; grind) | grind)
    · intro u hu
      have h3 := log_up hd 1 p
      have e : aK (th d p) 1 = 2 * th d p := by
        show 0 + 2 * th d p ^ (2 * 0 + 1) / (2 * ((0 : Nat) : Rat) + 1) = _
        rw [Nat.mul_zero, Nat.zero_add, Rat.pow_one, show ((0 : Nat) : Rat) = 0 from rfl]; (first | (clear hd hd1 hn hw8 hd0 hnn hn60 hn2 hnp hw0 hv1 hv2 hw1 hw2 hv0 h1 lip hP ha hE1 hge hl hpd0 hu h3; grind) | grind)
      rw [e] at h3
      have h4 := th_mul hd (p : Int)
      have h5 := Rat.mul_le_mul_of_nonneg_right h3 (show 0 ≤ ex d (p : Int) + 1 by (first | (clear hd hd1 hn hw8 hd0 hnn hn60 hn2 hnp hw0 hv1 hv2 hw1 hw2 hv0 h1 lip hP ha hge hl hpd0 hu h3 e h4; grind) | grind))
      obtain ⟨u1, u2⟩ := hu
      obtain ⟨x1, x2⟩ := h1
      have h6 := Rat.mul_le_mul_of_nonneg_left (show ex d (p : Int) + 1 ≤ 2126 / 1000 by (first | (clear hd hd1 hn hd0 hnn hn60 hn2 hnp hw0 hv1 hv2 hw1 hv0 lip hP hE1 hge hl hpd0 h3 e h4 h5 u1 u2 x1 x2; grind) | grind)) hpd0
      constructor <;> (first | (clear hd1 hn hw8 hd0 hnn hn60 hn2 hnp hw0 hv1 hv2 hw1 hw2 hv0 lip hP hE1 hl hpd0 h3 e x2; grind) | grind)
  · obtain ⟨p, hp⟩ := Int.eq_ofNat_of_zero_le (show 0 ≤ -P by (first | (clear hd hd1 hn hw8 h1 hd0 hnn hn60 hn2 hnp hw0 hv1 hv2 hw1 hw2 lip ha hv0; omega) | omega))
    have : P = -(p : Int) := by (first | (clear hd hd1 hn hw8 h1 hd0 hnn hn60 hn2 hnp hw0 hv1 hv2 hw1 hw2 lip hP ha hv0; omega) | omega)
    subst this
    have hE1 := ex_le_one hd hP
    have hl := logS_neg hd n p (by (first | (clear hd hd1 hn hd0 hnn hn60 hn2 hnp hw0 hv1 hv2 hw2 hv0 h1 lip hP hp hE1; grind) | grind))
    have hle := ex_le hd (-(p : Int))
    have hge := ex_ge hd (-(p : Int))
    rw [Rat.intCast_neg, Rat.intCast_natCast] at hle hge ⊢
    have hpd0 : 0 ≤ (p : Rat) * d := Rat.mul_nonneg Rat.natCast_nonneg hd0
    have hpd7 : (p : Rat) * d ≤ 1 / 7 := by
      have := Rat.mul_le_mul_of_nonneg_left (show 7 / 8 ≤ ex d (-(p : Int)) by (first | (clear hd hd1 hn hd0 hnn hn60 hn2 hnp hw0 hv1 hv2 hw2 hv0 h1 lip hP hp hE1 hl hle hge hpd0; grind) | grind)) (show 0 ≤ 1 + (p : Rat) * d by (first | (clear hd hd1 hn hw8 hd0 hnn hn60 hn2 hnp hw0 hv1 hv2 hw1 hw2 hv0 h1 lip hP ha hp hE1 hl hle hge; grind) | grind))
      (first | (clear hd hd1 hn hw8 hd0 hnn hn60 hn2 hnp hw0 hv1 hv2 hw1 hw2 hv0 h1 lip hP ha hp hE1 hl hge hpd0; grind) | grind)
    constructor
    · have hpw : (1 - ex d (-(p : Int))) ^ (n + 1) ≤ w ^ (n + 1) := pow_mono (by first | with_reducible assumption | with_reducible exact Rat.le_of_lt (by assumption) | decide +kernel | with_reducible exact qr1 (by assumption) | with_reducible exact qr2 (by assumption) | with_reducible exact qr3 (by assumption) | with_reducible exact qr4 (by assumption) | with_reducible exact qr5 (by assumption) | with_reducible exact qr6 (by assumption) | with_reducible exact qr7 (by assumption) | with_reducible exact qr8 (by assumption) | with_reducible exact qr9 (by assumption) | grind) (by (first | (clear hd hd1 hn hw8 hd0 hnn hn60 hn2 hnp hw0 hv1 hv2 hw2 hv0 h1 lip hP hp hE1 hl hle hge hpd0 hpd7; grind) | grind)) _
      have hq : (1 - ex d (-(p : Int))) ^ (n + 1) / ((n : Rat) + 1) ≤ w ^ (n + 1) / ((n : Rat) + 1) := by
        refine div_le' hnp ?_
        generalize (1 - ex d (-(p : Int))) ^ (n + 1) = a at *
        generalize w ^ (n + 1) = b at *
        generalize (n : Rat) + 1 = q at *
        have x1 : q * (a / q) = a := by (first | (clear hd hd1 hn hw8 hd0 hnn hn60 hn2 hw0 hv1 hv2 hw1 hw2 hv0 h1 lip hP ha hp hE1 hle hge hpd0 hpd7 hpw hl; grind) | grind)
        have x2 : q * (b / q) = b := by (first | (clear hd hd1 hn hw8 hd0 hnn hn60 hn2 hw0 hv1 hv2 hw1 hw2 hv0 h1 lip hP ha hp hE1 hle hge hpd0 hpd7 hpw hl; grind) | grind)
        rw [x1, x2]; exact hpw
      have hnn2 : (n : Rat) * (n : Rat) + (n : Rat) ≤ 3660 := by (first | (clear hd hd1 hn hw8 hd0 hnn hnp hw0 hv1 hv2 hw1 hw2 hv0 h1 lip hP ha hp hE1 hl hle hge hpd0 hpd7 hpw hq; grind) | grind)
      have ht : (p : Rat) * (((n : Rat) * (n : Rat) + (n : Rat)) * (d * d)) ≤ 600 * d := by
        have a1 := rmul hpd0 (show (0 : Rat) ≤ 3660 by decide) hpd7 hnn2
        have a2 := Rat.mul_le_mul_of_nonneg_right a1 hd0
        (first | (clear hd1 hn hw8 hd0 hnn hn60 hn2 hnp hw0 hv1 hv2 hw1 hw2 hv0 h1 lip hP ha hp hE1 hl hle hge hpd0 hpd7 hpw hq hnn2 a1; grind) | grind)
      have := lip.add hl
      have e : hS (-v) n - hS (1 - ex d (-(p : Int))) n + (hS (1 - ex d (-(p : Int))) n - (p : Rat) * d) = hS (-v) n + -(p : Rat) * d := by (first | (clear hd hd1 hn hw8 hd0 hnn hn60 hn2 hnp hw0 hv1 hv2 hw1 hw2 hv0 h1 lip hP ha hp hE1 hl hle hge hpd0 hpd7 hpw hq hnn2 ht this; grind) | grind)
      rw [e] at this
      refine this.le ?_
      generalize w ^ (n + 1) / ((n : Rat) + 1) = b at *
      generalize (1 - ex d (-(p : Int))) ^ (n + 1) / ((n : Rat) + 1) = a at *
      (first | (clear hd1 hn hw8 hd0 hnn hn60 hn2 hnp hw0 hv1 hv2 hw1 hw2 hv0 h1 lip hP ha hp hE1 hle hge hpd0 hpd7 hpw hnn2 e hl this; grind) | grind)
    · intro u hu
      obtain ⟨u1, u2⟩ := hu
      obtain ⟨x1, x2⟩ := h1
      constructor <;> (first | (clear hd1 hn hw8 hd0 hnn hn60 hn2 hnp hw0 hv1 hv2 hw1 hw2 lip hP ha hp hl hle hpd0 hpd7 u2 x1; grind) | grind)
theorem wi_abs {t tt : Rat} (h0 : 0 ≤ tt) (h : tt = t ∨ tt = -t) : Wi t tt := by
  rcases h with h | h <;> constructor <;> grind
theorem abs_split (v : Rat) : ∃ a : Rat, 0 ≤ a ∧ Wi v a ∧ (∀ w, Wi v w → a ≤ w) ∧ (∀ p u, Wi (p * v) u → p * a ≤ u) := by
  by_cases h : 0 ≤ v
  · exact ⟨v, h, ⟨by grind, Rat.le_refl⟩, fun w hw => hw.2, fun p u hu => hu.2⟩
  · refine ⟨-v, by grind, ⟨by (first | (clear h; grind) | grind), by grind⟩, fun w hw => ?_, fun p u hu => ?_⟩
    · have := hw.1; (first | (clear h hw; grind) | grind)
    · have := hu.1; (first | (clear h hu; grind) | grind)
theorem fin_num {Y X q lam tt : Rat} (hY : Y ≤ 1063 / 1000 * tt + 6 / 100000) (hX : X ≤ 7 / 24 * Y) (hq : q * 1000000000000 ≤ 1) (htt : 0 ≤ tt) : 1 / 2 + Y + (X + 3000 * q) + 6 * q + (lam + 23 / 10000) ≤ lam + 1 / 2 + 1375 / 1000 * tt + 3 / 1000 := by grind
theorem left_num {m p aw b q : Rat} (hp : 0 ≤ p) (haw : 0 ≤ aw) (h1 : b * m ≤ 1) (h4 : 4 ≤ q) : p * m * (7 / 6 * (b * aw / q)) ≤ 7 / 24 * (p * aw) := by
  have hpa := Rat.mul_nonneg hp haw
  refine div_le' (show 0 < q by (first | (clear hp haw h1 hpa; grind) | grind)) ?_
  have e1 : q * (p * m * (7 / 6 * (b * aw / q))) = 7 / 6 * (p * aw * (b * m)) := by (first | (clear hp haw h1 hpa; grind) | grind)
  rw [e1]
  have h2 := Rat.mul_le_mul_of_nonneg_left h1 hpa
  have h3 := Rat.mul_le_mul_of_nonneg_right h4 hpa
  (first | (clear hp haw h1 h4 hpa; grind) | grind)
theorem nN_ge2b {M L : Int} (hM : 10 ^ 6 ≤ M) (hL : 1 ≤ L) (hL2 : L ≤ 10) : 2 ≤ nN M L := by
  obtain ⟨h1, h2, h3⟩ := nT_facts (show 0 < M by first | with_reducible assumption | with_reducible exact Int.le_of_lt (by assumption) | with_reducible exact Nat.le_of_lt (by assumption) | with_reducible exact qz1 (by assumption) | with_reducible exact qz2 (by assumption) | with_reducible exact qz3 (by assumption) | with_reducible exact qz4 (by assumption) | with_reducible exact qz5 (by assumption) | with_reducible exact qz6 (by assumption) | with_reducible exact qz7 (by assumption) | with_reducible exact qz8 (by assumption) | with_reducible exact qz9 (by assumption) | with_reducible exact qza (by assumption) | with_reducible exact qzb (by assumption) | with_reducible exact qzc | with_reducible exact qzd | with_reducible exact qze | omega) (show 1 ≤ L by first | with_reducible assumption | with_reducible exact Int.le_of_lt (by assumption) | with_reducible exact Nat.le_of_lt (by assumption) | with_reducible exact qz1 (by assumption) | with_reducible exact qz2 (by assumption) | with_reducible exact qz3 (by assumption) | with_reducible exact qz4 (by assumption) | with_reducible exact qz5 (by assumption) | with_reducible exact qz6 (by assumption) | with_reducible exact qz7 (by assumption) | with_reducible exact qz8 (by assumption) | with_reducible exact qz9 (by assumption) | with_reducible exact qza (by assumption) | with_reducible exact qzb (by assumption) | with_reducible exact qzc | with_reducible exact qzd | with_reducible exact qze | omega)
  obtain ⟨e, he, h4, h5⟩ := figs_ex (show 0 < M by first | with_reducible assumption | with_reducible exact Int.le_of_lt (by assumption) | with_reducible exact Nat.le_of_lt (by assumption) | with_reducible exact qz1 (by assumption) | with_reducible exact qz2 (by assumption) | with_reducible exact qz3 (by assumption) | with_reducible exact qz4 (by assumption) | with_reducible exact qz5 (by assumption) | with_reducible exact qz6 (by assumption) | with_reducible exact qz7 (by assumption) | with_reducible exact qz8 (by assumption) | with_reducible exact qz9 (by assumption) | with_reducible exact qza (by assumption) | with_reducible exact qzb (by assumption) | with_reducible exact qzc | with_reducible exact qzd | with_reducible exact qze | omega)
  have h6 : 6 ≤ e := by
    refine Nat.not_lt.mp fun hlt => ?_
    have : (10 : Int) ^ (e + 1) ≤ 10 ^ 6 := ipow_le (by decide) (by (first | (clear hM hL hL2 h1 h2 h3 he h4 h5; omega) | omega))
    (first | (clear hL hL2 h1 h2 h3 he hlt; omega) | omega)
  rw [he] at h2
  unfold nN
  have h7 : 3 ≤ nT M L := by
    refine Int.not_lt.mp fun hlt => ?_
    have : nT M L * (3 * L) ≤ 2 * (3 * L) := Int.mul_le_mul_of_nonneg_right (by (first | (clear hM hL hL2 h3 h2 he h4 h5 h6; omega) | omega)) (by (first | (clear hM h1 h3 h2 he h4 h5 h6 hlt; omega) | omega))
    (first | (clear hM h1 h3 he h4 h5 hlt; omega) | omega)
  (first | (clear hM hL hL2 h1 h3 h2 he h4 h5 h6; omega) | omega)
theorem wi_self {p : Rat} (h : 0 ≤ p) : Wi p p := by constructor <;> grind
theorem near_one {d : Rat} (hd : 0 < d) {A B : Int} (hA : 3 / 4 ≤ ex d A) (hAB : ex d B - ex d A ≤ 4 * d) : (B : Rat) * d - (A : Rat) * d ≤ 6 * d := by
  have e1 : ex d B = ex d A * ex d (B - A) := by rw [← ex_add hd]; congr 1; (first | (clear hd hA hAB; omega) | omega)
  have g1 := ex_ge hd (B - A)
  rw [Rat.intCast_sub] at g1
  have h2 : ex d A * (ex d (B - A) - 1) ≤ 4 * d := by rw [e1] at hAB; (first | (clear hd hA e1 g1; grind) | grind)
  by_cases hs : 0 ≤ ex d (B - A) - 1
  · have h3 := Rat.mul_le_mul_of_nonneg_right hA hs
    (first | (clear hA h2 hs; grind) | grind)
  · (first | (clear hA hAB e1 h2; grind) | grind)
theorem near_34 {d v e : Rat} (hd1 : d ≤ 1 / 1000) (hv : Wi v (1 / 8)) (h : Wi (e - (1 + v)) (2 * d)) : 3 / 4 ≤ e := by
  obtain ⟨c, -⟩ := h
  obtain ⟨f, -⟩ := hv
  grind
theorem near_sub {d v e e' : Rat} (h : Wi (e - (1 + v)) (2 * d)) (h' : Wi (e' - (1 + v)) (2 * d)) : e' - e ≤ 4 * d := by
  obtain ⟨a, -⟩ := h
  obtain ⟨-, b⟩ := h'
  grind
theorem near_two {d v : Rat} (hd : 0 < d) (hd1 : d ≤ 1 / 1000) (hv : Wi v (1 / 8)) {P P' : Int} (h : Wi (ex d P - (1 + v)) (2 * d)) (h' : Wi (ex d P' - (1 + v)) (2 * d)) : Wi ((P' : Rat) * d - (P : Rat) * d) (6 * d) := by
  have h1 := near_one hd (near_34 hd1 hv h) (near_sub h h')
  have h2 := near_one hd (near_34 hd1 hv h') (near_sub h' h)
  constructor <;> (first | (clear hd hd1 hv h h'; grind) | grind)
/-- _ilog's answer beside the logarithm -/
theorem ilog_err {d t tt lam : Rat} {Q M y K : Int} {R : Nat} (h : Rg d t tt Q) (hM : 10 ^ 6 ≤ M) (hM' : M < 10 ^ 13) (hK : 3 ≤ K) (hK' : K ≤ 10) (hR : R ≤ 14) (hlam0 : 0 ≤ lam) (hlam : lam ≤ 45)
    (hE : Wi ((y : Rat) - 2 ^ R * (M : Rat) * (ex d (qk Q R) - 1)) (lam * ex d (qk Q R))) (hstop : (y.natAbs : Int) * 2 ^ K.toNat < M * 2 ^ R) (hpd : 2 ^ R * (M : Rat) * d * 1000000000000 ≤ 1) :
    Wi (((divN (lser M (divN y (2 ^ R)) (nN M K) (divN M ((nN M K : Int) + 1)) * y) M : Int) : Rat) - (M : Rat) * t) (lam + 1 / 2 + 1375 / 1000 * tt + 3 / 1000) := by
  have hM0 : 0 < M := by first | with_reducible assumption | with_reducible exact Int.le_of_lt (by assumption) | with_reducible exact Nat.le_of_lt (by assumption) | with_reducible exact qz1 (by assumption) | with_reducible exact qz2 (by assumption) | with_reducible exact qz3 (by assumption) | with_reducible exact qz4 (by assumption) | with_reducible exact qz5 (by assumption) | with_reducible exact qz6 (by assumption) | with_reducible exact qz7 (by assumption) | with_reducible exact qz8 (by assumption) | with_reducible exact qz9 (by assumption) | with_reducible exact qza (by assumption) | with_reducible exact qzb (by assumption) | with_reducible exact qzc | with_reducible exact qzd | with_reducible exact qze | omega
  have hMr : (1000000 : Rat) ≤ (M : Rat) := Rat.intCast_le_intCast.mpr hM
  have hd := h.hd
  have hd0 := Rat.le_of_lt hd
  obtain ⟨t0, t4, _⟩ := h.tt0
  have hq := qk_rat h hR
  have hp1 := pow2ge R
  obtain ⟨p, hp⟩ : ∃ p : Rat, p = 2 ^ R := ⟨_, rfl⟩
  have hpi : (((2 : Int) ^ R : Int) : Rat) = p := by rw [hp, Rat.intCast_pow]; rfl
  rw [← hp] at hp1 hE hpd hq
  have hpM : 1000000 ≤ p * (M : Rat) := by have := Rat.mul_le_mul_of_nonneg_right hp1 (show (0 : Rat) ≤ (M : Rat) by first | with_reducible assumption | with_reducible exact Rat.le_of_lt (by assumption) | decide +kernel | with_reducible exact qr1 (by assumption) | with_reducible exact qr2 (by assumption) | with_reducible exact qr3 (by assumption) | with_reducible exact qr4 (by assumption) | with_reducible exact qr5 (by assumption) | with_reducible exact qr6 (by assumption) | with_reducible exact qr7 (by assumption) | with_reducible exact qr8 (by assumption) | with_reducible exact qr9 (by assumption) | grind); (first | (clear h hM hM' hK hK' hR hlam0 hlam hstop hM0 hd hd0 t0 t4 hq hpd hE hp1 hp hpi; grind) | grind)
  have hd1 : d ≤ 1 / 1000 := by have := Rat.mul_le_mul_of_nonneg_right hpM hd0; (first | (clear h hM hM' hK hK' hR hlam0 hlam hstop hM0 hMr hd hd0 t0 t4 hq hE hp1 hp hpi hpM; grind) | grind)
  -- the number of rows
  have hn2 : 2 ≤ nN M K := nN_ge2b hM (show 1 ≤ K by first | with_reducible assumption | with_reducible exact Int.le_of_lt (by assumption) | with_reducible exact Nat.le_of_lt (by assumption) | with_reducible exact qz1 (by assumption) | with_reducible exact qz2 (by assumption) | with_reducible exact qz3 (by assumption) | with_reducible exact qz4 (by assumption) | with_reducible exact qz5 (by assumption) | with_reducible exact qz6 (by assumption) | with_reducible exact qz7 (by assumption) | with_reducible exact qz8 (by assumption) | with_reducible exact qz9 (by assumption) | with_reducible exact qza (by assumption) | with_reducible exact qzb (by assumption) | with_reducible exact qzc | with_reducible exact qzd | with_reducible exact qze | omega) hK'
  have hn60 : nN M K + 1 ≤ 60 := by
    have := nT_le (M := M) (L := K) (k := 13) hM0 (by first | with_reducible assumption | with_reducible exact Int.le_of_lt (by assumption) | with_reducible exact Nat.le_of_lt (by assumption) | with_reducible exact qz1 (by assumption) | with_reducible exact qz2 (by assumption) | with_reducible exact qz3 (by assumption) | with_reducible exact qz4 (by assumption) | with_reducible exact qz5 (by assumption) | with_reducible exact qz6 (by assumption) | with_reducible exact qz7 (by assumption) | with_reducible exact qz8 (by assumption) | with_reducible exact qz9 (by assumption) | with_reducible exact qza (by assumption) | with_reducible exact qzb (by assumption) | with_reducible exact qzc | with_reducible exact qzd | with_reducible exact qze | omega) hM'
    unfold nN
    (first | (clear h hM hM' hK hK' hR hlam0 hlam hstop hM0 hMr hd hd0 t0 t4 hq hpd hE hp1 hp hpi hpM hd1 hn2; omega) | omega)
  -- v0
  obtain ⟨v0, hv0⟩ : ∃ v0 : Rat, p * (M : Rat) * v0 = (y : Rat) := ⟨(y : Rat) / (p * (M : Rat)), by
    have : p * (M : Rat) ≠ 0 := by (first | (clear h hM hM' hK hK' hR hlam0 hlam hstop hM0 hMr hd hd0 t0 t4 hq hpd hE hp1 hp hpi hd1 hn2 hn60; grind) | grind)
    (first | (clear h hM hM' hK hK' hR hlam0 hlam hstop hM0 hMr hd hd0 t0 t4 hq hpd hE hp1 hp hpi hpM hd1 hn2 hn60; grind) | grind)⟩
  obtain ⟨w, hw⟩ : ∃ w : Rat, w * 2 ^ K.toNat = 1 := ⟨1 / 2 ^ K.toNat, by have := pow2pos K.toNat; (first | (clear h hM hM' hK hK' hR hlam0 hlam hstop hM0 hMr hd hd0 t0 t4 hq hpd hE hp1 hp hpi hpM hd1 hn2 hn60 hv0; grind) | grind)⟩
  have hpK := pow2pos K.toNat
  have hw0 : 0 ≤ w := by
    refine Rat.not_lt.mp fun hlt => ?_
    have := Rat.mul_lt_mul_of_pos_right hlt hpK
    (first | (clear h hM hM' hK hK' hR hlam0 hlam hstop hM0 hMr hd hd0 t0 t4 hq hpd hE hp1 hp hpi hpM hd1 hn2 hn60 hv0 hpK hlt; grind) | grind)
  have hvw : Wi v0 w := by
    have h1 : (((y.natAbs : Int) * 2 ^ K.toNat : Int) : Rat) ≤ ((M * 2 ^ R : Int) : Rat) := Rat.intCast_le_intCast.mpr (by first | with_reducible assumption | with_reducible exact Int.le_of_lt (by assumption) | with_reducible exact Nat.le_of_lt (by assumption) | with_reducible exact qz1 (by assumption) | with_reducible exact qz2 (by assumption) | with_reducible exact qz3 (by assumption) | with_reducible exact qz4 (by assumption) | with_reducible exact qz5 (by assumption) | with_reducible exact qz6 (by assumption) | with_reducible exact qz7 (by assumption) | with_reducible exact qz8 (by assumption) | with_reducible exact qz9 (by assumption) | with_reducible exact qza (by assumption) | with_reducible exact qzb (by assumption) | with_reducible exact qzc | with_reducible exact qzd | with_reducible exact qze | omega)
    rw [icast_p2, Rat.intCast_mul, hpi] at h1
    have h2 : Wi (y : Rat) (((y.natAbs : Int) : Rat)) := by
      constructor
      · have : ((-(y.natAbs : Int) : Int) : Rat) ≤ (y : Rat) := Rat.intCast_le_intCast.mpr (by (first | (clear h hM hM' hK hK' hR hlam0 hlam hstop hM0 hMr hd hd0 t0 t4 hq hpd hE hp1 hp hpi hpM hd1 hn2 hn60 hv0 hw hpK hw0 h1; omega) | omega))
        rwa [Rat.intCast_neg] at this
      · exact Rat.intCast_le_intCast.mpr (by (first | (clear h hM hM' hK hK' hR hlam0 hlam hstop hM0 hMr hd hd0 t0 t4 hq hpd hE hp1 hp hpi hpM hd1 hn2 hn60 hv0 hw hpK hw0 h1; omega) | omega))
    refine Wi.div (Rat.mul_pos (show 0 < p * (M : Rat) by first | with_reducible assumption | with_reducible exact Rat.le_of_lt (by assumption) | decide +kernel | with_reducible exact qr1 (by assumption) | with_reducible exact qr2 (by assumption) | with_reducible exact qr3 (by assumption) | with_reducible exact qr4 (by assumption) | with_reducible exact qr5 (by assumption) | with_reducible exact qr6 (by assumption) | with_reducible exact qr7 (by assumption) | with_reducible exact qr8 (by assumption) | with_reducible exact qr9 (by assumption) | grind) hpK) ?_
    have e1 : p * (M : Rat) * 2 ^ K.toNat * v0 = (y : Rat) * 2 ^ K.toNat := by rw [← hv0]; (first | (clear h hM hM' hK hK' hR hlam0 hlam hstop hM0 hMr hd hd0 t0 t4 hq hpd hE hp1 hp hpi hpM hd1 hn2 hn60 hv0 hw hpK hw0 h1 h2; grind) | grind)
    have e2 : p * (M : Rat) * 2 ^ K.toNat * w = p * (M : Rat) * (w * 2 ^ K.toNat) := by (first | (clear h hM hM' hK hK' hR hlam0 hlam hstop hM0 hMr hd hd0 t0 t4 hq hpd hE hp1 hp hpi hpM hd1 hn2 hn60 hv0 hw hpK hw0 h1 h2 e1; grind) | grind)
    rw [e1, e2, hw]
    have h3 := h2.mul (wi_self (Rat.le_of_lt hpK))
    exact h3.le (by (first | (clear h hM hM' hK hK' hR hlam0 hlam hstop hM0 hMr hd hd0 t0 t4 hq hpd hE hp1 hp hpi hpM hd1 hn2 hn60 hv0 hw hpK hw0 h2 e1 e2 h3; grind) | grind))
  have hw8 : w ≤ 1 / 8 := by
    have h8 : (8 : Rat) ≤ 2 ^ K.toNat := by
      obtain ⟨l, hl⟩ : ∃ l, K.toNat = 3 + l := ⟨K.toNat - 3, by (first | (clear h hM hM' hR hlam0 hlam hstop hM0 hMr hd hd0 t0 t4 hq hpd hE hp1 hp hpi hpM hd1 hn2 hn60 hv0 hw hpK hw0 hvw; omega) | omega)⟩
      rw [hl, rpow_add, show (2 : Rat) ^ 3 = 8 by rw [Rat.pow_succ, Rat.pow_succ, Rat.pow_succ, Rat.pow_zero]; (first | (clear h hM hM' hK hK' hR hlam0 hlam hstop hM0 hMr hd hd0 t0 t4 hq hpd hE hp1 hp hpi hpM hd1 hn2 hn60 hv0 hw hpK hw0 hvw hl; grind) | grind)]
      have := Rat.mul_le_mul_of_nonneg_left (pow2ge l) (show (0 : Rat) ≤ 8 by decide)
      (first | (clear h hM hM' hK hK' hR hlam0 hlam hstop hM0 hMr hd hd0 t0 t4 hq hpd hE hp1 hp hpi hpM hd1 hn2 hn60 hv0 hw hpK hw0 hvw hl; grind) | grind)
    have := Rat.mul_le_mul_of_nonneg_left h8 hw0
    (first | (clear h hM hM' hK hK' hR hlam0 hlam hstop hM0 hMr hd hd0 t0 t4 hq hpd hE hp1 hp hpi hpM hd1 hn2 hn60 hv0 hpK hw0 hvw h8; grind) | grind)
  have hv8 : Wi v0 (1 / 8) := hvw.le hw8
  -- what the rows leave out
  have hleft : w ^ (nN M K + 1) * (M : Rat) ≤ 1 := by
    have h2 := pow_scale hw0 (Rat.le_of_lt hpK) (show w * 2 ^ K.toNat ≤ 1 by (first | (clear h hM hM' hK hK' hR hlam0 hlam hstop hM0 hMr hd hd0 t0 t4 hq hpd hE hp1 hp hpi hpM hd1 hn2 hn60 hv0 hpK hw0 hvw hw8 hv8; grind) | grind)) (nN M K + 1)
    have h3 : (M : Rat) ≤ ((2 ^ (K.toNat * (nN M K + 1)) : Int) : Rat) := Rat.intCast_le_intCast.mpr (Int.le_of_lt (M_lt hM0 (by first | with_reducible assumption | with_reducible exact Int.le_of_lt (by assumption) | with_reducible exact Nat.le_of_lt (by assumption) | with_reducible exact qz1 (by assumption) | with_reducible exact qz2 (by assumption) | with_reducible exact qz3 (by assumption) | with_reducible exact qz4 (by assumption) | with_reducible exact qz5 (by assumption) | with_reducible exact qz6 (by assumption) | with_reducible exact qz7 (by assumption) | with_reducible exact qz8 (by assumption) | with_reducible exact qz9 (by assumption) | with_reducible exact qza (by assumption) | with_reducible exact qzb (by assumption) | with_reducible exact qzc | with_reducible exact qzd | with_reducible exact qze | omega)))
    have e : ((2 ^ (K.toNat * (nN M K + 1)) : Int) : Rat) = (2 ^ K.toNat) ^ (nN M K + 1) := by
      rw [Rat.intCast_pow]
      exact rpow_mul 2 K.toNat (nN M K + 1)
    rw [e] at h3
    have h4 := Rat.mul_le_mul_of_nonneg_left h3 (Rat.pow_nonneg hw0 (n := nN M K + 1))
    (first | (clear h hM hM' hK hK' hR hlam0 hlam hstop hM0 hMr hd hd0 t0 t4 hq hpd hE hp1 hp hpi hpM hd1 hn2 hn60 hv0 hw hpK hw0 hvw hw8 hv8 h3 e; grind) | grind)
  -- the power next to 1 + v0
  obtain ⟨P, n1, _, n3⟩ := rows_log hd hd1 hv8 (n := nN M K + 1) hn60 hvw hw8
  -- δ
  obtain ⟨eta, heta⟩ : ∃ eta : Rat, p * (M : Rat) * eta = lam + 3 * (p * (M : Rat) * d) := ⟨(lam + 3 * (p * (M : Rat) * d)) / (p * (M : Rat)), by
    have : p * (M : Rat) ≠ 0 := by (first | (clear h hM hM' hK hK' hR hlam0 hlam hstop hM0 hMr hd hd0 t0 t4 hq hpd hE hp1 hp hpi hd1 hn2 hn60 hv0 hw hpK hw0 hvw hw8 hv8 hleft n1 n3; grind) | grind)
    (first | (clear h hM hM' hK hK' hR hlam0 hlam hstop hM0 hMr hd hd0 t0 t4 hq hpd hE hp1 hp hpi hpM hd1 hn2 hn60 hv0 hw hpK hw0 hvw hw8 hv8 hleft n1 n3; grind) | grind)⟩
  have hpMp : 0 < p * (M : Rat) := by (first | (clear h hM hM' hK hK' hR hlam0 hlam hstop hM0 hMr hd hd0 t0 t4 hq hpd hE hp1 hp hpi hd1 hn2 hn60 hv0 hw hpK hw0 hvw hw8 hv8 hleft n1 n3 heta; grind) | grind)
  have heta0 : 0 ≤ eta := by
    refine Rat.not_lt.mp fun hlt => ?_
    have := Rat.mul_lt_mul_of_pos_left hlt hpMp
    have := Rat.mul_nonneg (Rat.le_of_lt hpMp) hd0
    (first | (clear h hM hM' hK hK' hR hlam hstop hM0 hMr hd hd0 t0 t4 hq hpd hE hp1 hp hpi hpM hd1 hn2 hn60 hv0 hw hpK hw0 hvw hw8 hv8 hleft n1 n3 hpMp hlt; grind) | grind)
  have heta1 : eta ≤ 46 / 1000000 := by
    refine div_le' hpMp ?_
    rw [heta]; (first | (clear h hM hM' hK hK' hR hlam0 hstop hM0 hMr hd hd0 t0 t4 hq hE hp1 hp hpi hd1 hn2 hn60 hv0 hw hpK hw0 hvw hw8 hv8 hleft n1 n3 heta hpMp heta0; grind) | grind)
  have heq := ex_pos hd (qk Q R)
  have hx0 : Wi (p * (M : Rat) * (1 + v0 - ex d (qk Q R))) (lam * ex d (qk Q R)) := by
    have e1 : p * (M : Rat) * (1 + v0 - ex d (qk Q R)) = (y : Rat) - p * (M : Rat) * (ex d (qk Q R) - 1) := by rw [← hv0]; (first | (clear h hM hM' hK hK' hR hlam0 hlam hstop hM0 hMr hd hd0 t0 t4 hq hpd hE hp1 hp hpi hpM hd1 hn2 hn60 hv0 hw hpK hw0 hvw hw8 hv8 hleft n1 n3 heta hpMp heta0 heta1 heq; grind) | grind)
    rw [e1]; exact hE
  have he34 : 3 / 4 ≤ ex d (qk Q R) := by
    obtain ⟨a, b⟩ := hx0
    obtain ⟨c, _⟩ := hv8
    have h1 := Rat.mul_le_mul_of_nonneg_right hlam (Rat.le_of_lt heq)
    have h2 := Rat.mul_le_mul_of_nonneg_right hpM (Rat.le_of_lt heq)
    refine Rat.not_lt.mp fun hlt => ?_
    have h3 := Rat.mul_le_mul_of_nonneg_left (show 1 / 8 ≤ 1 + v0 - ex d (qk Q R) by (first | (clear h hM hM' hK hK' hR hlam0 hlam hstop hM0 hMr hd hd0 t0 t4 hq hpd hE hp1 hp hpi hpM hd1 hn2 hn60 hv0 hw hpK hw0 hvw hw8 hleft n1 n3 heta hpMp heta0 heta1 heq a b h1 h2; grind) | grind)) (Rat.le_of_lt hpMp)
    (first | (clear h hM hM' hK hK' hR hlam0 hlam hstop hM0 hMr hd hd0 t0 t4 hq hpd hE hp1 hp hpi hd1 hn2 hn60 hv0 hw hpK hw0 hvw hw8 hleft n1 n3 heta hpMp heta0 heta1 heq a c h2; grind) | grind)
  have hE1 : ex d P = ex d (qk Q R) * ex d (P - qk Q R) := by rw [← ex_add hd]; congr 1; (first | (clear h hM hM' hK hK' hR hlam0 hlam hstop hM0 hMr hd hd0 t0 t4 hq hpd hE hp1 hp hpi hpM hd1 hn2 hn60 hv0 hw hpK hw0 hvw hw8 hv8 hleft n1 n3 heta hpMp heta0 heta1 heq hx0 he34; omega) | omega)
  have hEw : Wi (ex d (P - qk Q R) - 1) eta := by
    refine Wi.div (Rat.mul_pos hpMp heq) ?_
    have e1 : p * (M : Rat) * ex d (qk Q R) * (ex d (P - qk Q R) - 1) = p * (M : Rat) * (ex d P - (1 + v0)) + p * (M : Rat) * (1 + v0 - ex d (qk Q R)) := by rw [hE1]; (first | (clear h hM hM' hK hK' hR hlam0 hlam hstop hM0 hMr hd hd0 t0 t4 hq hpd hE hp1 hp hpi hpM hd1 hn2 hn60 hv0 hw hpK hw0 hvw hw8 hv8 hleft n1 n3 heta hpMp heta0 heta1 heq hx0 he34 hE1; grind) | grind)
    have e2 : p * (M : Rat) * ex d (qk Q R) * eta = ex d (qk Q R) * (p * (M : Rat) * eta) := by (first | (clear h hM hM' hK hK' hR hlam0 hlam hstop hM0 hMr hd hd0 t0 t4 hq hpd hE hp1 hp hpi hpM hd1 hn2 hn60 hv0 hw hpK hw0 hvw hw8 hv8 hleft n1 n3 heta hpMp heta0 heta1 heq hx0 he34 hE1 e1; grind) | grind)
    rw [e1, e2, heta]
    have h1 := ((wi_self (Rat.le_of_lt hpMp)).mul n1).add hx0
    refine h1.le ?_
    have h2 := Rat.mul_nonneg (Rat.le_of_lt hpMp) hd0
    have h3 := Rat.mul_le_mul_of_nonneg_right he34 h2
    (first | (clear h hM hM' hK hK' hR hlam0 hlam hstop hM0 hMr hd hd0 t0 t4 hq hpd hE hp1 hp hpi hpM hd1 hn2 hn60 hv0 hw hpK hw0 hvw hw8 hv8 hleft n1 n3 heta hpMp heta0 heta1 heq hx0 he34 hE1 e1 e2 h1; grind) | grind)
  obtain ⟨dl, hdl⟩ : ∃ dl : Rat, dl = ((P - qk Q R : Int) : Rat) * d := ⟨_, rfl⟩
  have hdlw : Wi (p * (M : Rat) * dl) (lam + 23 / 10000) := by
    have g1 := ex_ge hd (P - qk Q R)
    have g2 := ex_le hd (P - qk Q R)
    rw [← hdl] at g1 g2
    obtain ⟨a, b⟩ := hEw
    have hpmd := Rat.mul_nonneg (Rat.le_of_lt hpMp) hd0
    have up := Rat.mul_le_mul_of_nonneg_left (show dl ≤ eta by (first | (clear h hM hM' hK hK' hR hlam0 hlam hstop hM0 hMr hd hd0 t0 t4 hq hpd hE hp1 hp hpi hpM hd1 hn2 hn60 hv0 hw hpK hw0 hvw hw8 hv8 hleft n1 n3 heta hpMp heta0 heta1 heq hx0 he34 hE1 hdl g2 a hpmd; grind) | grind)) (Rat.le_of_lt hpMp)
    rw [heta] at up
    refine ⟨?_, by (first | (clear h hM hM' hK hK' hR hlam0 hlam hstop hM0 hMr hd hd0 t0 t4 hq hE hp1 hp hpi hpM hd1 hn2 hn60 hv0 hw hpK hw0 hvw hw8 hv8 hleft n1 n3 heta hpMp heta0 heta1 heq hx0 he34 hE1 hdl g1 g2 a b hpmd; grind) | grind)⟩
    by_cases hneg : 0 ≤ dl
    · have := Rat.mul_nonneg (Rat.le_of_lt hpMp) hneg
      (first | (clear h hM hM' hK hK' hR hlam hstop hM0 hMr hd hd0 t0 t4 hq hpd hE hp1 hp hpi hpM hd1 hn2 hn60 hv0 hw hpK hw0 hvw hw8 hv8 hleft n1 n3 heta hpMp heta0 heta1 heq hx0 he34 hE1 hdl g1 g2 a b hpmd up hneg; grind) | grind)
    · have h1 := Rat.mul_le_mul_of_nonneg_left (show 1 - eta ≤ ex d (P - qk Q R) by (first | (clear h hM hM' hK hK' hR hlam0 hlam hstop hM0 hMr hd hd0 t0 t4 hq hpd hE hp1 hp hpi hpM hd1 hn2 hn60 hv0 hw hpK hw0 hvw hw8 hv8 hleft n1 n3 heta hpMp heta0 heta1 heq hx0 he34 hE1 hdl g1 g2 b hpmd up hneg; grind) | grind)) (show 0 ≤ 1 - dl by (first | (clear h hM hM' hK hK' hR hlam0 hlam hstop hM0 hMr hd hd0 t0 t4 hq hpd hE hp1 hp hpi hpM hd1 hn2 hn60 hv0 hw hpK hw0 hvw hw8 hv8 hleft n1 n3 heta hpMp heta0 heta1 heq hx0 he34 hE1 hdl g1 g2 a b hpmd up; grind) | grind))
      have h2 : -dl * (1 - eta) ≤ eta := by (first | (clear h hM hM' hK hK' hR hlam0 hlam hstop hM0 hMr hd hd0 t0 t4 hq hpd hE hp1 hp hpi hpM hd1 hn2 hn60 hv0 hw hpK hw0 hvw hw8 hv8 hleft n1 n3 heta hpMp heta0 heta1 heq hx0 he34 hE1 hdl g1 a b hpmd up hneg; grind) | grind)
      have h3 := Rat.mul_le_mul_of_nonneg_left h2 (Rat.le_of_lt hpMp)
      rw [heta] at h3
      -- z := pM (-dl), z (1 - eta) ≤ lam + tiny
      generalize hz : p * (M : Rat) * dl = z at *
      have e3 : p * (M : Rat) * (-dl * (1 - eta)) = -z * (1 - eta) := by rw [← hz]; (first | (clear h hM hM' hK hK' hR hlam0 hlam hstop hM0 hMr hd hd0 t0 t4 hq hpd hE hp1 hp hpi hpM hd1 hn2 hn60 hv0 hw hpK hw0 hvw hw8 hv8 hleft n1 n3 heta hpMp heta0 heta1 heq hx0 he34 hE1 hdl g1 g2 a b hpmd hneg h1 h2 h3 hz up; grind) | grind)
      rw [e3] at h3
      have hz0 : 0 ≤ -z := by
        rw [← hz]
        have := Rat.mul_nonneg (Rat.le_of_lt hpMp) (show 0 ≤ -dl by (first | (clear h hM hM' hK hK' hR hlam0 hlam hstop hM0 hMr hd hd0 t0 t4 hq hpd hE hp1 hp hpi hpM hd1 hn2 hn60 hv0 hw hpK hw0 hvw hw8 hv8 hleft n1 n3 heta hpMp heta0 heta1 heq hx0 he34 hE1 hdl g1 g2 a b hpmd h1 h2 h3 hz up e3; grind) | grind))
        (first | (clear h hM hM' hK hK' hR hlam0 hlam hstop hM0 hMr hd hd0 t0 t4 hq hpd hE hp1 hp hpi hpM hd1 hn2 hn60 hv0 hw hpK hw0 hvw hw8 hv8 hleft n1 n3 heta hpMp heta0 heta1 heq hx0 he34 hE1 hdl g1 g2 a b hpmd hneg h1 h2 h3 hz up e3; grind) | grind)
      have h4 := Rat.mul_le_mul_of_nonneg_left heta1 hz0
      (first | (clear h hM hM' hK hK' hR hlam0 hstop hM0 hMr hd hd0 t0 t4 hq hE hp1 hp hpi hpM hd1 hn2 hn60 hv0 hw hpK hw0 hvw hw8 hv8 hleft n1 n3 heta hpMp heta0 heta1 heq hx0 he34 hE1 hdl g1 g2 a b hpmd hneg h1 h2 hz up e3 hz0; grind) | grind)
  -- t
  have hPd : p * ((P : Rat) * d) = t + p * dl := by
    rw [hdl, Rat.intCast_sub, ← hq]; (first | (clear h hM hM' hK hK' hR hlam0 hlam hstop hM0 hMr hd hd0 t0 t4 hq hpd hE hp1 hp hpi hpM hd1 hn2 hn60 hv0 hw hpK hw0 hvw hw8 hv8 hleft n1 n3 heta hpMp heta0 heta1 heq hx0 he34 hE1 hEw hdl hdlw; grind) | grind)
  have hpdl : Wi (p * dl) (46 / 1000000) := by
    refine Wi.div (show (0 : Rat) < (M : Rat) by first | with_reducible assumption | with_reducible exact Rat.le_of_lt (by assumption) | decide +kernel | with_reducible exact qr1 (by assumption) | with_reducible exact qr2 (by assumption) | with_reducible exact qr3 (by assumption) | with_reducible exact qr4 (by assumption) | with_reducible exact qr5 (by assumption) | with_reducible exact qr6 (by assumption) | with_reducible exact qr7 (by assumption) | with_reducible exact qr8 (by assumption) | with_reducible exact qr9 (by assumption) | grind) ?_
    have e1 : (M : Rat) * (p * dl) = p * (M : Rat) * dl := by (first | (clear h hM hM' hK hK' hR hlam0 hlam hstop hM0 hMr hd hd0 t0 t4 hq hpd hE hp1 hp hpi hpM hd1 hn2 hn60 hv0 hw hpK hw0 hvw hw8 hv8 hleft n1 n3 heta hpMp heta0 heta1 heq hx0 he34 hE1 hEw hdl hdlw hPd; grind) | grind)
    rw [e1]
    exact hdlw.le (by (first | (clear h hM hM' hK hK' hR hlam0 hstop hM0 hd hd0 t0 t4 hq hpd hE hp1 hp hpi hpM hd1 hn2 hn60 hv0 hw hpK hw0 hvw hw8 hv8 hleft n1 n3 heta hpMp heta0 heta1 heq hx0 he34 hE1 hEw hdl hdlw hPd e1; grind) | grind))
  have htw : Wi t tt := wi_abs t0 (by rcases h.abs with ⟨_, e⟩ | ⟨_, e⟩; exact .inl e; exact .inr e)
  -- p v0
  have hYw : Wi (p * v0) (1063 / 1000 * tt + 6 / 100000) := by
    have h1 : Wi (p * ((P : Rat) * d)) (tt + 46 / 1000000) := by rw [hPd]; exact htw.add hpdl
    have hp0 : 0 < p := by (first | (clear h hM hM' hK hK' hR hlam0 hlam hstop hM0 hMr hd hd0 t0 t4 hq hpd hE hp hpi hpM hd1 hn2 hn60 hv0 hw hpK hw0 hvw hw8 hv8 hleft n1 n3 heta hpMp heta0 heta1 heq hx0 he34 hE1 hEw hdl hdlw hPd hpdl htw h1; grind) | grind)
    obtain ⟨u, hu⟩ : ∃ u : Rat, p * u = tt + 46 / 1000000 := ⟨(tt + 46 / 1000000) / p, by
      have : p ≠ 0 := by (first | (clear h hM hM' hK hK' hR hlam0 hlam hstop hM0 hMr hd hd0 t0 t4 hq hpd hE hp hpi hpM hd1 hn2 hn60 hv0 hw hpK hw0 hvw hw8 hv8 hleft n1 n3 heta hpMp heta0 heta1 heq hx0 he34 hE1 hEw hdl hdlw hPd hpdl htw h1 hp0; grind) | grind)
      (first | (clear h hM hM' hK hK' hR hlam0 hlam hstop hM0 hMr hd hd0 t0 t4 hq hpd hE hp1 hp hpi hpM hd1 hn2 hn60 hv0 hw hpK hw0 hvw hw8 hv8 hleft n1 n3 heta hpMp heta0 heta1 heq hx0 he34 hE1 hEw hdl hdlw hPd hpdl htw h1 hp0; grind) | grind)⟩
    have h2 := n3 u (Wi.div hp0 (by rw [hu]; exact h1))
    have h3 := (wi_self (show 0 ≤ p by first | with_reducible assumption | with_reducible exact Rat.le_of_lt (by assumption) | decide +kernel | with_reducible exact qr1 (by assumption) | with_reducible exact qr2 (by assumption) | with_reducible exact qr3 (by assumption) | with_reducible exact qr4 (by assumption) | with_reducible exact qr5 (by assumption) | with_reducible exact qr6 (by assumption) | with_reducible exact qr7 (by assumption) | with_reducible exact qr8 (by assumption) | with_reducible exact qr9 (by assumption) | grind)).mul h2
    have h4 : p * d ≤ 1 / 1000000000000 := by
      have h5 := Rat.mul_le_mul_of_nonneg_left hMr (Rat.mul_nonneg (Rat.le_of_lt hp0) hd0)
      (first | (clear h hM hM' hK hK' hR hlam0 hlam hstop hM0 hMr hd hd0 t0 t4 hq hE hp1 hp hpi hpM hd1 hn2 hn60 hv0 hw hpK hw0 hvw hw8 hv8 hleft n1 n3 heta hpMp heta0 heta1 heq hx0 he34 hE1 hEw hdl hdlw hPd hpdl htw h1 hp0 hu h2 h3; grind) | grind)
    refine h3.le ?_
    have e5 : p * (1063 / 1000 * u + 2 * d) = 1063 / 1000 * (p * u) + 2 * (p * d) := by (first | (clear h hM hM' hK hK' hR hlam0 hlam hstop hM0 hMr hd hd0 t0 t4 hq hpd hE hp1 hp hpi hpM hd1 hn2 hn60 hv0 hw hpK hw0 hvw hw8 hv8 hleft n1 n3 heta hpMp heta0 heta1 heq hx0 he34 hE1 hEw hdl hdlw hPd hpdl htw h1 hp0 hu h2 h3 h4; grind) | grind)
    rw [e5, hu]
    (first | (clear h hM hM' hK hK' hR hlam0 hlam hstop hM0 hMr hd hd0 t0 t4 hq hpd hE hp1 hp hpi hpM hd1 hn2 hn60 hv0 hw hpK hw0 hvw hw8 hv8 hleft n1 n3 heta hpMp heta0 heta1 heq hx0 he34 hE1 hEw hdl hdlw hPd hpdl htw h1 hp0 hu h2 h3 e5; grind) | grind)
  -- the left out, by p v0
  obtain ⟨aw, haw0, hvaw, haww', hpaw'⟩ := abs_split v0
  have haww := haww' _ hvw
  have haw8 : aw ≤ 1 / 8 := Rat.le_trans haww hw8
  have hpaw := hpaw' _ _ hYw
  obtain ⟨P2, m1, m2, _⟩ := rows_log hd hd1 hv8 (n := nN M K + 1) hn60 hvaw haw8
  -- the two powers are near
  have hrows := fin_rows (n := nN M K) (n' := (nN M K : Int) + 1) hM (p2pos R) hpi hv0 hv8 hn2 rfl (Y := p * aw) (by
    have := (wi_self (show 0 ≤ p by first | with_reducible assumption | with_reducible exact Rat.le_of_lt (by assumption) | decide +kernel | with_reducible exact qr1 (by assumption) | with_reducible exact qr2 (by assumption) | with_reducible exact qr3 (by assumption) | with_reducible exact qr4 (by assumption) | with_reducible exact qr5 (by assumption) | with_reducible exact qr6 (by assumption) | with_reducible exact qr7 (by assumption) | with_reducible exact qr8 (by assumption) | with_reducible exact qr9 (by assumption) | grind)).mul hvaw
    exact this)
  have hP2 := near_two hd hd1 hv8 n1 m1
  have hpMd := Rat.mul_nonneg (Rat.le_of_lt hpMp) hd0
  -- all together
  have m3 := (wi_self (Rat.le_of_lt hpMp)).mul m2
  have m4 := (wi_self (Rat.le_of_lt hpMp)).mul hP2
  have hlo : p * (M : Rat) * (7 / 6 * (aw ^ (nN M K + 1 + 1) / (((nN M K + 1 : Nat) : Rat) + 1))) ≤ 7 / 24 * (p * aw) := by
    have h1 : aw ^ (nN M K + 1) * (M : Rat) ≤ 1 := by
      have := Rat.mul_le_mul_of_nonneg_right (pow_mono haw0 haww (nN M K + 1)) (show (0 : Rat) ≤ (M : Rat) by first | with_reducible assumption | with_reducible exact Rat.le_of_lt (by assumption) | decide +kernel | with_reducible exact qr1 (by assumption) | with_reducible exact qr2 (by assumption) | with_reducible exact qr3 (by assumption) | with_reducible exact qr4 (by assumption) | with_reducible exact qr5 (by assumption) | with_reducible exact qr6 (by assumption) | with_reducible exact qr7 (by assumption) | with_reducible exact qr8 (by assumption) | with_reducible exact qr9 (by assumption) | grind)
      (first | (clear h hM hM' hK hK' hR hlam0 hlam hstop hM0 hMr hd hd0 t0 t4 hq hpd hE hp1 hp hpi hpM hd1 hn2 hn60 hv0 hw hpK hw0 hvw hw8 hv8 n1 n3 heta hpMp heta0 heta1 heq hx0 he34 hE1 hEw hdl hdlw hPd hpdl htw hYw haw0 hvaw haww' hpaw' haww haw8 hpaw m1 m2 hrows hP2 hpMd m3 m4; grind) | grind)
    have h4 : (4 : Rat) ≤ ((nN M K + 1 : Nat) : Rat) + 1 := by
      have : ((3 : Nat) : Rat) ≤ ((nN M K + 1 : Nat) : Rat) := Rat.natCast_le_natCast.mpr (by (first | (clear h hM hM' hK hK' hR hlam0 hlam hstop hM0 hMr hd hd0 t0 t4 hq hpd hE hp1 hp hpi hpM hd1 hv0 hw hpK hw0 hvw hw8 hv8 hleft n1 n3 heta hpMp heta0 heta1 heq hx0 he34 hE1 hEw hdl hdlw hPd hpdl htw hYw haw0 hvaw haww' hpaw' haww haw8 hpaw m1 m2 hrows hP2 hpMd m3 m4 h1; omega) | omega))
      have e3 : ((3 : Nat) : Rat) = 3 := rfl
      (first | (clear h hM hM' hK hK' hR hlam0 hlam hstop hM0 hMr hd hd0 t0 t4 hq hpd hE hp1 hp hpi hpM hd1 hn2 hn60 hv0 hw hpK hw0 hvw hw8 hv8 hleft n1 n3 heta hpMp heta0 heta1 heq hx0 he34 hE1 hEw hdl hdlw hPd hpdl htw hYw haw0 hvaw haww' hpaw' haww haw8 hpaw m1 m2 hrows hP2 hpMd m3 m4 h1 e3; grind) | grind)
    rw [Rat.pow_succ]
    exact left_num (show 0 ≤ p by first | with_reducible assumption | with_reducible exact Rat.le_of_lt (by assumption) | decide +kernel | with_reducible exact qr1 (by assumption) | with_reducible exact qr2 (by assumption) | with_reducible exact qr3 (by assumption) | with_reducible exact qr4 (by assumption) | with_reducible exact qr5 (by assumption) | with_reducible exact qr6 (by assumption) | with_reducible exact qr7 (by assumption) | with_reducible exact qr8 (by assumption) | with_reducible exact qr9 (by assumption) | grind) haw0 h1 h4
  have fin := ((hrows.add m3.neg).add m4.neg.neg).add hdlw
  generalize ((divN (lser M (divN y (2 ^ R)) (nN M K) (divN M ((nN M K : Int) + 1)) * y) M : Int) : Rat) = Z at *
  generalize hS (-v0) (nN M K + 1) = H at *
  have e9 : Z + p * (M : Rat) * H + -(p * (M : Rat) * (H + (P2 : Rat) * d)) + - -(p * (M : Rat) * ((P2 : Rat) * d - (P : Rat) * d)) + p * (M : Rat) * dl = Z - (M : Rat) * t := by
    have : (M : Rat) * t = (M : Rat) * (p * ((P : Rat) * d)) - p * (M : Rat) * dl := by rw [hPd]; (first | (clear h hM hM' hK hK' hR hlam0 hlam hstop hM0 hMr hd hd0 t0 t4 hq hpd hE hp1 hp hpi hpM hd1 hn2 hn60 hv0 hw hpK hw0 hvw hw8 hv8 hleft n1 n3 heta hpMp heta0 heta1 heq hx0 he34 hE1 hEw hdl hdlw hPd hpdl htw hYw haw0 hvaw haww' hpaw' haww haw8 hpaw m1 hP2 hpMd m4 hlo m2 m3 hrows fin; grind) | grind)
    rw [this]; (first | (clear h hM hM' hK hK' hR hlam0 hlam hstop hM0 hMr hd hd0 t0 t4 hq hpd hE hp1 hp hpi hpM hd1 hn2 hn60 hv0 hw hpK hw0 hvw hw8 hv8 hleft n1 n3 heta hpMp heta0 heta1 heq hx0 he34 hE1 hEw hdl hdlw hPd hpdl htw hYw haw0 hvaw haww' hpaw' haww haw8 hpaw m1 hP2 hpMd m4 hlo m2 m3 hrows fin this; grind) | grind)
  rw [e9] at fin
  refine fin.le ?_
  have hq12 : p * (M : Rat) * d * 1000000000000 ≤ 1 := hpd
  have := fin_num (lam := lam) hpaw hlo hq12 t0
  refine Rat.le_trans ?_ this
  clear fin hrows m3 m4 hlo m1 m2 n1 n3 hP2 hEw hdlw hE h this hYw hvaw hvw hv8 hpdl htw
  generalize aw ^ (nN M K + 1 + 1) / (((nN M K + 1 : Nat) : Rat) + 1) = z at *
  generalize p * aw = Y at *
  have e1 : p * (M : Rat) * (7 / 6 * z + 3000 * d) = p * (M : Rat) * (7 / 6 * z) + 3000 * (p * (M : Rat) * d) := by (first | (clear hM hM' hK hK' hR hlam0 hlam hstop hM0 hMr hd hd0 t0 t4 hq hpd hp1 hp hpi hpM hd1 hn2 hn60 hv0 hw hpK hw0 hw8 hleft heta hpMp heta0 heta1 heq hx0 he34 hE1 hdl hPd haw0 haww' hpaw' haww haw8 hpMd e9 hq12 hpaw; grind) | grind)
  have e2 : p * (M : Rat) * (6 * d) = 6 * (p * (M : Rat) * d) := by (first | (clear hM hM' hK hK' hR hlam0 hlam hstop hM0 hMr hd hd0 t0 t4 hq hpd hp1 hp hpi hpM hd1 hn2 hn60 hv0 hw hpK hw0 hw8 hleft heta hpMp heta0 heta1 heq hx0 he34 hE1 hdl hPd haw0 haww' hpaw' haww haw8 hpMd e9 hq12 hpaw e1; grind) | grind)
  rw [e1, e2]
  exact Rat.le_refl

theorem rdiv_le {a b c : Rat} (hb : 0 < b) (h : a ≤ c * b) : a / b ≤ c := by
  refine div_le' hb ?_
  have : b * (a / b) = a := by (first | (clear h; grind) | grind)
  rw [this]; (first | (clear hb this; grind) | grind)
theorem ncast_le {a b : Nat} (h : a ≤ b) : (a : Rat) ≤ (b : Rat) := Rat.natCast_le_natCast.mpr h
theorem icast_le {a b : Int} (h : a ≤ b) : (a : Rat) ≤ (b : Rat) := Rat.intCast_le_intCast.mpr h
section
variable {d : Rat} (hd : 0 < d)
include hd
theorem iexp_rel {x M L P : Int} {B tot a : Rat} (hM : 0 < M) (hL : 1 ≤ L) (ha : 0 ≤ a) (htop : Wi ((sS x M L : Rat) + (iy x M L : Int) - (sS x M L : Rat) * ex d P) (a * ex d P)) (hB : tot ≤ B)
    (ht : a + sE d (nR x M L) P + B * B / (2 * (M : Rat)) ≤ tot) : Wi ((iexp x M L : Rat) - (M : Rat) * ex d (2 ^ nR x M L * P)) (tot * ex d (2 ^ nR x M L * P)) := by
  rw [iexp_iy hM hL, Rat.intCast_add]
  unfold sS at htop
  rw [icast_p2] at htop
  refine dbl_rel hd hM hB _ _ _ a ha htop ?_
  have hBB : 0 ≤ B * B := by
    rcases Rat.le_total (a := 0) (b := B) with h | h
    · exact Rat.mul_nonneg h h
    · have := Rat.mul_nonneg (show 0 ≤ -B by first | with_reducible assumption | with_reducible exact Rat.le_of_lt (by assumption) | decide +kernel | with_reducible exact qr1 (by assumption) | with_reducible exact qr2 (by assumption) | with_reducible exact qr3 (by assumption) | with_reducible exact qr4 (by assumption) | with_reducible exact qr5 (by assumption) | with_reducible exact qr6 (by assumption) | with_reducible exact qr7 (by assumption) | with_reducible exact qr8 (by assumption) | with_reducible exact qr9 (by assumption) | grind) (show 0 ≤ -B by first | with_reducible assumption | with_reducible exact Rat.le_of_lt (by assumption) | decide +kernel | with_reducible exact qr1 (by assumption) | with_reducible exact qr2 (by assumption) | with_reducible exact qr3 (by assumption) | with_reducible exact qr4 (by assumption) | with_reducible exact qr5 (by assumption) | with_reducible exact qr6 (by assumption) | with_reducible exact qr7 (by assumption) | with_reducible exact qr8 (by assumption) | with_reducible exact qr9 (by assumption) | grind); (first | (clear hd hM hL ha htop hB ht h; grind) | grind)
  have := rdiv_nonneg hBB (Rat.mul_pos (show (0 : Rat) < 2 by decide) (Rat.mul_pos (ipos hM) (pow2pos (nR x M L))))
  (first | (clear hd hM hL ha htop hB hBB; grind) | grind)
theorem iexp_top {x M L P : Int} {u mx : Rat} (hM : 0 < M) (hP : (x : Rat) = (sS x M L : Rat) * ((P : Rat) * d)) (hu : u = (P.natAbs : Rat) * d) (hu1 : u ≤ 1) (hd1 : d ≤ 1) (hm1 : 1 ≤ mx) (hm2 : ex d P ≤ mx) :
    Wi ((sS x M L : Rat) + (iy x M L : Int) - (sS x M L : Rat) * ex d P) (sm (nN M L) u / 2 + (sS x M L : Rat) * tm (nN M L + 2) u * mx + (4 * (nN M L : Rat) + 7) * ((sS x M L : Rat) * d)) :=
  top_err hd (sS_pos hM) hP hu hu1 hd1 hm1 hm2 (nN M L)
end
/-- the size of x by the step -/
theorem abs_u {d : Rat} (hd : 0 < d) {x S P : Int} (hS' : 0 < S) (hP : (x : Rat) = (S : Rat) * ((P : Rat) * d)) : (x.natAbs : Rat) = (S : Rat) * ((P.natAbs : Rat) * d) := by
  have hS := ipos hS'
  have e1 : (0 : Rat) ≤ (P : Rat) * d ∨ (P : Rat) * d ≤ 0 := Rat.le_total
  rcases Int.le_total 0 P with h | h
  · have hx0 : 0 ≤ x := by
      have : (0 : Rat) ≤ (x : Rat) := by rw [hP]; exact Rat.mul_nonneg (Rat.le_of_lt hS) (Rat.mul_nonneg (Rat.intCast_nonneg.mpr h) (Rat.le_of_lt hd))
      exact Rat.intCast_nonneg.mp this
    obtain ⟨p, rfl⟩ := Int.eq_ofNat_of_zero_le h
    obtain ⟨y, rfl⟩ := Int.eq_ofNat_of_zero_le hx0
    rw [Rat.intCast_natCast, Rat.intCast_natCast] at hP
    simpa using hP
  · obtain ⟨p, hp⟩ := Int.eq_ofNat_of_zero_le (show 0 ≤ -P by (first | (clear hd hS' hP hS e1; omega) | omega))
    have : P = -(p : Int) := by (first | (clear hd hS' hP hS e1 h; omega) | omega)
    subst this
    have hx0 : 0 ≤ -x := by
      have : (0 : Rat) ≤ ((-x : Int) : Rat) := by
        rw [Rat.intCast_neg, hP, Rat.intCast_neg, Rat.intCast_natCast]
        have := Rat.mul_nonneg (Rat.le_of_lt hS) (Rat.mul_nonneg (show (0 : Rat) ≤ (p : Rat) from Rat.natCast_nonneg) (Rat.le_of_lt hd))
        (first | (clear hd hS' hS hP e1 h hp; grind) | grind)
      exact Rat.intCast_nonneg.mp this
    obtain ⟨y, hy⟩ := Int.eq_ofNat_of_zero_le hx0
    have : x = -(y : Int) := by (first | (clear hd hS' hS hP e1 h hp hx0; omega) | omega)
    subst this
    rw [Rat.intCast_neg, Rat.intCast_neg, Rat.intCast_natCast, Rat.intCast_natCast] at hP
    rw [show (-(y : Int)).natAbs = y by (first | (clear hd hS' hS e1 h hp hP hy; omega) | omega), show (-(p : Int)).natAbs = p by (first | (clear hd hS' hS e1 hp hP hx0 hy; omega) | omega)]
    (first | (clear hd hS' hS e1 h hp hx0 hy; grind) | grind)

theorem divN_natAbs {a b : Int} (hb : 0 < b) : 2 * ((divN a b).natAbs : Int) * b ≤ 2 * (a.natAbs : Int) + b := by
  obtain ⟨e, he, e1, e2, _, _⟩ := divN_spec a b hb
  generalize divN a b = q at *
  rcases Int.le_total 0 q with h | h
  · have e3 : (q.natAbs : Int) = q := by (first | (clear hb e1 e2 he; omega) | omega)
    rw [e3]
    have : 2 * q * b = 2 * (q * b) := by (first | (clear hb e1 e2 he h e3; grind) | grind)
    (first | (clear hb e2 h e3; omega) | omega)
  · have e3 : (q.natAbs : Int) = -q := by (first | (clear hb e1 e2 he; omega) | omega)
    rw [e3]
    have : 2 * -q * b = -2 * (q * b) := by (first | (clear hb e1 e2 he h e3; grind) | grind)
    (first | (clear hb e1 h e3; omega) | omega)
theorem add_sz {a b : Int} {n m : Nat} (hm : m = n + 1) (ha : a.natAbs < 2 ^ n) (hb : b.natAbs < 2 ^ n) : (a + b).natAbs < 2 ^ m := by
  subst hm
  rw [Nat.pow_succ]
  generalize 2 ^ n = v at *
  omega
theorem mul_natAbs_le {x y : Int} {a b : Int} (hx : (x.natAbs : Int) ≤ a) (hy : (y.natAbs : Int) ≤ b) : ((x * y).natAbs : Int) ≤ a * b := by
  rw [Int.natAbs_mul, Int.natCast_mul]
  exact Int.mul_le_mul hx hy (by first | with_reducible assumption | with_reducible exact Int.le_of_lt (by assumption) | with_reducible exact Nat.le_of_lt (by assumption) | with_reducible exact qz1 (by assumption) | with_reducible exact qz2 (by assumption) | with_reducible exact qz3 (by assumption) | with_reducible exact qz4 (by assumption) | with_reducible exact qz5 (by assumption) | with_reducible exact qz6 (by assumption) | with_reducible exact qz7 (by assumption) | with_reducible exact qz8 (by assumption) | with_reducible exact qz9 (by assumption) | with_reducible exact qza (by assumption) | with_reducible exact qzb (by assumption) | with_reducible exact qzc | with_reducible exact qzd | with_reducible exact qze | omega) (by (first | (clear hy; omega) | omega))

theorem ser_step {x S y i : Int} (hS : 0 < S) (hx : 2 * (x.natAbs : Int) ≤ S) (hi : 1 ≤ i) (hy : (y.natAbs : Int) ≤ 2 * x.natAbs + 1) :
    ((divN (x * (S + y)) (S * i)).natAbs : Int) ≤ 2 * x.natAbs + 1 := by
  have hSi : 0 < S * i := Int.mul_pos hS (by (first | (clear hS hx hy; omega) | omega))
  have h1 := divN_natAbs (a := x * (S + y)) hSi
  have h2 : ((x * (S + y)).natAbs : Int) ≤ x.natAbs * (S + (2 * x.natAbs + 1)) := mul_natAbs_le (Int.le_refl _) (by (first | (clear hi hSi h1; omega) | omega))
  generalize ((divN (x * (S + y)) (S * i)).natAbs : Int) = q at *
  generalize hX : (x.natAbs : Int) = X at *
  have hX0 : 0 ≤ X := by (first | (clear hS hi hSi h1 hX hx h2; omega) | omega)
  refine Int.not_lt.mp fun hlt => ?_
  have h3 : 2 * (2 * X + 2) * (S * i) ≤ 2 * q * (S * i) := Int.mul_le_mul_of_nonneg_right (by (first | (clear hS hi hSi h1 hX hx hy h2 hX0; omega) | omega)) (by first | with_reducible assumption | with_reducible exact Int.le_of_lt (by assumption) | with_reducible exact Nat.le_of_lt (by assumption) | with_reducible exact qz1 (by assumption) | with_reducible exact qz2 (by assumption) | with_reducible exact qz3 (by assumption) | with_reducible exact qz4 (by assumption) | with_reducible exact qz5 (by assumption) | with_reducible exact qz6 (by assumption) | with_reducible exact qz7 (by assumption) | with_reducible exact qz8 (by assumption) | with_reducible exact qz9 (by assumption) | with_reducible exact qza (by assumption) | with_reducible exact qzb (by assumption) | with_reducible exact qzc | with_reducible exact qzd | with_reducible exact qze | omega)
  have h4 : (2 * X) * (2 * X + 1) ≤ S * (2 * X + 1) := Int.mul_le_mul_of_nonneg_right hx (by (first | (clear hS hi hSi h1 hX hx hy h2 hlt h3; omega) | omega))
  have h5 : S * 1 ≤ S * i := Int.mul_le_mul_of_nonneg_left hi (by first | with_reducible assumption | with_reducible exact Int.le_of_lt (by assumption) | with_reducible exact Nat.le_of_lt (by assumption) | with_reducible exact qz1 (by assumption) | with_reducible exact qz2 (by assumption) | with_reducible exact qz3 (by assumption) | with_reducible exact qz4 (by assumption) | with_reducible exact qz5 (by assumption) | with_reducible exact qz6 (by assumption) | with_reducible exact qz7 (by assumption) | with_reducible exact qz8 (by assumption) | with_reducible exact qz9 (by assumption) | with_reducible exact qza (by assumption) | with_reducible exact qzb (by assumption) | with_reducible exact qzc | with_reducible exact qzd | with_reducible exact qze | omega)
  have h6 : X * S ≤ X * (S * i) := Int.mul_le_mul_of_nonneg_left (by (first | (clear hS hi hSi h1 hX hx hy h2 hX0 hlt h3 h4; omega) | omega)) hX0
  generalize hQ : S * i = Q at *
  have e1 : 2 * (2 * X + 2) * Q = 4 * (X * Q) + 4 * Q := by (first | (clear hS hi hX hx hy h2 hX0 hlt h4 hQ hSi h1 h3 h5 h6; grind) | grind)
  have e2 : 2 * (X * (S + (2 * X + 1))) = 2 * (X * S) + (2 * X) * (2 * X + 1) := by (first | (clear hS hi hX hx hy h2 hX0 hlt h4 hQ hSi h1 h3 h5 h6 e1; grind) | grind)
  have e3 : S * (2 * X + 1) = 2 * (X * S) + S := by (first | (clear hS hi hX hx hy h2 hX0 hlt h4 hQ hSi h1 h3 h5 h6 e1 e2; grind) | grind)
  (first | (clear hS hi hX hx hy hX0 hlt hQ; omega) | omega)

theorem ipow_one (b : Int) : b ^ 1 = b := by rw [Int.pow_succ, Int.pow_zero, Int.one_mul]
noncomputable def n_iexp : List Str := ["x", "M", "L", "R", "T", "y", "Mshift", "i", "k"]
noncomputable def p_iexp : List Str := ["x", "M", "L"]
noncomputable def u_iexp : List B := [(.fn "_div_nearest"), .int, .len, .nbits, .range, .str]
noncomputable def s_iexp_1b : S :=
  (.set 5 (.call "_div_nearest" (.cons (.bin .Mult (.var 0) (.bin .Add (.var 6) (.var 5))) (.cons (.bin .Mult (.var 6) (.var 7)) .nil)))
  .nil)
noncomputable def s_iexp_2b : S :=
  (.set 6 (.bin .LShift (.var 1) (.bin .Add (.var 8) (.lit 2)))
  (.set 5 (.call "_div_nearest" (.cons (.bin .Mult (.var 5) (.bin .Add (.var 5) (.var 6))) (.cons (.var 6) .nil)))
  .nil))
noncomputable def s_iexp_2r : S :=
  (.ret (.bin .Add (.var 1) (.var 5)))
noncomputable def s_iexp_2 : S := .forR 8 (.cons (.bin .Sub (.var 3) (.lit 1)) (.cons (.neg (.lit 1)) (.cons (.neg (.lit 1)) .nil))) s_iexp_2b s_iexp_2r
noncomputable def s_iexp_1r : S :=
  s_iexp_2
noncomputable def s_iexp_1 : S := .forR 7 (.cons (.bin .Sub (.var 4) (.lit 1)) (.cons (.lit 0) (.cons (.neg (.lit 1)) .nil))) s_iexp_1b s_iexp_1r
noncomputable def s_iexp : S :=
  (.set 3 (.bi .nbits (.cons (.bin .FloorDiv (.bin .LShift (.var 0) (.var 2)) (.var 1)) .nil))
  (.set 4 (.neg (.bi .int (.cons (.bin .FloorDiv (.bin .Mult (.neg (.lit 10)) (.bi .len (.cons (.bi .str (.cons (.var 1) .nil)) .nil))) (.bin .Mult (.lit 3) (.var 2))) .nil)))
  (.set 5 (.call "_div_nearest" (.cons (.var 0) (.cons (.var 4) .nil)))
  (.set 6 (.bin .LShift (.var 1) (.var 3))
  s_iexp_1))))

inductive GD : Str → List D → D → Prop where
  | div (a b : Int) (hb : 0 < b) (hs : b.natAbs.log2 < 9000) : GD "_div_nearest" [.int a, .int b] (.int (divN a b))

theorem cnt_down (n : Nat) (z : Int) : cnt (z + n) z (-1) = n := by
  unfold cnt Builtin.Range.rangeSize
  rw [if_neg (by decide)]
  split
  · have : z + (n : Int) - z - 1 = n - 1 := by omega
    rw [this]
    have : ((n : Int) - 1) / (-(-1)) = n - 1 := by simp
    rw [this]; omega
  · omega

theorem nz' {a : Int} (h : 0 < a) : a ≠ 0 := by omega
theorem bits_add {a b : Int} {k : Nat} (h : a.natAbs < 2 ^ k) (hk : k ≤ 1000) (hb : b ≤ 1000) : (Builtin.Int.intBits a : Int) + b ≤ 2 ^ 27 := by
  have := intBits_le h
  (first | (clear h; omega) | omega)
theorem scale2 {x M L : Int} (hM : 0 < M) (hL : 1 ≤ L) : 2 * (x.natAbs : Int) ≤ M * 2 ^ nR x M L := by
  obtain ⟨hR1, _⟩ := nR_facts (x := x) (L := L) hM
  have hl2 : (2 : Int) ≤ 2 ^ L.toNat := by
    have := ipow_le (c := 2) (by decide) (show 1 ≤ L.toNat by (first | (clear hM hR1; omega) | omega))
    rwa [ipow_one] at this
  have : (x.natAbs : Int) * 2 ≤ x.natAbs * 2 ^ L.toNat := Int.mul_le_mul_of_nonneg_left hl2 (by first | with_reducible assumption | with_reducible exact Int.le_of_lt (by assumption) | with_reducible exact Nat.le_of_lt (by assumption) | with_reducible exact qz1 (by assumption) | with_reducible exact qz2 (by assumption) | with_reducible exact qz3 (by assumption) | with_reducible exact qz4 (by assumption) | with_reducible exact qz5 (by assumption) | with_reducible exact qz6 (by assumption) | with_reducible exact qz7 (by assumption) | with_reducible exact qz8 (by assumption) | with_reducible exact qz9 (by assumption) | with_reducible exact qza (by assumption) | with_reducible exact qzb (by assumption) | with_reducible exact qzc | with_reducible exact qzd | with_reducible exact qze | omega)
  split at hR1 <;> (first | (clear hL hl2; omega) | omega)
theorem szp2 {M : Int} {R k : Nat} (hM : M.natAbs < 2 ^ 300) (hR : R ≤ k) : (M * 2 ^ R).natAbs < 2 ^ (300 + k) := by
  rw [Int.natAbs_mul, Nat.pow_add, Int.natAbs_pow]
  have h2 : (2 : Int).natAbs ^ R ≤ 2 ^ k := Nat.pow_le_pow_right (by decide) hR
  exact Nat.mul_lt_mul_of_lt_of_le hM h2 (Nat.pow_pos (by decide))
theorem le_sz {a b : Int} {k : Nat} (h : (a.natAbs : Int) ≤ 2 * b.natAbs + 1) (hb : b.natAbs < 2 ^ k) : a.natAbs < 2 ^ (k + 1) := by
  rw [Nat.pow_succ]
  generalize (2 : Nat) ^ k = p at *
  omega
theorem first_le {x T : Int} (hT : 1 ≤ T) : ((divN x T).natAbs : Int) ≤ 2 * x.natAbs + 1 := by
  have h1 := divN_natAbs (a := x) (show 0 < T by omega)
  generalize ((divN x T).natAbs : Int) = q at *
  refine Int.not_lt.mp fun hlt => ?_
  have h2 : 2 * q * 1 ≤ 2 * q * T := Int.mul_le_mul_of_nonneg_left hT (by (first | (clear hT h1; omega) | omega))
  have h3 : 2 * (2 * (x.natAbs : Int) + 2) * T ≤ 2 * q * T := Int.mul_le_mul_of_nonneg_right (by (first | (clear hT h1 h2; omega) | omega)) (by first | with_reducible assumption | with_reducible exact Int.le_of_lt (by assumption) | with_reducible exact Nat.le_of_lt (by assumption) | with_reducible exact qz1 (by assumption) | with_reducible exact qz2 (by assumption) | with_reducible exact qz3 (by assumption) | with_reducible exact qz4 (by assumption) | with_reducible exact qz5 (by assumption) | with_reducible exact qz6 (by assumption) | with_reducible exact qz7 (by assumption) | with_reducible exact qz8 (by assumption) | with_reducible exact qz9 (by assumption) | with_reducible exact qza (by assumption) | with_reducible exact qzb (by assumption) | with_reducible exact qzc | with_reducible exact qzd | with_reducible exact qze | omega)
  have h4 : (x.natAbs : Int) * 1 ≤ x.natAbs * T := Int.mul_le_mul_of_nonneg_left hT (by first | with_reducible assumption | with_reducible exact Int.le_of_lt (by assumption) | with_reducible exact Nat.le_of_lt (by assumption) | with_reducible exact qz1 (by assumption) | with_reducible exact qz2 (by assumption) | with_reducible exact qz3 (by assumption) | with_reducible exact qz4 (by assumption) | with_reducible exact qz5 (by assumption) | with_reducible exact qz6 (by assumption) | with_reducible exact qz7 (by assumption) | with_reducible exact qz8 (by assumption) | with_reducible exact qz9 (by assumption) | with_reducible exact qza (by assumption) | with_reducible exact qzb (by assumption) | with_reducible exact qzc | with_reducible exact qzd | with_reducible exact qze | omega)
  (first | (clear hT; grind) | grind)
theorem iexp_turn {x S y : Int} {j : Nat} (hx : x.natAbs < 2 ^ 306) (hS : S.natAbs < 2 ^ 372) (hy : (y.natAbs : Int) ≤ 2 * x.natAbs + 1) (hj : j ≤ 1000) :
    IntMulOk x (S + y) ∧ IntMulOk S ((j : Int) + 1) ∧ (S * ((j : Int) + 1)).natAbs.log2 < 9000 := by
  have h1 := add_sz rfl hS (bigger 307 372 (le_sz hy hx))
  have h2 : ((j : Int) + 1).natAbs < 2 ^ 10 := by (first | (clear hx hS hy h1; omega) | omega)
  refine ⟨Sm.mul (.of _ hx) (.of _ h1), Sm.mul (.of _ hS) (.of _ h2), lg 382 ?_⟩
  rw [Int.natAbs_mul, show 382 = 372 + 10 from rfl, Nat.pow_add]
  exact Nat.mul_lt_mul'' hS h2
/-! the loop of _law_log -/
theorem fdiv_rat {a b : Int} (hb : 0 < b) : ((a.fdiv b : Int) : Rat) * (b : Rat) ≤ (a : Rat) ∧ (a : Rat) < ((a.fdiv b : Int) : Rat) * (b : Rat) + (b : Rat) := by
  rw [Int.fdiv_eq_ediv_of_nonneg _ (by first | with_reducible assumption | with_reducible exact Int.le_of_lt (by assumption) | with_reducible exact Nat.le_of_lt (by assumption) | with_reducible exact qz1 (by assumption) | with_reducible exact qz2 (by assumption) | with_reducible exact qz3 (by assumption) | with_reducible exact qz4 (by assumption) | with_reducible exact qz5 (by assumption) | with_reducible exact qz6 (by assumption) | with_reducible exact qz7 (by assumption) | with_reducible exact qz8 (by assumption) | with_reducible exact qz9 (by assumption) | with_reducible exact qza (by assumption) | with_reducible exact qzb (by assumption) | with_reducible exact qzc | with_reducible exact qzd | with_reducible exact qze | omega)]
  have h1 := Int.ediv_mul_le a (show b ≠ 0 by first | with_reducible assumption | with_reducible exact Int.le_of_lt (by assumption) | with_reducible exact Nat.le_of_lt (by assumption) | with_reducible exact qz1 (by assumption) | with_reducible exact qz2 (by assumption) | with_reducible exact qz3 (by assumption) | with_reducible exact qz4 (by assumption) | with_reducible exact qz5 (by assumption) | with_reducible exact qz6 (by assumption) | with_reducible exact qz7 (by assumption) | with_reducible exact qz8 (by assumption) | with_reducible exact qz9 (by assumption) | with_reducible exact qza (by assumption) | with_reducible exact qzb (by assumption) | with_reducible exact qzc | with_reducible exact qzd | with_reducible exact qze | omega)
  have h2 := Int.lt_ediv_add_one_mul_self a hb
  have h3 := icast_le h1
  have h4 := Rat.intCast_lt_intCast.mpr h2
  rw [Rat.intCast_mul] at h3
  rw [Rat.intCast_mul, Rat.intCast_add] at h4
  rw [show ((1 : Int) : Rat) = 1 from rfl] at h4
  constructor <;> (first | (clear hb h1 h2; grind) | grind)
/-! factorials -/
noncomputable def fct : Nat → Int
  | 0 => 1
  | n + 1 => fct n * ((n : Int) + 1)
theorem tm_fct (n : Nat) (u : Rat) : tm n u * (fct n : Rat) = u ^ n := by
  induction n with
  | zero => rw [Rat.pow_zero]; show (1 : Rat) * ((1 : Int) : Rat) = 1; rw [show ((1 : Int) : Rat) = 1 from rfl]; grind
  | succ n ih =>
    have h1 := tm_succ n u
    show tm (n + 1) u * ((fct n * ((n : Int) + 1) : Int) : Rat) = _
    rw [Rat.intCast_mul, Rat.intCast_add, Rat.intCast_natCast, show ((1 : Int) : Rat) = 1 from rfl, Rat.pow_succ, ← ih]
    (first | (clear ih; grind) | grind)
/-! sums -/
noncomputable def sumTo (f : Nat → Int) : Nat → Int
  | 0 => 0
  | n + 1 => sumTo f n + f n
theorem rmul_pow (a b : Rat) (n : Nat) : (a * b) ^ n = a ^ n * b ^ n := by
  induction n with
  | zero => rw [Rat.pow_zero, Rat.pow_zero, Rat.pow_zero]; grind
  | succ n ih => rw [Rat.pow_succ, Rat.pow_succ, Rat.pow_succ, ih]; (first | (clear ih; grind) | grind)
theorem ex_mulN' {d : Rat} (hd : 0 < d) (k : Nat) (p : Int) : ex d ((k : Int) * p) = ex d p ^ k := by
  induction k with
  | zero => rw [show ((0 : Nat) : Int) * p = 0 by simp, ex_zero, Rat.pow_zero]
  | succ k ih => rw [show ((k + 1 : Nat) : Int) * p = (k : Int) * p + p by rw [Int.natCast_add]; (first | (clear hd ih; grind) | grind), ex_add hd, ih, Rat.pow_succ]
/-- exp(-t) is no more than 1 by 1 + t / k, k times multiplied by itself -/
theorem ex_pow_le {d : Rat} (hd : 0 < d) (k : Nat) {c m b : Int} (hm : 0 < m) (hmb : 0 < m + b) (h : (m : Rat) * ((c : Rat) * d) = (b : Rat)) : ex d (-((k : Int) * c)) * ((m + b : Int) : Rat) ^ k ≤ (m : Rat) ^ k := by
  have h1 := ex_ge hd c
  have hmr := ipos hm
  have e : ((m + b : Int) : Rat) = (m : Rat) * (1 + (c : Rat) * d) := by rw [Rat.intCast_add, ← h]; (first | (clear hd hm hmb h h1 hmr; grind) | grind)
  have hp : 0 < 1 + (c : Rat) * d := by
    have := ipos hmb
    rw [e] at this
    refine Rat.not_le.mp fun hle => ?_
    have := Rat.mul_le_mul_of_nonneg_left hle (Rat.le_of_lt hmr)
    (first | (clear hd hm hmb h h1 hmr e hle; grind) | grind)
  rw [e, rmul_pow]
  have h2 := pow_mono (Rat.le_of_lt hp) h1 k
  have h3 := ex_neg hd ((k : Int) * c)
  rw [ex_mulN' hd k c] at h3
  have h4 := Rat.mul_le_mul_of_nonneg_left h2 (Rat.le_of_lt (Rat.mul_pos (ex_pos hd (-((k : Int) * c))) (Rat.pow_pos hmr (n := k))))
  have e2 : ex d (-((k : Int) * c)) * (m : Rat) ^ k * ex d c ^ k = (m : Rat) ^ k := by
    have : ex d (-((k : Int) * c)) * (m : Rat) ^ k * ex d c ^ k = (m : Rat) ^ k * (ex d c ^ k * ex d (-((k : Int) * c))) := by (first | (clear hd hm hmb h h1 hmr e hp h2 h3 h4; grind) | grind)
    rw [this, h3]; (first | (clear hd hm hmb h h1 hmr e hp h2 h3 h4 this; grind) | grind)
  rw [e2] at h4
  (first | (clear hd hm hmb h h1 hmr e hp h2 h3 e2; grind) | grind)
theorem floor_pow {d : Rat} (hd : 0 < d) (k : Nat) {s c m b : Int} (hs : 0 ≤ s) (hm : 0 < m) (hmb : 0 < m + b) (h : (m : Rat) * ((c : Rat) * d) = (b : Rat)) : (s : Rat) * ex d (-((k : Int) * c)) ≤ ((s * m ^ k).fdiv ((m + b) ^ k) : Int) + 1 ∧ (s : Rat) * (ex d (-((k : Int) * c)) / 2) ≤ ((s * m ^ k).fdiv (2 * (m + b) ^ k) : Int) + 1 := by
  have h1 := ex_pow_le hd k hm hmb h
  have hq : 0 < (m + b) ^ k := Int.pow_pos hmb
  have hqr := ipos hq
  have hsr : (0 : Rat) ≤ (s : Rat) := Rat.intCast_nonneg.mpr hs
  have h2 := Rat.mul_le_mul_of_nonneg_left h1 hsr
  rw [← Rat.intCast_pow] at h2
  constructor
  · have h3 := (fdiv_rat (a := s * m ^ k) hq).2
    rw [Rat.intCast_mul, Rat.intCast_pow] at h3
    refine div_le' hqr ?_
    generalize (((s * m ^ k).fdiv ((m + b) ^ k) : Int) : Rat) = q at *
    generalize (((m + b) ^ k : Int) : Rat) = w at *
    (first | (clear hd hs hm hmb h h1 hq hsr hqr; grind) | grind)
  · have h3 := (fdiv_rat (a := s * m ^ k) (b := 2 * (m + b) ^ k) (by (first | (clear hd hs hm hmb h h1 hqr hsr h2; omega) | omega))).2
    rw [Rat.intCast_mul, Rat.intCast_pow, Rat.intCast_mul, show ((2 : Int) : Rat) = 2 from rfl] at h3
    refine div_le' (show (0 : Rat) < 2 * (((m + b) ^ k : Int) : Rat) by (first | (clear hd hs hm hmb h h1 hq hsr h2 h3; grind) | grind)) ?_
    generalize (((s * m ^ k).fdiv (2 * (m + b) ^ k) : Int) : Rat) = q at *
    generalize (((m + b) ^ k : Int) : Rat) = w at *
    (first | (clear hd hs hm hmb h h1 hq hsr hqr; grind) | grind)

/-! law 10: what _law_bound computes -/
noncomputable def t10 (x M L : Int) : Nat := nR (-(x.natAbs : Int)) M L
theorem t10_facts {x M L : Int} (hM : 0 < M) : (x.natAbs : Int) * 2 ^ L.toNat + M ≤ M * 2 ^ t10 x M L ∧ ∀ j < t10 x M L, M * 2 ^ j < (x.natAbs : Int) * 2 ^ L.toNat + M := by
  obtain ⟨h1, h2⟩ := nR_facts (x := -(x.natAbs : Int)) (L := L) hM
  have e : ((-(x.natAbs : Int)).natAbs : Int) = (x.natAbs : Int) := by (first | (clear hM h1 h2; omega) | omega)
  rw [e] at h1 h2
  unfold t10
  by_cases hx : x = 0
  · subst hx
    have hz : ((0 : Int).natAbs : Int) * 2 ^ L.toNat = 0 := by simp
    have hp : ∀ j : Nat, M * 1 ≤ M * 2 ^ j := fun j => Int.mul_le_mul_of_nonneg_left (by have := p2pos j; (first | (clear hM h1 h2 e hz; omega) | omega)) (by first | with_reducible assumption | with_reducible exact Int.le_of_lt (by assumption) | with_reducible exact Nat.le_of_lt (by assumption) | with_reducible exact qz1 (by assumption) | with_reducible exact qz2 (by assumption) | with_reducible exact qz3 (by assumption) | with_reducible exact qz4 (by assumption) | with_reducible exact qz5 (by assumption) | with_reducible exact qz6 (by assumption) | with_reducible exact qz7 (by assumption) | with_reducible exact qz8 (by assumption) | with_reducible exact qz9 (by assumption) | with_reducible exact qza (by assumption) | with_reducible exact qzb (by assumption) | with_reducible exact qzc | with_reducible exact qzd | with_reducible exact qze | omega)
    refine ⟨by have := hp (nR (-((0 : Int).natAbs : Int)) M L); (first | (clear hM h1 h2 e hp; omega) | omega), fun j hj => ?_⟩
    have := h2 j hj
    have := hp j
    rw [if_neg (by simp)] at *
    (first | (clear h1 h2 e hp hj; omega) | omega)
  · rw [if_pos (by (first | (clear hM h1 h2 e; omega) | omega))] at h1 h2
    exact ⟨h1, h2⟩
theorem nR_le_t10 {x M L : Int} (hM : 0 < M) : nR x M L ≤ t10 x M L := by
  obtain ⟨h1, _⟩ := t10_facts (x := x) (L := L) hM
  refine Nat.not_lt.mp fun hlt => ?_
  have := (nR_facts (x := x) (L := L) hM).2 _ hlt
  split at this <;> (first | (clear hlt; omega) | omega)
theorem t10_le {x M L : Int} (hM : 0 < M) (hx : 2 * (x.natAbs : Int) ≤ 15 * M) (hL : L ≤ 10) : t10 x M L ≤ 13 := by
  refine Nat.not_lt.mp fun hlt => ?_
  have h := (t10_facts (x := x) (L := L) hM).2 13 hlt
  have h2 : (2 : Int) ^ L.toNat ≤ 2 ^ 10 := ipow_le (by decide) (by (first | (clear hM hx hlt h; omega) | omega))
  have h3 : 2 * (x.natAbs : Int) * 2 ^ L.toNat ≤ 15 * M * 2 ^ 10 := Int.mul_le_mul hx h2 (Int.le_of_lt (p2pos _)) (by (first | (clear hx hL hlt h h2; omega) | omega))
  have e : 2 * (x.natAbs : Int) * 2 ^ L.toNat = 2 * ((x.natAbs : Int) * 2 ^ L.toNat) := by (first | (clear hM hx hL hlt h h2 h3; grind) | grind)
  (first | (clear hx hL hlt h2; omega) | omega)
/-! the answer is no less than M + x -/
/-! sizes of the bound -/
theorem p2_ge (j : Nat) : (1 : Int) ≤ 2 ^ j := by have := p2pos j; omega
theorem m2_ge {M : Int} (hM : 0 < M) (j : Nat) : M ≤ M * 2 ^ j := by
  have := Int.mul_le_mul_of_nonneg_left (p2_ge j) (show 0 ≤ M by first | with_reducible assumption | with_reducible exact Int.le_of_lt (by assumption) | with_reducible exact Nat.le_of_lt (by assumption) | with_reducible exact qz1 (by assumption) | with_reducible exact qz2 (by assumption) | with_reducible exact qz3 (by assumption) | with_reducible exact qz4 (by assumption) | with_reducible exact qz5 (by assumption) | with_reducible exact qz6 (by assumption) | with_reducible exact qz7 (by assumption) | with_reducible exact qz8 (by assumption) | with_reducible exact qz9 (by assumption) | with_reducible exact qza (by assumption) | with_reducible exact qzb (by assumption) | with_reducible exact qzc | with_reducible exact qzd | with_reducible exact qze | omega)
  (first | (clear hM; omega) | omega)
/-- the step for law 10, one for all numbers -/
structure S10 (M : Int) (d : Rat) (W : Int) : Prop where
  hd : 0 < d
  hW : 1000000000000 ≤ W
  h1 : (M : Rat) * 8192 * (64 * (W : Rat)) * d = 1
theorem rinv_pos {a : Rat} (ha : 0 < a) : 0 < 1 / a := by
  refine Rat.not_le.mp fun hle => ?_
  have := Rat.mul_le_mul_of_nonneg_left hle (Rat.le_of_lt ha)
  have e : a * (1 / a) = 1 := by (first | (clear hle; grind) | grind)
  rw [e, Rat.mul_zero] at this
  exact absurd this (by decide)
theorem S10_ex {M : Int} (hM : 0 < M) : ∃ d W, S10 M d W := by
  have hp : (0 : Rat) < (M : Rat) * 8192 * (64 * ((1000000000000 : Int) : Rat)) := by
    have := ipos hM
    rw [show ((1000000000000 : Int) : Rat) = 1000000000000 from rfl]
    (first | (clear hM; grind) | grind)
  refine ⟨1 / ((M : Rat) * 8192 * (64 * ((1000000000000 : Int) : Rat))), 1000000000000, ?_, by decide, ?_⟩
  · exact rinv_pos hp
  · generalize (M : Rat) * 8192 * (64 * ((1000000000000 : Int) : Rat)) = a at *
    (first | (clear hM; grind) | grind)
noncomputable def PP (x M L W : Int) : Int := 64 * W * 2 ^ (13 - nR x M L) * x
theorem pw13 {R : Nat} (h : R ≤ 13) : (2 : Rat) ^ R * 2 ^ (13 - R) = 8192 := by rw [← rpow_add, show R + (13 - R) = 13 by omega]; rfl
theorem pw13i {R : Nat} (h : R ≤ 13) : (2 : Int) ^ R * 2 ^ (13 - R) = 8192 := by rw [← Int.pow_add, show R + (13 - R) = 13 by omega]; rfl
theorem S10.facts {x M L W : Int} {d : Rat} (h : S10 M d W) (hM : 1000 ≤ M) (hR : nR x M L ≤ 13) : (x : Rat) = (sS x M L : Rat) * (((PP x M L W : Int) : Rat) * d) ∧ 2 ^ nR x M L * PP x M L W = 524288 * W * x ∧
    d ≤ 1 / 1000000 ∧ (sS x M L : Rat) * d * 64000000000000 ≤ 1 := by
  have hM0 : 0 < M := by first | with_reducible assumption | with_reducible exact Int.le_of_lt (by assumption) | with_reducible exact Nat.le_of_lt (by assumption) | with_reducible exact qz1 (by assumption) | with_reducible exact qz2 (by assumption) | with_reducible exact qz3 (by assumption) | with_reducible exact qz4 (by assumption) | with_reducible exact qz5 (by assumption) | with_reducible exact qz6 (by assumption) | with_reducible exact qz7 (by assumption) | with_reducible exact qz8 (by assumption) | with_reducible exact qz9 (by assumption) | with_reducible exact qza (by assumption) | with_reducible exact qzb (by assumption) | with_reducible exact qzc | with_reducible exact qzd | with_reducible exact qze | omega
  have hSe : (sS x M L : Rat) = (M : Rat) * 2 ^ nR x M L := by unfold sS; rw [icast_p2]
  have hMr : (1000 : Rat) ≤ (M : Rat) := icast_le hM
  have hWr : (1000000000000 : Rat) ≤ (W : Rat) := icast_le h.hW
  have hd := h.hd
  have h1 := h.h1
  have hp := pw13 hR
  have hpi := pw13i hR
  have h2 : 1 ≤ (2 : Rat) ^ (13 - nR x M L) := pow2ge _
  have h3 : 0 < (2 : Rat) ^ nR x M L := pow2pos _
  refine ⟨?_, ?_, ?_, ?_⟩
  · unfold PP
    have e2 : (((2 : Int) ^ (13 - nR x M L) : Int) : Rat) = 2 ^ (13 - nR x M L) := by rw [Rat.intCast_pow]; rfl
    rw [Rat.intCast_mul, Rat.intCast_mul, Rat.intCast_mul, e2, hSe, show ((64 : Int) : Rat) = 64 from rfl]
    generalize (2 : Rat) ^ nR x M L = a at *
    generalize (2 : Rat) ^ (13 - nR x M L) = b at *
    have : (M : Rat) * a * (64 * (W : Rat) * b * (x : Rat) * d) = (x : Rat) * ((M : Rat) * (a * b) * (64 * (W : Rat)) * d) := by (first | (clear h hM hR hM0 hMr hWr hd h1 hpi hSe h3 h2 e2 hp; grind) | grind)
    rw [this, hp, h1]; (first | (clear h hM hR hM0 hMr hWr hd h1 hpi hSe h3 h2 e2 hp this; grind) | grind)
  · unfold PP
    generalize (2 : Int) ^ nR x M L = a at *
    generalize (2 : Int) ^ (13 - nR x M L) = b at *
    have : a * (64 * W * b * x) = (a * b) * (64 * W * x) := by (first | (clear h hM hR hM0 hSe hMr hWr hd h1 hp h2 h3 hpi; grind) | grind)
    rw [this, hpi]; (first | (clear h hM hR hM0 hSe hMr hWr hd h1 hp h2 h3 hpi this; grind) | grind)
  · have hWd := Rat.mul_pos (show (0 : Rat) < (W : Rat) by (first | (clear h hM hR hM0 hSe hMr hd h1 hp hpi h2 h3; grind) | grind)) hd
    have h5 := Rat.mul_le_mul_of_nonneg_right hWr (Rat.le_of_lt hd)
    have h6 := Rat.mul_le_mul_of_nonneg_right hMr (Rat.le_of_lt hWd)
    (first | (clear h hM hR hM0 hSe hMr hWr hd hp hpi h2 h3 hWd; grind) | grind)
  · rw [hSe]
    have hWd := Rat.mul_pos (show (0 : Rat) < (W : Rat) by (first | (clear h hM hR hM0 hSe hMr hd h1 hp hpi h2 h3; grind) | grind)) hd
    have hMd := Rat.mul_pos (show (0 : Rat) < (M : Rat) by (first | (clear h hM hR hM0 hSe hWr hd h1 hp hpi h2 h3 hWd; grind) | grind)) hd
    generalize (2 : Rat) ^ nR x M L = a at *
    generalize (2 : Rat) ^ (13 - nR x M L) = b at *
    have ha : a ≤ 8192 := by
      have := Rat.mul_le_mul_of_nonneg_left h2 (Rat.le_of_lt h3)
      (first | (clear h hM hR hM0 hMr hWr hd h1 hpi hWd hMd hSe h3 h2; grind) | grind)
    have h5 := rmul (Rat.le_of_lt h3) (show (0 : Rat) ≤ (W : Rat) by (first | (clear h hM hR hM0 hMr hd h1 hpi hWd hMd hSe h3 h2 hp ha; grind) | grind)) ha hWr
    have h6 := Rat.mul_le_mul_of_nonneg_left h5 (Rat.le_of_lt hMd)
    (first | (clear h hM hR hM0 hMr hWr hd hpi hWd hMd hSe h3 h2 hp ha h5; grind) | grind)
theorem nN_le53 {M L : Int} (hM : 0 < M) (hM' : M < 10 ^ 13) (hL : 1 ≤ L) : nN M L ≤ 52 := by
  have := nT_le (M := M) (L := L) (k := 13) hM hL hM'
  unfold nN
  (first | (clear hM hM' hL; omega) | omega)
theorem u_eighth {x M L : Int} {u : Rat} (hM : 0 < M) (hL : 3 ≤ L) (hu0 : 0 ≤ u) (hxu : (x.natAbs : Rat) = (sS x M L : Rat) * u) : u ≤ 1 / 8 := by
  have h1 := u_le hM hxu
  have h2 : (8 : Rat) ≤ 2 ^ L.toNat := by
    obtain ⟨l, hl⟩ : ∃ l, L.toNat = 3 + l := ⟨L.toNat - 3, by (first | (clear hM hu0 hxu h1; omega) | omega)⟩
    rw [hl, rpow_add, show (2 : Rat) ^ 3 = 8 by rw [Rat.pow_succ, Rat.pow_succ, Rat.pow_succ, Rat.pow_zero]; (first | (clear hM hL hu0 hxu h1 hl; grind) | grind)]
    have := Rat.mul_le_mul_of_nonneg_left (pow2ge l) (show (0 : Rat) ≤ 8 by decide)
    (first | (clear hM hL hu0 hxu h1 hl; grind) | grind)
  have := Rat.mul_le_mul_of_nonneg_left h2 hu0
  (first | (clear hM hL hu0 hxu h2; grind) | grind)
/-! law 12: the part of _iexp -/
noncomputable def sH (d : Rat) (Q : Int) : Nat → Rat
  | 0 => 0
  | n + 1 => sH d Q n + ex d (-(qk Q n)) / 2
theorem sE_qk {d : Rat} {Q : Int} : ∀ n : Nat, n ≤ 14 → sE d n (qk Q n) = sH d Q n
  | 0, _ => rfl
  | n + 1, hn => by
    show ex d (-(2 * qk Q (n + 1))) / 2 + sE d n (2 * qk Q (n + 1)) = sH d Q n + ex d (-(qk Q n)) / 2
    rw [← qk_two (by omega), sE_qk n (by omega)]; (first | (clear hn; grind) | grind)
theorem PP_qk {x M L W : Int} (hR : nR x M L ≤ 13) : PP x M L W = qk (W * x) (nR x M L) := by
  unfold PP qk
  have : (2 : Int) ^ (14 - nR x M L) = 2 * 2 ^ (13 - nR x M L) := by rw [show 14 - nR x M L = (13 - nR x M L) + 1 by omega, Int.pow_succ]; (first | (clear hR; grind) | grind)
  rw [this]; (first | (clear hR this; grind) | grind)
theorem sH_nonneg {d : Rat} (hd : 0 < d) (Q : Int) : ∀ n : Nat, 0 ≤ sH d Q n
  | 0 => Rat.le_refl
  | n + 1 => by have := sH_nonneg hd Q n; have := ex_pos hd (-(qk Q n)); show 0 ≤ sH d Q n + ex d (-(qk Q n)) / 2; (first | (clear hd; grind) | grind)
theorem sH_le {d t tt : Rat} {Q : Int} (h : Rg d t tt Q) : ∀ n : Nat, n ≤ 13 → sH d Q n ≤ 9 / 2 * (n : Rat)
  | 0, _ => by show (0 : Rat) ≤ 9 / 2 * ((0 : Nat) : Rat); rw [show ((0 : Nat) : Rat) = 0 from rfl]; (first | (clear h; grind) | grind)
  | n + 1, hn => by
    have ih := sH_le h n (by (first | (clear h; omega) | omega))
    have h1 := (lev_sz h (show n < 14 by (first | (clear h ih; omega) | omega))).2.1
    have h2 : ex d (-(qk Q n)) = ex d (-(qk Q (n + 1))) * ex d (-(qk Q (n + 1))) := by
      rw [← ex_add h.hd, qk_two (by (first | (clear h ih h1; omega) | omega))]; congr 1; (first | (clear h hn ih h1; omega) | omega)
    have h0 := ex_pos h.hd (-(qk Q (n + 1)))
    have h3 := rmul (Rat.le_of_lt h0) (show (0 : Rat) ≤ 3 by decide) h1 h1
    show sH d Q n + ex d (-(qk Q n)) / 2 ≤ 9 / 2 * ((n + 1 : Nat) : Rat)
    rw [h2, show ((n + 1 : Nat) : Rat) = (n : Rat) + 1 from cast_succ n]
    (first | (clear h hn h1 h2 h0; grind) | grind)
/-- of the row left out -/
theorem left24 {x M L : Int} {u tt : Rat} (hM : 0 < M) (hL : 1 ≤ L) (hn : 2 ≤ nN M L) (hu0 : 0 ≤ u) (hxu : (x.natAbs : Rat) = (sS x M L : Rat) * u) (htt : (x.natAbs : Rat) = (M : Rat) * tt) : 24 * ((sS x M L : Rat) * tm (nN M L + 2) u) ≤ tt := by
  have hS := ipos (sS_pos (x := x) (L := L) hM)
  have hMr := ipos hM
  have h1 := u_pow hM hL hu0 hxu
  have key : ∀ n, 2 ≤ n → 24 * tm (n + 2) u ≤ u ^ (n + 2) := fun n hn => by
    have hf := tm_fct (n + 2) u
    have hc : (24 : Rat) ≤ (fct (n + 2) : Rat) := by
      have : ∀ m : Nat, 24 ≤ fct (m + 4) := fun m => by
        induction m with
        | zero => decide
        | succ m ih =>
          show 24 ≤ fct (m + 4) * (((m + 4 : Nat) : Int) + 1)
          have := Int.mul_le_mul_of_nonneg_left (show (1 : Int) ≤ ((m + 4 : Nat) : Int) + 1 by (first | (clear hM hL hu0 hxu htt hS hMr h1 hn hf ih; omega) | omega)) (show 0 ≤ fct (m + 4) by (first | (clear hM hL hu0 hxu htt hS hMr h1 hn hf; omega) | omega))
          (first | (clear hM hL hu0 hxu htt hS hMr h1 hn hf; omega) | omega)
      have h9 := this (n - 2)
      rw [show n - 2 + 4 = n + 2 by (first | (clear hM hL hu0 hxu htt hS hMr h1 hf this h9; omega) | omega)] at h9
      exact icast_le h9
    have := Rat.mul_le_mul_of_nonneg_left hc (tm_nonneg hu0 (n + 2))
    (first | (clear hM hL hu0 hxu htt hS hMr h1 hn hc; grind) | grind)
  have h2 := key _ hn
  rw [Rat.pow_succ] at h2
  have h3 := Rat.mul_le_mul_of_nonneg_left h2 (Rat.le_of_lt (Rat.mul_pos hMr hS))
  have h5 := Rat.mul_le_mul_of_nonneg_right h1 (Rat.mul_nonneg (Rat.le_of_lt hS) hu0)
  rw [htt] at hxu
  refine Rat.le_of_mul_le_mul_left ?_ hMr
  generalize tm (nN M L + 2) u = a at *
  generalize u ^ (nN M L + 1) = b at *
  generalize (sS x M L : Rat) = s at *
  (first | (clear hM hL hn hu0 htt hMr key h1 h2 hS; grind) | grind)
theorem neg_a {sm u tt st E : Rat} (hu0 : 0 ≤ u) (hu8 : u ≤ 1 / 8) (hut : u ≤ tt / 2) (hs1 : 1 ≤ sm) (hs : sm * (1 - u) ≤ 1) (hE : 1 - u ≤ E) (hst0 : 0 ≤ st) (hst : 24 * st ≤ tt) :
    ∃ a, 0 ≤ a ∧ a ≤ 500001 / 1000000 + 3 / 4 * tt ∧ a ≤ 6532 / 10000 + 48 / 1000 * tt ∧ sm / 2 + st + 1 / 100000000 ≤ a * E := by
  have hsm : sm ≤ 8 / 7 := by
    have h2 := Rat.mul_le_mul_of_nonneg_left (show 7 / 8 ≤ 1 - u by (first | (clear hu0 hut hs1 hs hE hst0 hst; grind) | grind)) (show 0 ≤ sm by first | with_reducible assumption | with_reducible exact Rat.le_of_lt (by assumption) | decide +kernel | with_reducible exact qr1 (by assumption) | with_reducible exact qr2 (by assumption) | with_reducible exact qr3 (by assumption) | with_reducible exact qr4 (by assumption) | with_reducible exact qr5 (by assumption) | with_reducible exact qr6 (by assumption) | with_reducible exact qr7 (by assumption) | with_reducible exact qr8 (by assumption) | with_reducible exact qr9 (by assumption) | grind)
    (first | (clear hu0 hu8 hut hs1 hE hst0 hst; grind) | grind)
  by_cases hc : 500001 / 1000000 + 3 / 4 * tt ≤ 6532 / 10000 + 48 / 1000 * tt
  · refine ⟨500001 / 1000000 + 3 / 4 * tt, by (first | (clear hu8 hs1 hs hE hst0 hst hsm hc; grind) | grind), Rat.le_refl, hc, ?_⟩
    have h1 := Rat.mul_le_mul_of_nonneg_left hE (show 0 ≤ 500001 / 1000000 + 3 / 4 * tt by (first | (clear hu8 hs1 hs hE hst0 hst hsm hc; grind) | grind))
    have h2 : sm / 2 ≤ (1 / 2 + 1307 / 1000 * u) * (1 - u) := by
      have hp : 0 < 1 - u := by (first | (clear hu0 hut hs1 hs hE hst0 hst hsm hc h1; grind) | grind)
      refine Rat.le_of_mul_le_mul_right ?_ hp
      have huu := Rat.mul_nonneg hu0 hu0
      have h3 := Rat.mul_le_mul_of_nonneg_left hu8 hu0
      have h4 := Rat.mul_nonneg huu hu0
      (first | (clear hu8 hut hs1 hE hst0 hst hsm hc h1 hp huu; grind) | grind)
    have h5 := Rat.mul_le_mul_of_nonneg_right (show 500001 / 1000000 + (1307 / 1000 * u + 48 / 1000 * tt) ≤ 500001 / 1000000 + 3 / 4 * tt by (first | (clear hu8 hs1 hs hE hst0 hst hsm hc h1 h2; grind) | grind)) (show 0 ≤ 1 - u by (first | (clear hu0 hut hs1 hs hE hst0 hst hsm hc h1 h2; grind) | grind))
    have h6 := Rat.mul_le_mul_of_nonneg_left (show 7 / 8 ≤ 1 - u by (first | (clear hu0 hut hs1 hs hE hst0 hst hsm hc h1 h2 h5; grind) | grind)) (show 0 ≤ tt by (first | (clear hu8 hs1 hs hE hst0 hst hsm hc h1 h2 h5; grind) | grind))
    (first | (clear hu8 hs1 hs hE hst0 hsm hc; grind) | grind)
  · refine ⟨6532 / 10000 + 48 / 1000 * tt, by (first | (clear hu0 hu8 hut hs1 hs hE hst0 hst hsm; grind) | grind), by (first | (clear hu0 hu8 hut hs1 hs hE hst0 hst hsm; grind) | grind), Rat.le_refl, ?_⟩
    have h1 := Rat.mul_le_mul_of_nonneg_left (show 7 / 8 ≤ E by (first | (clear hu0 hut hs1 hs hst0 hst hsm hc; grind) | grind)) (show 0 ≤ 6532 / 10000 + 48 / 1000 * tt by (first | (clear hu0 hu8 hut hs1 hs hE hst0 hst hsm; grind) | grind))
    (first | (clear hu0 hu8 hut hs1 hs hE hst0; grind) | grind)
/-- the facts of Q = W x -/
theorem S10.mt {x M W : Int} {d t tt : Rat} (h : S10 M d W) (hM : 0 < M) (hg : Rg d t tt (W * x)) : (M : Rat) * t = (x : Rat) ∧ (x.natAbs : Rat) = (M : Rat) * tt := by
  have h1 := h.h1
  have e : (M : Rat) * t = (x : Rat) := by
    rw [hg.ht, Rat.intCast_mul, Rat.intCast_mul, show ((524288 : Int) : Rat) = 524288 from rfl]
    have : (M : Rat) * (524288 * ((W : Rat) * (x : Rat)) * d) = (x : Rat) * ((M : Rat) * 8192 * (64 * (W : Rat)) * d) := by (first | (clear h hM hg h1; grind) | grind)
    rw [this, h1]; (first | (clear h hM hg h1 this; grind) | grind)
  refine ⟨e, ?_⟩
  have hW : 0 < W := by have := h.hW; (first | (clear h hM hg h1 e; omega) | omega)
  rcases hg.abs with ⟨a, b⟩ | ⟨a, b⟩
  · have hx : 0 ≤ x := by
      refine Int.not_lt.mp fun hlt => ?_
      have := Int.mul_neg_of_pos_of_neg hW hlt
      (first | (clear h hM hg h1 e hW b hlt; omega) | omega)
    have e2 : (x.natAbs : Rat) = (x : Rat) := by rw [← Rat.intCast_natCast]; congr 1; (first | (clear h hM hg h1 e hW a b; omega) | omega)
    rw [e2, b, e]
  · have hx : x < 0 := by
      refine Int.not_le.mp fun hle => ?_
      have := Int.mul_nonneg (Int.le_of_lt hW) hle
      (first | (clear h hM hg h1 e hW b hle; omega) | omega)
    have e2 : (x.natAbs : Rat) = -(x : Rat) := by rw [← Rat.intCast_natCast, ← Rat.intCast_neg]; congr 1; (first | (clear h hM hg h1 e hW a b; omega) | omega)
    rw [e2, b, ← e]; (first | (clear h hM hg h1 e hW a b hx e2; grind) | grind)
theorem iexp12 {x M L W : Int} {d t tt : Rat} (h : S10 M d W) (hM : 10 ^ 6 ≤ M) (hM' : M < 10 ^ 13) (hL : 3 ≤ L) (hL2 : L ≤ 10) (hg : Rg d t tt (W * x)) :
    ∃ a, 0 ≤ a ∧ a ≤ 500001 / 1000000 + 3 / 4 * tt ∧ a ≤ 6532 / 10000 + 48 / 1000 * tt ∧ nR x M L ≤ t10 x M L ∧ t10 x M L ≤ 13 ∧
    Wi ((iexp x M L : Rat) - (M : Rat) * ex d (qk (W * x) 0)) ((a + sH d (W * x) (nR x M L) + 2 / 1000) * ex d (qk (W * x) 0)) := by
  have hM0 : 0 < M := by first | with_reducible assumption | with_reducible exact Int.le_of_lt (by assumption) | with_reducible exact Nat.le_of_lt (by assumption) | with_reducible exact qz1 (by assumption) | with_reducible exact qz2 (by assumption) | with_reducible exact qz3 (by assumption) | with_reducible exact qz4 (by assumption) | with_reducible exact qz5 (by assumption) | with_reducible exact qz6 (by assumption) | with_reducible exact qz7 (by assumption) | with_reducible exact qz8 (by assumption) | with_reducible exact qz9 (by assumption) | with_reducible exact qza (by assumption) | with_reducible exact qzb (by assumption) | with_reducible exact qzc | with_reducible exact qzd | with_reducible exact qze | omega
  obtain ⟨hmt, hmtt⟩ := h.mt hM0 hg
  obtain ⟨htt0, htt4, htt2⟩ := hg.tt0
  have hMr : (1000000 : Rat) ≤ (M : Rat) := icast_le hM
  have hx : 2 * (x.natAbs : Int) ≤ 15 * M := by
    have h1 := Rat.mul_le_mul_of_nonneg_left htt4 (show (0 : Rat) ≤ (M : Rat) by first | with_reducible assumption | with_reducible exact Rat.le_of_lt (by assumption) | decide +kernel | with_reducible exact qr1 (by assumption) | with_reducible exact qr2 (by assumption) | with_reducible exact qr3 (by assumption) | with_reducible exact qr4 (by assumption) | with_reducible exact qr5 (by assumption) | with_reducible exact qr6 (by assumption) | with_reducible exact qr7 (by assumption) | with_reducible exact qr8 (by assumption) | with_reducible exact qr9 (by assumption) | grind)
    rw [← hmtt] at h1
    have h2 : ((x.natAbs : Int) : Rat) ≤ ((M * 4 : Int) : Rat) := by rw [Rat.intCast_natCast, Rat.intCast_mul]; exact h1
    have := Rat.intCast_le_intCast.mp h2
    (first | (clear h hL hL2 hg hM0 hmt hmtt htt0 htt4 htt2 hMr h1 h2; omega) | omega)
  have hRt : nR x M L ≤ t10 x M L := nR_le_t10 hM0
  have ht13 := t10_le hM0 hx hL2
  have hR : nR x M L ≤ 13 := Nat.le_trans hRt ht13
  obtain ⟨hP, hQ, hd1, hSd⟩ := h.facts (x := x) (L := L) (by (first | (clear h hL hL2 hg hM0 hmt hmtt htt0 htt4 htt2 hMr hx hRt ht13 hR; omega) | omega)) hR
  have hd := h.hd
  have hS := ipos (sS_pos (x := x) (L := L) hM0)
  have hxu := abs_u hd (sS_pos (x := x) (L := L) hM0) hP
  have hPq := PP_qk (W := W) hR
  rw [show 524288 * W * x = qk (W * x) 0 by unfold qk; show 524288 * W * x = 32 * 2 ^ 14 * (W * x); (first | (clear h hM hM' hL hL2 hg hM0 hmt hmtt htt0 htt4 htt2 hMr hx hRt ht13 hR hP hQ hd1 hSd hd hS hxu hPq; grind) | grind)] at hQ
  rw [hPq] at hP hQ hxu
  obtain ⟨u, hu⟩ : ∃ u, u = ((qk (W * x) (nR x M L)).natAbs : Rat) * d := ⟨_, rfl⟩
  rw [← hu] at hxu
  have hu0 : 0 ≤ u := by rw [hu]; exact Rat.mul_nonneg Rat.natCast_nonneg (Rat.le_of_lt hd)
  have hu8 := u_eighth hM0 hL hu0 hxu
  have hn2 := nN_ge2b hM (show 1 ≤ L by first | with_reducible assumption | with_reducible exact Int.le_of_lt (by assumption) | with_reducible exact Nat.le_of_lt (by assumption) | with_reducible exact qz1 (by assumption) | with_reducible exact qz2 (by assumption) | with_reducible exact qz3 (by assumption) | with_reducible exact qz4 (by assumption) | with_reducible exact qz5 (by assumption) | with_reducible exact qz6 (by assumption) | with_reducible exact qz7 (by assumption) | with_reducible exact qz8 (by assumption) | with_reducible exact qz9 (by assumption) | with_reducible exact qza (by assumption) | with_reducible exact qzb (by assumption) | with_reducible exact qzc | with_reducible exact qzd | with_reducible exact qze | omega) hL2
  have hst := left24 hM0 (show 1 ≤ L by first | with_reducible assumption | with_reducible exact Int.le_of_lt (by assumption) | with_reducible exact Nat.le_of_lt (by assumption) | with_reducible exact qz1 (by assumption) | with_reducible exact qz2 (by assumption) | with_reducible exact qz3 (by assumption) | with_reducible exact qz4 (by assumption) | with_reducible exact qz5 (by assumption) | with_reducible exact qz6 (by assumption) | with_reducible exact qz7 (by assumption) | with_reducible exact qz8 (by assumption) | with_reducible exact qz9 (by assumption) | with_reducible exact qza (by assumption) | with_reducible exact qzb (by assumption) | with_reducible exact qzc | with_reducible exact qzd | with_reducible exact qze | omega) hn2 hu0 hxu hmtt
  have hnr : (nN M L : Rat) ≤ 52 := ncast_le (nN_le53 hM0 hM' (by first | with_reducible assumption | with_reducible exact Int.le_of_lt (by assumption) | with_reducible exact Nat.le_of_lt (by assumption) | with_reducible exact qz1 (by assumption) | with_reducible exact qz2 (by assumption) | with_reducible exact qz3 (by assumption) | with_reducible exact qz4 (by assumption) | with_reducible exact qz5 (by assumption) | with_reducible exact qz6 (by assumption) | with_reducible exact qz7 (by assumption) | with_reducible exact qz8 (by assumption) | with_reducible exact qz9 (by assumption) | with_reducible exact qza (by assumption) | with_reducible exact qzb (by assumption) | with_reducible exact qzc | with_reducible exact qzd | with_reducible exact qze | omega))
  have hst0 := Rat.mul_nonneg (Rat.le_of_lt hS) (tm_nonneg hu0 (nN M L + 2))
  have hsH := sH_le hg (nR x M L) hR
  have hsH0 := sH_nonneg hd (W * x) (nR x M L)
  have hRr : (nR x M L : Rat) ≤ 13 := ncast_le hR
  have hsd : (4 * (nN M L : Rat) + 7) * ((sS x M L : Rat) * d) ≤ 1 / 200000000 := by
    have h1 : (4 * (nN M L : Rat) + 7) * ((sS x M L : Rat) * d) ≤ 215 * ((sS x M L : Rat) * d) := Rat.mul_le_mul_of_nonneg_right (by (first | (clear h hM hM' hL hL2 hg hM0 hmt hmtt htt0 htt4 htt2 hMr hx hRt ht13 hR hP hQ hd1 hSd hd hS hPq hxu hu hu0 hu8 hn2 hst hst0 hsH hsH0 hRr; grind) | grind)) (Rat.le_of_lt (Rat.mul_pos hS hd))
    (first | (clear h hM hM' hL hL2 hg hM0 hmt hmtt htt0 htt4 htt2 hMr hx hRt ht13 hR hP hQ hd1 hd hS hPq hxu hu hu0 hu8 hn2 hst hnr hst0 hsH hsH0 hRr; grind) | grind)
  have hsmi := sm_le_inv hu0 (nN M L)
  have hsm1 := sm_ge_one hu0 (nN M L)
  have hB0 : (60 : Rat) * 60 / (2 * (M : Rat)) ≤ 2 / 1000 := rdiv_le (by (first | (clear h hM hM' hL hL2 hg hM0 hmt hmtt htt0 htt4 htt2 hx hRt ht13 hR hP hQ hd1 hSd hd hS hPq hxu hu hu0 hu8 hn2 hst hnr hst0 hsH hsH0 hRr hsd hsmi hsm1; grind) | grind)) (by (first | (clear h hM hM' hL hL2 hg hM0 hmt hmtt htt0 htt4 htt2 hx hRt ht13 hR hP hQ hd1 hSd hd hS hPq hxu hu hu0 hu8 hn2 hst hnr hst0 hsH hsH0 hRr hsd hsmi hsm1; grind) | grind))
  have fin : ∀ a : Rat, 0 ≤ a → a ≤ 6532 / 10000 + 48 / 1000 * tt → Wi ((sS x M L : Rat) + (iy x M L : Int) - (sS x M L : Rat) * ex d (qk (W * x) (nR x M L))) (a * ex d (qk (W * x) (nR x M L))) →
      Wi ((iexp x M L : Rat) - (M : Rat) * ex d (qk (W * x) 0)) ((a + sH d (W * x) (nR x M L) + 2 / 1000) * ex d (qk (W * x) 0)) := by
    intro a ha0 ha1 top
    have w := iexp_rel hd hM0 (show 1 ≤ L by first | with_reducible assumption | with_reducible exact Int.le_of_lt (by assumption) | with_reducible exact Nat.le_of_lt (by assumption) | with_reducible exact qz1 (by assumption) | with_reducible exact qz2 (by assumption) | with_reducible exact qz3 (by assumption) | with_reducible exact qz4 (by assumption) | with_reducible exact qz5 (by assumption) | with_reducible exact qz6 (by assumption) | with_reducible exact qz7 (by assumption) | with_reducible exact qz8 (by assumption) | with_reducible exact qz9 (by assumption) | with_reducible exact qza (by assumption) | with_reducible exact qzb (by assumption) | with_reducible exact qzc | with_reducible exact qzd | with_reducible exact qze | omega) ha0 top (B := 60) (tot := a + sH d (W * x) (nR x M L) + 2 / 1000) (by (first | (clear h hM hM' hL hL2 hg hM0 hmt hmtt htt0 htt2 hMr hx hRt ht13 hR hP hQ hd1 hSd hd hS hPq hxu hu hu0 hu8 hn2 hst hnr hst0 hsH0 hsd hsmi hsm1 hB0 ha0 top; grind) | grind)) (by
      rw [sE_qk _ (by (first | (clear h hM hM' hL hL2 hg hM0 hmt hmtt htt0 htt4 htt2 hMr hx hRt ht13 hP hQ hd1 hSd hd hS hPq hxu hu hu0 hu8 hn2 hst hnr hst0 hsH hsH0 hRr hsd hsmi hsm1 hB0 ha0 ha1 top; omega) | omega))]
      generalize (60 : Rat) * 60 / (2 * (M : Rat)) = bb at *
      (first | (clear h hM hM' hL hL2 hg hM0 hmt hmtt htt0 htt4 htt2 hMr hx hRt ht13 hR hP hQ hd1 hSd hd hS hPq hxu hu hu0 hu8 hn2 hst hnr hst0 hsH hsH0 hRr hsd hsmi hsm1 ha0 ha1 top; grind) | grind))
    rw [hQ] at w
    exact w
  generalize hstg : (sS x M L : Rat) * tm (nN M L + 2) u = st at *
  have hW : 0 < W := by have := h.hW; (first | (clear h hM hM' hL hL2 hg hM0 hmt hmtt htt0 htt4 htt2 hMr hx hRt ht13 hR hP hQ hd1 hSd hd hS hPq hxu hu hu0 hu8 hn2 hnr hsH hsH0 hRr hsd hsmi hsm1 hB0 fin hstg hst hst0; omega) | omega)
  rcases hg.abs with ⟨hq0, -⟩ | ⟨hq0, -⟩
  · have hP0 : 0 ≤ qk (W * x) (nR x M L) := (qk_sign _).1 hq0
    have hE1 := ex_one_le hd hP0
    have top := iexp_top hd hM0 hP hu (by (first | (clear h hM hM' hL hL2 hg hM0 hmt hmtt htt0 htt4 htt2 hMr hx hRt ht13 hR hP hQ hd1 hSd hd hS hPq hxu hu hu0 hn2 hnr hsH hsH0 hRr hsd hsmi hsm1 hB0 fin hstg hst hst0 hW hq0 hP0 hE1; grind) | grind)) (by (first | (clear h hM hM' hL hL2 hg hM0 hmt hmtt htt0 htt4 htt2 hMr hx hRt ht13 hR hP hQ hSd hd hS hPq hxu hu hu0 hu8 hn2 hnr hsH hsH0 hRr hsd hsmi hsm1 hB0 fin hstg hst hst0 hW hq0 hP0 hE1; grind) | grind)) hE1 Rat.le_refl
    rw [hstg] at top
    obtain ⟨Pn, hPn⟩ := Int.eq_ofNat_of_zero_le hP0
    have huP : u = (Pn : Rat) * d := by rw [hu, hPn]; simp
    have hud2 : u * d ≤ d / 8 := by have := Rat.mul_le_mul_of_nonneg_right hu8 (Rat.le_of_lt hd); (first | (clear h hM hM' hL hL2 hg hM0 hmt hmtt htt0 htt4 htt2 hMr hx hRt ht13 hR hP hQ hd1 hSd hd hS hPq hxu hu hu0 hu8 hn2 hnr hsH hsH0 hRr hsd hsmi hsm1 hB0 fin hstg hst hst0 hW hq0 hP0 hE1 top hPn huP; grind) | grind)
    have hdn := ex_dn hd (nN M L) Pn (by rw [← huP]; (first | (clear h hM hM' hL hL2 hg hM0 hmt hmtt htt0 htt4 htt2 hMr hx hRt ht13 hR hP hQ hSd hd hS hPq hxu hu hu0 hu8 hn2 hnr hsH hsH0 hRr hsd hsmi hsm1 hB0 fin hstg hst hst0 hW hq0 hP0 hE1 top hPn huP; grind) | grind))
    rw [← huP, ← hPn] at hdn
    have hsm : sm (nN M L) u ≤ 8 / 7 := by
      have h2 := Rat.mul_le_mul_of_nonneg_left (show 7 / 8 ≤ 1 - u by (first | (clear h hM hM' hL hL2 hg hM0 hmt hmtt htt0 htt4 htt2 hMr hx hRt ht13 hR hP hQ hd1 hSd hd hS hPq hxu hu hu0 hn2 hnr hsH hsH0 hRr hsd hsmi hsm1 hB0 fin hstg hst hst0 hW hq0 hP0 hE1 top hPn huP hud2 hdn; grind) | grind)) (show 0 ≤ sm (nN M L) u by first | with_reducible assumption | with_reducible exact Rat.le_of_lt (by assumption) | decide +kernel | with_reducible exact qr1 (by assumption) | with_reducible exact qr2 (by assumption) | with_reducible exact qr3 (by assumption) | with_reducible exact qr4 (by assumption) | with_reducible exact qr5 (by assumption) | with_reducible exact qr6 (by assumption) | with_reducible exact qr7 (by assumption) | with_reducible exact qr8 (by assumption) | with_reducible exact qr9 (by assumption) | grind)
      (first | (clear h hM hM' hL hL2 hg hM0 hmt hmtt htt0 htt4 htt2 hMr hx hRt ht13 hR hP hQ hd1 hSd hd hS hPq hxu hu hu0 hu8 hn2 hnr hsH hsH0 hRr hsd hsm1 hB0 fin hstg hst hst0 hW hq0 hP0 hE1 top hPn huP hud2 hdn; grind) | grind)
    have hsmE : sm (nN M L) u ≤ ex d (qk (W * x) (nR x M L)) + 1 / 100000000 := by
      have hdd : (sS x M L : Rat) * d ≥ d := by
        have := Rat.mul_le_mul_of_nonneg_right (show (1 : Rat) ≤ (sS x M L : Rat) from icast_le (sS_pos (x := x) (L := L) hM0)) (Rat.le_of_lt hd)
        (first | (clear h hM hM' hL hL2 hg hM0 hmt hmtt htt0 htt4 htt2 hMr hx hRt ht13 hR hP hQ hd1 hSd hd hS hPq hxu hu hu0 hu8 hn2 hnr hsH hsH0 hRr hsd hsmi hsm1 hB0 fin hstg hst hst0 hW hq0 hP0 hE1 top hPn huP hud2 hdn hsm; grind) | grind)
      have h1 := Rat.mul_le_mul_of_nonneg_left (show u * d ≤ 1 / 1000000000 by (first | (clear h hM hM' hL hL2 hg hM0 hmt hmtt htt0 htt4 htt2 hMr hx hRt ht13 hR hP hQ hd1 hd hS hPq hxu hu hu0 hu8 hn2 hnr hsH hsH0 hRr hsd hsmi hsm1 hB0 fin hstg hst hst0 hW hq0 hP0 hE1 top hPn huP hdn hsm; grind) | grind)) (show 0 ≤ sm (nN M L) u by first | with_reducible assumption | with_reducible exact Rat.le_of_lt (by assumption) | decide +kernel | with_reducible exact qr1 (by assumption) | with_reducible exact qr2 (by assumption) | with_reducible exact qr3 (by assumption) | with_reducible exact qr4 (by assumption) | with_reducible exact qr5 (by assumption) | with_reducible exact qr6 (by assumption) | with_reducible exact qr7 (by assumption) | with_reducible exact qr8 (by assumption) | with_reducible exact qr9 (by assumption) | grind)
      (first | (clear h hM hM' hL hL2 hg hM0 hmt hmtt htt0 htt4 htt2 hMr hx hRt ht13 hR hP hQ hd1 hSd hd hS hPq hxu hu hu0 hu8 hn2 hnr hsH hsH0 hRr hsd hsmi hsm1 hB0 fin hstg hst hst0 hW hq0 hP0 hE1 top hPn huP hud2 hdd; grind) | grind)
    refine ⟨500001 / 1000000 + tt / 24, by (first | (clear h hM hM' hL hL2 hg hM0 hmt hmtt htt4 htt2 hMr hx hRt ht13 hR hP hQ hd1 hSd hd hS hPq hxu hu hu0 hu8 hn2 hnr hsH hsH0 hRr hsd hsmi hsm1 hB0 fin hstg hst hst0 hW hq0 hP0 hE1 top hPn huP hud2 hdn hsm hsmE; grind) | grind), by (first | (clear h hM hM' hL hL2 hg hM0 hmt hmtt htt4 htt2 hMr hx hRt ht13 hR hP hQ hd1 hSd hd hS hPq hxu hu hu0 hu8 hn2 hnr hsH hsH0 hRr hsd hsmi hsm1 hB0 fin hstg hst hst0 hW hq0 hP0 hE1 top hPn huP hud2 hdn hsm hsmE; grind) | grind), by (first | (clear h hM hM' hL hL2 hg hM0 hmt hmtt htt4 htt2 hMr hx hRt ht13 hR hP hQ hd1 hSd hd hS hPq hxu hu hu0 hu8 hn2 hnr hsH hsH0 hRr hsd hsmi hsm1 hB0 fin hstg hst hst0 hW hq0 hP0 hE1 top hPn huP hud2 hdn hsm hsmE; grind) | grind), hRt, ht13, fin _ (by (first | (clear h hM hM' hL hL2 hg hM0 hmt hmtt htt4 htt2 hMr hx hRt ht13 hR hP hQ hd1 hSd hd hS hPq hxu hu hu0 hu8 hn2 hnr hsH hsH0 hRr hsd hsmi hsm1 hB0 fin hstg hst hst0 hW hq0 hP0 hE1 top hPn huP hud2 hdn hsm hsmE; grind) | grind)) (by (first | (clear h hM hM' hL hL2 hg hM0 hmt hmtt htt4 htt2 hMr hx hRt ht13 hR hP hQ hd1 hSd hd hS hPq hxu hu hu0 hu8 hn2 hnr hsH hsH0 hRr hsd hsmi hsm1 hB0 fin hstg hst hst0 hW hq0 hP0 hE1 top hPn huP hud2 hdn hsm hsmE; grind) | grind)) (top.le ?_)⟩
    have h1 := Rat.mul_le_mul_of_nonneg_right (show st ≤ tt / 24 by (first | (clear h hM hM' hL hL2 hg hM0 hmt hmtt htt0 htt4 htt2 hMr hx hRt ht13 hR hP hQ hd1 hSd hd hS hPq hxu hu hu0 hu8 hn2 hnr hsH hsH0 hRr hsd hsmi hsm1 hB0 fin hst0 hW hq0 hP0 hE1 top hPn huP hud2 hdn hsm hsmE; grind) | grind)) (show 0 ≤ ex d (qk (W * x) (nR x M L)) by first | with_reducible assumption | with_reducible exact Rat.le_of_lt (by assumption) | decide +kernel | with_reducible exact qr1 (by assumption) | with_reducible exact qr2 (by assumption) | with_reducible exact qr3 (by assumption) | with_reducible exact qr4 (by assumption) | with_reducible exact qr5 (by assumption) | with_reducible exact qr6 (by assumption) | with_reducible exact qr7 (by assumption) | with_reducible exact qr8 (by assumption) | with_reducible exact qr9 (by assumption) | grind)
    generalize ex d (qk (W * x) (nR x M L)) = E at *
    (first | (clear h hM hM' hL hL2 hg hM0 hmt hmtt htt0 htt4 htt2 hMr hx hRt ht13 hR hP hQ hd1 hSd hd hS hPq hxu hu hu0 hu8 hn2 hnr hsH hsH0 hRr hsmi hsm1 hB0 hstg hst hst0 hW hq0 hP0 hPn huP hud2 hsm fin top hdn; grind) | grind)
  · have hP0 : qk (W * x) (nR x M L) < 0 := (qk_sign _).2 hq0
    have hE1 := ex_le_one hd (Int.le_of_lt hP0)
    have hx0 : x < 0 := by
      refine Int.not_le.mp fun hle => ?_
      have := Int.mul_nonneg (Int.le_of_lt hW) hle
      (first | (clear h hM hM' hL hL2 hg hM0 hmt hmtt htt0 htt4 htt2 hMr hx hRt ht13 hR hP hQ hd1 hSd hd hS hPq hxu hu hu0 hu8 hn2 hnr hsH hsH0 hRr hsd hsmi hsm1 hB0 fin hstg hst hst0 hW hP0 hE1 hle; omega) | omega)
    have hR1 : 1 ≤ nR x M L := by
      refine Nat.one_le_iff_ne_zero.mpr fun hz => ?_
      have h1 := (nR_facts (x := x) (L := L) hM0).1
      rw [hz, if_pos hx0] at h1
      have h2 := Int.mul_pos (show 0 < (x.natAbs : Int) by (first | (clear h hM hM' hL hL2 hg hM0 hmt hmtt htt0 htt4 htt2 hMr hx hRt ht13 hR hP hQ hd1 hSd hd hS hPq hxu hu hu0 hu8 hn2 hnr hsH hsH0 hRr hsd hsmi hsm1 hB0 fin hstg hst hst0 hW hq0 hP0 hE1 hz h1; omega) | omega)) (p2pos L.toNat)
      (first | (clear h hM hM' hL hL2 hg hM0 hmt hmtt htt0 htt4 htt2 hMr hx hRt ht13 hR hP hQ hd1 hSd hd hS hPq hxu hu hu0 hu8 hn2 hnr hsH hsH0 hRr hsd hsmi hsm1 hB0 fin hstg hst hst0 hW hq0 hP0 hE1 hx0 hz; omega) | omega)
    have hut : u ≤ tt / 2 := by
      have h2 : 2 * (M : Rat) ≤ (sS x M L : Rat) := by
        have : M * 2 ≤ sS x M L := by
          unfold sS
          exact Int.mul_le_mul_of_nonneg_left (show (2 : Int) ^ 1 ≤ 2 ^ nR x M L from ipow_le (by decide) hR1) (by first | with_reducible assumption | with_reducible exact Int.le_of_lt (by assumption) | with_reducible exact Nat.le_of_lt (by assumption) | with_reducible exact qz1 (by assumption) | with_reducible exact qz2 (by assumption) | with_reducible exact qz3 (by assumption) | with_reducible exact qz4 (by assumption) | with_reducible exact qz5 (by assumption) | with_reducible exact qz6 (by assumption) | with_reducible exact qz7 (by assumption) | with_reducible exact qz8 (by assumption) | with_reducible exact qz9 (by assumption) | with_reducible exact qza (by assumption) | with_reducible exact qzb (by assumption) | with_reducible exact qzc | with_reducible exact qzd | with_reducible exact qze | omega)
        have := icast_le this
        rw [Rat.intCast_mul] at this
        rw [show ((2 : Int) : Rat) = 2 from rfl] at this
        (first | (clear h hM hM' hL hL2 hg hM0 hmt hmtt htt0 htt4 htt2 hMr hx hRt ht13 hR hP hQ hd1 hSd hd hS hPq hxu hu hu0 hu8 hn2 hnr hsH hsH0 hRr hsd hsmi hsm1 hB0 fin hstg hst hst0 hW hq0 hP0 hE1 hx0 hR1; grind) | grind)
      have h3 := Rat.mul_le_mul_of_nonneg_right h2 hu0
      have hM1 : (0 : Rat) < (M : Rat) := by (first | (clear h hM hM' hL hL2 hg hM0 hmt hmtt htt0 htt4 htt2 hx hRt ht13 hR hP hQ hd1 hSd hd hS hPq hxu hu hu0 hu8 hn2 hnr hsH hsH0 hRr hsd hsmi hsm1 hB0 fin hstg hst hst0 hW hq0 hP0 hE1 hx0 hR1 h2 h3; grind) | grind)
      refine Rat.le_of_mul_le_mul_left ?_ hM1
      rw [hmtt] at hxu
      (first | (clear h hM hM' hL hL2 hg hM0 hmt hmtt htt0 htt4 htt2 hMr hx hRt ht13 hR hP hQ hd1 hSd hd hS hPq hu hu0 hu8 hn2 hnr hsH hsH0 hRr hsd hsmi hsm1 hB0 fin hstg hst hst0 hW hq0 hP0 hE1 hx0 hR1 h2 hM1; grind) | grind)
    have top := iexp_top hd hM0 hP hu (by (first | (clear h hM hM' hL hL2 hg hM0 hmt hmtt htt0 htt4 hMr hx hRt ht13 hR hP hQ hd1 hSd hd hS hPq hxu hu hu0 hu8 hn2 hnr hsH hsH0 hRr hsd hsmi hsm1 hB0 fin hstg hst hst0 hW hP0 hE1 hx0 hR1; grind) | grind)) (by (first | (clear h hM hM' hL hL2 hg hM0 hmt hmtt htt0 htt4 htt2 hMr hx hRt ht13 hR hP hQ hSd hd hS hPq hxu hu hu0 hu8 hn2 hnr hsH hsH0 hRr hsd hsmi hsm1 hB0 fin hstg hst hst0 hW hq0 hP0 hE1 hx0 hR1 hut; grind) | grind)) Rat.le_refl hE1
    rw [hstg] at top
    have hge := ex_ge hd (qk (W * x) (nR x M L))
    have hPu : ((qk (W * x) (nR x M L) : Int) : Rat) * d = -u := by
      rw [hu]
      obtain ⟨p, hp⟩ := Int.eq_ofNat_of_zero_le (show 0 ≤ -(qk (W * x) (nR x M L)) by (first | (clear h hM hM' hL hL2 hg hM0 hmt hmtt htt0 htt4 htt2 hMr hx hRt ht13 hR hP hQ hd1 hSd hd hS hPq hxu hu hu0 hu8 hn2 hnr hsH hsH0 hRr hsd hsmi hsm1 hB0 fin hstg hst hst0 hW hq0 hE1 hx0 hR1 hut top hge; omega) | omega))
      have : qk (W * x) (nR x M L) = -(p : Int) := by (first | (clear h hM hM' hL hL2 hg hM0 hmt hmtt htt0 htt4 htt2 hMr hx hRt ht13 hR hP hQ hd1 hSd hd hS hPq hxu hu hu0 hu8 hn2 hnr hsH hsH0 hRr hsd hsmi hsm1 hB0 fin hstg hst hst0 hW hq0 hP0 hE1 hx0 hR1 hut top hge; omega) | omega)
      rw [this, show (-(p : Int)).natAbs = p by (first | (clear h hM hM' hL hL2 hg hM0 hmt hmtt htt0 htt4 htt2 hMr hx hRt ht13 hR hP hQ hd1 hSd hd hS hPq hxu hu hu0 hu8 hn2 hnr hsH hsH0 hRr hsd hsmi hsm1 hB0 fin hstg hst hst0 hW hq0 hE1 hx0 hR1 hut top hge this; omega) | omega), Rat.intCast_neg, Rat.intCast_natCast]
      (first | (clear h hM hM' hL hL2 hg hM0 hmt hmtt htt0 htt4 htt2 hMr hx hRt ht13 hR hP hQ hd1 hSd hd hS hPq hxu hu hu0 hu8 hn2 hnr hsH hsH0 hRr hsd hsmi hsm1 hB0 fin hstg hst hst0 hW hq0 hP0 hE1 hx0 hR1 hut top hge hp this; grind) | grind)
    rw [hPu] at hge
    obtain ⟨a, a0, a1, a2, a3⟩ := neg_a hu0 hu8 hut hsm1 hsmi (show 1 - u ≤ ex d (qk (W * x) (nR x M L)) by (first | (clear h hM hM' hL hL2 hg hM0 hmt hmtt htt0 htt4 htt2 hMr hx hRt ht13 hR hP hQ hd1 hSd hd hS hPq hxu hu hu0 hu8 hn2 hnr hsH hsH0 hRr hsd hsmi hsm1 hB0 fin hstg hst hst0 hW hq0 hP0 hE1 hx0 hR1 hut top hPu; grind) | grind)) hst0 hst
    exact ⟨a, a0, a1, a2, hRt, ht13, fin a a0 a2 (top.le (by (first | (clear h hM hM' hL hL2 hg hM0 hmt hmtt htt0 htt4 htt2 hMr hx hRt ht13 hR hP hQ hd1 hSd hd hS hPq hxu hu hu0 hu8 hn2 hnr hsH hsH0 hRr hsmi hsm1 hB0 fin hstg hst hst0 hW hq0 hP0 hE1 hx0 hR1 hut top hge hPu a0 a1 a2; grind) | grind)))⟩

/-! law 12: when _ilog's halvings end -/
noncomputable def Stp12 (M X K : Int) (k : Nat) : Prop := ((yv M X k).natAbs : Int) * 2 ^ K.toNat < M * 2 ^ k
noncomputable instance (M X K : Int) (k : Nat) : Decidable (Stp12 M X K k) := Int.decLt ..
theorem stop_pos {v e T : Rat} (h1 : e ≤ 1 + 18 / 10 * v) (h2 : 1 ≤ e) (hT : 0 ≤ T) : T * (e - 1) ≤ 18 / 10 * (T * v) ∧ 0 ≤ T * (e - 1) := by
  have h3 := Rat.mul_le_mul_of_nonneg_left (show e - 1 ≤ 18 / 10 * v by (first | (clear h2 hT; grind) | grind)) hT
  have h4 := Rat.mul_nonneg hT (show 0 ≤ e - 1 by first | with_reducible assumption | with_reducible exact Rat.le_of_lt (by assumption) | decide +kernel | with_reducible exact qr1 (by assumption) | with_reducible exact qr2 (by assumption) | with_reducible exact qr3 (by assumption) | with_reducible exact qr4 (by assumption) | with_reducible exact qr5 (by assumption) | with_reducible exact qr6 (by assumption) | with_reducible exact qr7 (by assumption) | with_reducible exact qr8 (by assumption) | with_reducible exact qr9 (by assumption) | grind)
  exact ⟨by (first | (clear h1 h2 hT h4; grind) | grind), h4⟩
theorem stop12 {d t tt l0 : Rat} {Q M X K : Int} (h : Rg d t tt Q) (hM : 10 ^ 6 ≤ M) (hK : 3 ≤ K) (hK' : K ≤ 10) (h0 : 0 ≤ l0) (h14 : l0 ≤ 14) (hX : Wi ((X : Rat) - (M : Rat) * ex d (qk Q 0)) (l0 * ex d (qk Q 0)))
    {k : Nat} (hk : k ≤ 14) (hs : 2 * ((M : Rat) * tt) * 2 ^ K.toNat + (M : Rat) ≤ (M : Rat) * 2 ^ k) : Stp12 M X K k := by
  have hd := h.hd
  have hMr : (1000000 : Rat) ≤ (M : Rat) := icast_le hM
  obtain ⟨htt0, htt4, htt2⟩ := h.tt0
  have y := (yv_err h hM h0 h14 hX k hk).1
  have hl := lamS_le h h0 h14 hk
  have hv := qk_rat h hk
  have h8 : (8 : Rat) ≤ 2 ^ K.toNat := by
    obtain ⟨l, hl⟩ : ∃ l, K.toNat = 3 + l := ⟨K.toNat - 3, by (first | (clear h hM h0 h14 hX hk hs hd hMr htt0 htt4 htt2 y hl hv; omega) | omega)⟩
    rw [hl, rpow_add, show (2 : Rat) ^ 3 = 8 by rw [Rat.pow_succ, Rat.pow_succ, Rat.pow_succ, Rat.pow_zero]; (first | (clear h hM hK hK' h0 h14 hX hk hs hd hMr htt0 htt4 htt2 y hv hl; grind) | grind)]
    have := Rat.mul_le_mul_of_nonneg_left (pow2ge l) (show (0 : Rat) ≤ 8 by decide)
    (first | (clear h hM hK hK' h0 h14 hX hk hs hd hMr htt0 htt4 htt2 y hv hl; grind) | grind)
  have h1024 : (2 : Rat) ^ K.toNat ≤ 1024 := by
    have : (2 : Int) ^ K.toNat ≤ 2 ^ 10 := ipow_le (by decide) (by (first | (clear h hM h0 h14 hX hk hs hd hMr htt0 htt4 htt2 y hl hv h8; omega) | omega))
    have := icast_le this
    rw [Rat.intCast_pow] at this
    exact this
  have hk0 := pow2pos k
  have hge := ex_ge hd (qk Q k)
  have key : Wi ((M : Rat) * 2 ^ k * (ex d (qk Q k) - 1)) (18 / 10 * ((M : Rat) * tt)) ∧ ex d (qk Q k) ≤ 12 / 10 := by
    have hdiv : 2 * tt * 8 ≤ 2 ^ k := by
      have h1 := Rat.mul_le_mul_of_nonneg_left h8 (Rat.mul_nonneg (show (0 : Rat) ≤ (M : Rat) by first | with_reducible assumption | with_reducible exact Rat.le_of_lt (by assumption) | decide +kernel | with_reducible exact qr1 (by assumption) | with_reducible exact qr2 (by assumption) | with_reducible exact qr3 (by assumption) | with_reducible exact qr4 (by assumption) | with_reducible exact qr5 (by assumption) | with_reducible exact qr6 (by assumption) | with_reducible exact qr7 (by assumption) | with_reducible exact qr8 (by assumption) | with_reducible exact qr9 (by assumption) | grind) htt0)
      refine div_le' (show (0 : Rat) < (M : Rat) by first | with_reducible assumption | with_reducible exact Rat.le_of_lt (by assumption) | decide +kernel | with_reducible exact qr1 (by assumption) | with_reducible exact qr2 (by assumption) | with_reducible exact qr3 (by assumption) | with_reducible exact qr4 (by assumption) | with_reducible exact qr5 (by assumption) | with_reducible exact qr6 (by assumption) | with_reducible exact qr7 (by assumption) | with_reducible exact qr8 (by assumption) | with_reducible exact qr9 (by assumption) | grind) ?_
      (first | (clear h hM hK hK' h0 h14 hX hk hd htt0 htt4 htt2 y hl hv h8 h1024 hk0 hge; grind) | grind)
    rcases h.abs with ⟨a, b⟩ | ⟨a, b⟩
    · have hq := (qk_sign k).1 a
      obtain ⟨p, hp⟩ := Int.eq_ofNat_of_zero_le hq
      rw [hp] at hv hge ⊢
      rw [Rat.intCast_natCast] at hv hge
      have hx0 : 0 ≤ (p : Rat) * d := Rat.mul_nonneg Rat.natCast_nonneg (Rat.le_of_lt hd)
      have hx16 : (p : Rat) * d ≤ 1 / 16 := by
        refine div_le' hk0 ?_
        rw [hv, ← b]; (first | (clear h hM hK hK' h0 h14 hX hk hs hd hMr htt0 htt4 htt2 y hl h8 h1024 hk0 a b hq hge hv hp hx0; grind) | grind)
      have hlin := ex_lin hd (Z := p) (by (first | (clear h hM hK hK' h0 h14 hX hk hs hd hMr htt0 htt4 htt2 y hl h8 h1024 hk0 hdiv a b hq hge hv hp hx0; grind) | grind))
      obtain ⟨s1, s2⟩ := stop_pos (T := (M : Rat) * 2 ^ k) hlin (by (first | (clear h hM hK hK' h0 h14 hX hk hs hd hMr htt0 htt4 htt2 y hl h8 h1024 hk0 hdiv a b hq hv hp hx16 hlin; grind) | grind)) (Rat.mul_nonneg (by first | with_reducible assumption | with_reducible exact Rat.le_of_lt (by assumption) | decide +kernel | with_reducible exact qr1 (by assumption) | with_reducible exact qr2 (by assumption) | with_reducible exact qr3 (by assumption) | with_reducible exact qr4 (by assumption) | with_reducible exact qr5 (by assumption) | with_reducible exact qr6 (by assumption) | with_reducible exact qr7 (by assumption) | with_reducible exact qr8 (by assumption) | with_reducible exact qr9 (by assumption) | grind) (Rat.le_of_lt hk0))
      have e : (M : Rat) * 2 ^ k * ((p : Rat) * d) = (M : Rat) * tt := by rw [b, ← hv]; (first | (clear h hM hK hK' h0 h14 hX hk hs hd hMr htt0 htt4 htt2 y hl h8 h1024 hk0 hdiv a b hq hge hv hp hx0 hx16 hlin s1 s2; grind) | grind)
      rw [e] at s1
      refine ⟨⟨?_, s1⟩, by (first | (clear h hM hK hK' h0 h14 hX hk hs hd hMr htt0 htt4 htt2 y hl h8 h1024 hk0 hdiv a b hq hge hv hp hx0 s1 s2 e; grind) | grind)⟩
      have := Rat.mul_nonneg (show (0 : Rat) ≤ (M : Rat) by first | with_reducible assumption | with_reducible exact Rat.le_of_lt (by assumption) | decide +kernel | with_reducible exact qr1 (by assumption) | with_reducible exact qr2 (by assumption) | with_reducible exact qr3 (by assumption) | with_reducible exact qr4 (by assumption) | with_reducible exact qr5 (by assumption) | with_reducible exact qr6 (by assumption) | with_reducible exact qr7 (by assumption) | with_reducible exact qr8 (by assumption) | with_reducible exact qr9 (by assumption) | grind) htt0
      (first | (clear h hM hK hK' h0 h14 hX hk hs hd hMr htt0 htt4 htt2 y hl h8 h1024 hk0 hdiv a b hq hge hv hp hx0 hx16 hlin e this; grind) | grind)
    · have hq := (qk_sign k).2 a
      have hE1 := ex_le_one hd (Int.le_of_lt hq)
      have hMt := Rat.mul_nonneg (show (0 : Rat) ≤ (M : Rat) by first | with_reducible assumption | with_reducible exact Rat.le_of_lt (by assumption) | decide +kernel | with_reducible exact qr1 (by assumption) | with_reducible exact qr2 (by assumption) | with_reducible exact qr3 (by assumption) | with_reducible exact qr4 (by assumption) | with_reducible exact qr5 (by assumption) | with_reducible exact qr6 (by assumption) | with_reducible exact qr7 (by assumption) | with_reducible exact qr8 (by assumption) | with_reducible exact qr9 (by assumption) | grind) htt0
      have h1 := Rat.mul_le_mul_of_nonneg_left (show ((qk Q k : Int) : Rat) * d ≤ ex d (qk Q k) - 1 by (first | (clear h hM hK hK' h0 h14 hX hk hs hd hMr htt0 htt4 htt2 y hl hv h8 h1024 hk0 hdiv a b hq hE1 hMt; grind) | grind)) (Rat.mul_nonneg (show (0 : Rat) ≤ (M : Rat) by first | with_reducible assumption | with_reducible exact Rat.le_of_lt (by assumption) | decide +kernel | with_reducible exact qr1 (by assumption) | with_reducible exact qr2 (by assumption) | with_reducible exact qr3 (by assumption) | with_reducible exact qr4 (by assumption) | with_reducible exact qr5 (by assumption) | with_reducible exact qr6 (by assumption) | with_reducible exact qr7 (by assumption) | with_reducible exact qr8 (by assumption) | with_reducible exact qr9 (by assumption) | grind) (Rat.le_of_lt hk0))
      have e0 : (M : Rat) * 2 ^ k * (((qk Q k : Int) : Rat) * d) = (M : Rat) * (2 ^ k * (((qk Q k : Int) : Rat) * d)) := by (first | (clear h hM hK hK' h0 h14 hX hk hs hd hMr htt0 htt4 htt2 y hl hv h8 h1024 hk0 hge hdiv a b hq hE1 hMt h1; grind) | grind)
      have e : (M : Rat) * 2 ^ k * (((qk Q k : Int) : Rat) * d) = -((M : Rat) * tt) := by rw [e0, hv, b]; (first | (clear h hM hK hK' h0 h14 hX hk hs hd hMr htt0 htt4 htt2 y hl hv h8 h1024 hk0 hge hdiv a b hq hE1 hMt h1 e0; grind) | grind)
      have h2 := Rat.mul_le_mul_of_nonneg_left (show ex d (qk Q k) - 1 ≤ 0 by (first | (clear h hM hK hK' h0 h14 hX hk hs hd hMr htt0 htt4 htt2 y hl hv h8 h1024 hk0 hge hdiv a b hq hMt h1 e0 e; grind) | grind)) (Rat.mul_nonneg (show (0 : Rat) ≤ (M : Rat) by first | with_reducible assumption | with_reducible exact Rat.le_of_lt (by assumption) | decide +kernel | with_reducible exact qr1 (by assumption) | with_reducible exact qr2 (by assumption) | with_reducible exact qr3 (by assumption) | with_reducible exact qr4 (by assumption) | with_reducible exact qr5 (by assumption) | with_reducible exact qr6 (by assumption) | with_reducible exact qr7 (by assumption) | with_reducible exact qr8 (by assumption) | with_reducible exact qr9 (by assumption) | grind) (Rat.le_of_lt hk0))
      rw [e] at h1
      refine ⟨⟨by (first | (clear h hM hK hK' h0 h14 hX hk hs hd hMr htt0 htt4 htt2 y hl hv h8 h1024 hk0 hge hdiv a b hq hE1 e0 e h2; grind) | grind), by (first | (clear h hM hK hK' h0 h14 hX hk hs hd hMr htt0 htt4 htt2 y hl hv h8 h1024 hk0 hge hdiv a b hq hE1 h1 e0 e; grind) | grind)⟩, by (first | (clear h hM hK hK' h0 h14 hX hk hs hd hMr htt0 htt4 htt2 y hl hv h8 h1024 hk0 hge hdiv a b hq hMt h1 e0 e h2; grind) | grind)⟩
  obtain ⟨k1, k2⟩ := key
  have hE := ex_pos hd (qk Q k)
  have hlE : lamS d tt Q l0 k * ex d (qk Q k) ≤ 54 := by
    have := rmul (lamS_nonneg hd htt0 h0 Q k) (show (0 : Rat) ≤ 12 / 10 by first | with_reducible assumption | with_reducible exact Rat.le_of_lt (by assumption) | decide +kernel | with_reducible exact qr1 (by assumption) | with_reducible exact qr2 (by assumption) | with_reducible exact qr3 (by assumption) | with_reducible exact qr4 (by assumption) | with_reducible exact qr5 (by assumption) | with_reducible exact qr6 (by assumption) | with_reducible exact qr7 (by assumption) | with_reducible exact qr8 (by assumption) | with_reducible exact qr9 (by assumption) | grind) hl k2
    (first | (clear h hM hK hK' h0 h14 hX hk hs hd hMr htt0 htt4 htt2 y hl hv h8 h1024 hk0 hge k1 k2 hE; grind) | grind)
  have hw : Wi (yv M X k : Rat) (18 / 10 * ((M : Rat) * tt) + 54) := by
    have e : (2 : Rat) ^ k * (M : Rat) * (ex d (qk Q k) - 1) = (M : Rat) * 2 ^ k * (ex d (qk Q k) - 1) := by (first | (clear h hM hK hK' h0 h14 hX hk hs hd hMr htt0 htt4 htt2 y hl hv h8 h1024 hk0 hge k1 k2 hE hlE; grind) | grind)
    rw [e] at y
    have w := (y.le hlE).add k1
    have e2 : (yv M X k : Rat) - (M : Rat) * 2 ^ k * (ex d (qk Q k) - 1) + (M : Rat) * 2 ^ k * (ex d (qk Q k) - 1) = (yv M X k : Rat) := by (first | (clear h hM hK hK' h0 h14 hX hk hs hd hMr htt0 htt4 htt2 y hl hv h8 h1024 hk0 hge k1 k2 hE hlE e w; grind) | grind)
    rw [e2] at w
    exact w.le (by (first | (clear h hM hK hK' h0 h14 hX hk hs hd hMr htt0 htt4 htt2 y hl hv h8 h1024 hk0 hge k1 k2 hE hlE e w e2; grind) | grind))
  have habs : ((yv M X k).natAbs : Rat) ≤ 18 / 10 * ((M : Rat) * tt) + 54 := by
    obtain ⟨w1, w2⟩ := hw
    rcases Int.le_total 0 (yv M X k) with hh | hh
    · have : ((yv M X k).natAbs : Rat) = (yv M X k : Rat) := by rw [← Rat.intCast_natCast]; congr 1; (first | (clear h hM hK hK' h0 h14 hX hk hs hd hMr htt0 htt4 htt2 y hl hv h8 h1024 hk0 hge k1 k2 hE hlE w1 w2; omega) | omega)
      rw [this]; exact w2
    · have : ((yv M X k).natAbs : Rat) = -(yv M X k : Rat) := by rw [← Rat.intCast_natCast, ← Rat.intCast_neg]; congr 1; (first | (clear h hM hK hK' h0 h14 hX hk hs hd hMr htt0 htt4 htt2 y hl hv h8 h1024 hk0 hge k1 k2 hE hlE w1 w2; omega) | omega)
      rw [this]; (first | (clear h hM hK hK' h0 h14 hX hk hs hd hMr htt0 htt4 htt2 y hl hv h8 h1024 hk0 hge k1 k2 hE hlE w2 hh this; grind) | grind)
  have h5 := Rat.mul_le_mul_of_nonneg_right habs (show (0 : Rat) ≤ 2 ^ K.toNat by (first | (clear h hM hK hK' h0 h14 hX hk hs hd hMr htt0 htt4 htt2 y hl hv h1024 hk0 hge k1 k2 hE hlE hw habs; grind) | grind))
  have hMt := Rat.mul_nonneg (Rat.mul_nonneg (show (0 : Rat) ≤ (M : Rat) by first | with_reducible assumption | with_reducible exact Rat.le_of_lt (by assumption) | decide +kernel | with_reducible exact qr1 (by assumption) | with_reducible exact qr2 (by assumption) | with_reducible exact qr3 (by assumption) | with_reducible exact qr4 (by assumption) | with_reducible exact qr5 (by assumption) | with_reducible exact qr6 (by assumption) | with_reducible exact qr7 (by assumption) | with_reducible exact qr8 (by assumption) | with_reducible exact qr9 (by assumption) | grind) htt0) (show (0 : Rat) ≤ 2 ^ K.toNat by (first | (clear h hM hK hK' h0 h14 hX hk hs hd hMr htt0 htt4 htt2 y hl hv h1024 hk0 hge k1 k2 hE hlE hw habs h5; grind) | grind))
  have h6 : ((((yv M X k).natAbs : Int) * 2 ^ K.toNat : Int) : Rat) < ((M * 2 ^ k : Int) : Rat) := by
    rw [icast_p2, icast_p2, Rat.intCast_natCast]
    generalize (2 : Rat) ^ K.toNat = c at *
    (first | (clear h hM hK hK' h0 h14 hX hk hd htt0 htt4 htt2 y hl hv hk0 hge k1 k2 hE hlE hw habs h8; grind) | grind)
  exact Rat.intCast_lt_intCast.mp h6
noncomputable def fR (M X K : Int) : Nat → Nat → Nat
  | 0, k => k
  | f + 1, k => if Stp12 M X K k then k else fR M X K f (k + 1)
theorem fR_facts {M X K : Int} {j : Nat} (hj : Stp12 M X K j) : ∀ f k : Nat, k ≤ j → j < k + f → Stp12 M X K (fR M X K f k) ∧ k ≤ fR M X K f k ∧ fR M X K f k ≤ j ∧ ∀ i, k ≤ i → i < fR M X K f k → ¬ Stp12 M X K i
  | 0, k, h1, h2 => by (first | (clear hj; omega) | omega)
  | f + 1, k, h1, h2 => by
    show Stp12 M X K (if Stp12 M X K k then k else fR M X K f (k + 1)) ∧ k ≤ (if Stp12 M X K k then k else fR M X K f (k + 1)) ∧ (if Stp12 M X K k then k else fR M X K f (k + 1)) ≤ j ∧ ∀ i, k ≤ i → i < (if Stp12 M X K k then k else fR M X K f (k + 1)) → ¬ Stp12 M X K i
    by_cases hs : Stp12 M X K k
    · rw [if_pos hs]; exact ⟨hs, Nat.le_refl _, h1, fun i a b => by (first | (clear hj h1 h2 hs; omega) | omega)⟩
    · rw [if_neg hs]
      have hkj : k ≠ j := fun e => hs (e ▸ hj)
      obtain ⟨a, b, c, e⟩ := fR_facts hj f (k + 1) (by (first | (clear hj h2 hs; omega) | omega)) (by (first | (clear hj h1 hs hkj; omega) | omega))
      refine ⟨a, by (first | (clear hj h1 h2 hs hkj a c e; omega) | omega), c, fun i hi1 hi2 => ?_⟩
      rcases Nat.eq_or_lt_of_le hi1 with rfl | hlt
      · exact hs
      · exact e i hlt hi2
/-- the count of halvings -/
noncomputable def iR (M X K : Int) : Nat := fR M X K 15 0
noncomputable def ilog (X M K : Int) : Int := divN (lser M (divN (yv M X (iR M X K)) (2 ^ iR M X K)) (nN M K) (divN M ((nN M K : Int) + 1)) * yv M X (iR M X K)) M
theorem iR_facts {M X K : Int} {j : Nat} (h14 : j ≤ 14) (hj : Stp12 M X K j) : Stp12 M X K (iR M X K) ∧ iR M X K ≤ j ∧ ∀ i < iR M X K, ¬ Stp12 M X K i := by
  obtain ⟨a, b, c, e⟩ := fR_facts hj 15 0 (by (first | (clear hj; omega) | omega)) (by (first | (clear hj; omega) | omega))
  exact ⟨a, c, fun i hi => e i (by (first | (clear h14 hj a b c e hi; omega) | omega)) hi⟩
/-- at fourteen halvings it ends -/
theorem stop14 {d t tt l0 : Rat} {Q M X K : Int} (h : Rg d t tt Q) (hM : 10 ^ 6 ≤ M) (hK : 3 ≤ K) (hK' : K ≤ 10) (h0 : 0 ≤ l0) (h14 : l0 ≤ 14) (hX : Wi ((X : Rat) - (M : Rat) * ex d (qk Q 0)) (l0 * ex d (qk Q 0))) : Stp12 M X K 14 := by
  refine stop12 h hM hK hK' h0 h14 hX (Nat.le_refl _) ?_
  obtain ⟨htt0, htt4, htt2⟩ := h.tt0
  have hMr : (1000000 : Rat) ≤ (M : Rat) := icast_le hM
  have h1024 : (2 : Rat) ^ K.toNat ≤ 1024 := by
    have : (2 : Int) ^ K.toNat ≤ 2 ^ 10 := ipow_le (by decide) (by (first | (clear h hM h0 h14 hX htt0 htt4 htt2 hMr; omega) | omega))
    have := icast_le this
    rw [Rat.intCast_pow] at this
    exact this
  have h1 := Rat.mul_le_mul_of_nonneg_left htt4 (show (0 : Rat) ≤ (M : Rat) by first | with_reducible assumption | with_reducible exact Rat.le_of_lt (by assumption) | decide +kernel | with_reducible exact qr1 (by assumption) | with_reducible exact qr2 (by assumption) | with_reducible exact qr3 (by assumption) | with_reducible exact qr4 (by assumption) | with_reducible exact qr5 (by assumption) | with_reducible exact qr6 (by assumption) | with_reducible exact qr7 (by assumption) | with_reducible exact qr8 (by assumption) | with_reducible exact qr9 (by assumption) | grind)
  have h2 := rmul (Rat.mul_nonneg (show (0 : Rat) ≤ (M : Rat) by first | with_reducible assumption | with_reducible exact Rat.le_of_lt (by assumption) | decide +kernel | with_reducible exact qr1 (by assumption) | with_reducible exact qr2 (by assumption) | with_reducible exact qr3 (by assumption) | with_reducible exact qr4 (by assumption) | with_reducible exact qr5 (by assumption) | with_reducible exact qr6 (by assumption) | with_reducible exact qr7 (by assumption) | with_reducible exact qr8 (by assumption) | with_reducible exact qr9 (by assumption) | grind) htt0) (show (0 : Rat) ≤ 1024 by decide) h1 h1024
  have e14 : (2 : Rat) ^ 14 = 16384 := by rw [show (2 : Rat) ^ 14 = ((2 ^ 14 : Int) : Rat) by rw [Rat.intCast_pow]; rfl]; rfl
  rw [e14]
  (first | (clear h hM hK hK' h0 h14 hX htt0 htt4 htt2 h1024 h1 e14; grind) | grind)

/-! law 12: what _law_bound computes -/
noncomputable def gr12 (x M : Int) (k : Nat) : Int := (10 ^ 6 * (32 * (M * 2 ^ k)) ^ 32).fdiv ((32 * (M * 2 ^ k) + x) ^ 32) + 1
noncomputable def tD12 (x M : Int) (k : Nat) : Int := (gr12 x M k).fdiv 2 + 1
noncomputable def tH12 (x M : Int) (k : Nat) : Int := (gr12 x M k * (4 * 10 ^ 6 * M + (2 * 10 ^ 6 + gr12 x M k) * (x.natAbs : Int))).fdiv (8 * 10 ^ 6 * M) + 1
noncomputable def add12 (x M : Int) (D H k : Nat) : Int := (if k < D then tD12 x M k else 0) + (if 1 ≤ k ∧ k ≤ H then tH12 x M k else 0)
noncomputable def bnd12 (x M L K : Int) : Int := 1200000 + (8 * 10 ^ 6 * (x.natAbs : Int)).fdiv (5 * M) + 1 + sumTo (add12 x M (t10 x M L) (t10 x M K + 1)) (max (t10 x M L) (t10 x M K + 1 + 1))
/-- the halvings' parts together -/
noncomputable def sT (d tt : Rat) (Q : Int) : Nat → Rat
  | 0 => 0
  | k + 1 => sT d tt Q k + TT d tt Q (k + 1)
theorem lamS_sT (d tt l0 : Rat) (Q : Int) : ∀ k : Nat, lamS d tt Q l0 k = l0 + sT d tt Q k + (k : Rat) * (3 / 1000)
  | 0 => by show l0 = l0 + 0 + ((0 : Nat) : Rat) * (3 / 1000); rw [show ((0 : Nat) : Rat) = 0 from rfl]; grind
  | k + 1 => by
    show lamS d tt Q l0 k + (TT d tt Q (k + 1) + 3 / 1000) = l0 + (sT d tt Q k + TT d tt Q (k + 1)) + ((k + 1 : Nat) : Rat) * (3 / 1000)
    rw [lamS_sT d tt l0 Q k, show ((k + 1 : Nat) : Rat) = (k : Rat) + 1 from cast_succ k]; grind
theorem gr12_ge {x M W : Int} {d : Rat} (h : S10 M d W) (hM : 0 < M) (hx : (x.natAbs : Int) ≤ 4 * M) {k : Nat} (hk : k ≤ 14) : 1000000 * ex d (-(qk (W * x) k)) ≤ (gr12 x M k : Rat) ∧ 0 < 32 * (M * 2 ^ k) + x := by
  have hm2 := m2_ge hM k
  have hm : 0 < 32 * (M * 2 ^ k) := by (first | (clear h hx hk; omega) | omega)
  have hmb : 0 < 32 * (M * 2 ^ k) + x := by (first | (clear h hM hk; omega) | omega)
  refine ⟨?_, hmb⟩
  have e1 : -(qk (W * x) k) = -(((32 : Nat) : Int) * (2 ^ (14 - k) * (W * x))) := by
    unfold qk
    show -(32 * 2 ^ (14 - k) * (W * x)) = -((32 : Int) * (2 ^ (14 - k) * (W * x)))
    generalize (2 : Int) ^ (14 - k) = a
    (first | (clear h hM hx hk hm2 hm hmb; grind) | grind)
  have hc : ((32 * (M * 2 ^ k) : Int) : Rat) * (((2 ^ (14 - k) * (W * x) : Int) : Rat) * d) = (x : Rat) := by
    have hp : (2 : Rat) ^ k * 2 ^ (14 - k) = 16384 := by rw [← rpow_add, show k + (14 - k) = 14 by (first | (clear h hM hx hm2 hm hmb e1; omega) | omega)]; rfl
    have h9 := h.h1
    rw [Rat.intCast_mul, icast_p2, Rat.intCast_mul, Rat.intCast_mul, Rat.intCast_pow, show ((32 : Int) : Rat) = 32 from rfl, show ((2 : Int) : Rat) = 2 from rfl]
    generalize (2 : Rat) ^ k = a at *
    generalize (2 : Rat) ^ (14 - k) = b at *
    have : 32 * ((M : Rat) * a) * (b * ((W : Rat) * (x : Rat)) * d) = (x : Rat) * ((M : Rat) * (a * b) / 2 * (64 * (W : Rat)) * d) := by (first | (clear h hM hx hk hm2 hm hmb e1 h9 hp; grind) | grind)
    rw [this, hp, show (M : Rat) * 16384 / 2 = (M : Rat) * 8192 by (first | (clear h hM hx hk hm2 hm hmb e1 h9 hp this; grind) | grind), h9]; (first | (clear h hM hx hk hm2 hm hmb e1 h9 hp this; grind) | grind)
  have hf := (floor_pow h.hd 32 (s := 10 ^ 6) (c := 2 ^ (14 - k) * (W * x)) (m := 32 * (M * 2 ^ k)) (b := x) (by decide) hm hmb hc).1
  rw [e1]
  unfold gr12
  rw [Rat.intCast_add, show ((1 : Int) : Rat) = 1 from rfl]
  rw [show ((10 ^ 6 : Int) : Rat) = 1000000 from rfl] at hf
  exact hf
theorem tD12_ge {x M W : Int} {d : Rat} (h : S10 M d W) (hM : 0 < M) (hx : (x.natAbs : Int) ≤ 4 * M) {k : Nat} (hk : k ≤ 14) : 1000000 * (ex d (-(qk (W * x) k)) / 2) ≤ (tD12 x M k : Rat) := by
  have h1 := (gr12_ge h hM hx hk).1
  have h2 := (fdiv_rat (a := gr12 x M k) (b := 2) (by decide)).2
  unfold tD12
  rw [Rat.intCast_add, show ((1 : Int) : Rat) = 1 from rfl]
  rw [show ((2 : Int) : Rat) = 2 from rfl] at h2
  (first | (clear h hM hx hk; grind) | grind)
theorem tH12_ge {x M W : Int} {d tt : Rat} (h : S10 M d W) (hM : 0 < M) (hx : (x.natAbs : Int) ≤ 4 * M) (htt : 0 ≤ tt) (hxt : (x.natAbs : Rat) = (M : Rat) * tt) {k : Nat} (hk : k ≤ 14) : 1000000 * TT d tt (W * x) k ≤ (tH12 x M k : Rat) := by
  have h1 := (gr12_ge h hM hx hk).1
  have h2 := (fdiv_rat (a := gr12 x M k * (4 * 10 ^ 6 * M + (2 * 10 ^ 6 + gr12 x M k) * (x.natAbs : Int))) (b := 8 * 10 ^ 6 * M) (by (first | (clear h hx htt hxt hk h1; omega) | omega))).2
  unfold tH12
  rw [Rat.intCast_add, show ((1 : Int) : Rat) = 1 from rfl]
  unfold TT
  have hg := ex_pos h.hd (-(qk (W * x) k))
  have hMr := ipos hM
  generalize (((gr12 x M k * (4 * 10 ^ 6 * M + (2 * 10 ^ 6 + gr12 x M k) * (x.natAbs : Int))).fdiv (8 * 10 ^ 6 * M) : Int) : Rat) = q at *
  rw [show (4 * 10 ^ 6 : Int) = 4000000 from rfl, show (2 * 10 ^ 6 : Int) = 2000000 from rfl, show (8 * 10 ^ 6 : Int) = 8000000 from rfl] at h2
  rw [Rat.intCast_mul, Rat.intCast_add, Rat.intCast_mul, Rat.intCast_mul, Rat.intCast_add, Rat.intCast_mul, Rat.intCast_natCast, hxt] at h2
  rw [show ((4000000 : Int) : Rat) = 4000000 from rfl, show ((2000000 : Int) : Rat) = 2000000 from rfl, show ((8000000 : Int) : Rat) = 8000000 from rfl] at h2
  generalize (gr12 x M k : Rat) = G at *
  generalize ex d (-(qk (W * x) k)) = g at *
  have h3 : G * (4000000 + (2000000 + G) * tt) ≤ 8000000 * (q + 1) := by
    refine div_le' hMr ?_
    (first | (clear h hM hx htt hxt hk hMr hg h1; grind) | grind)
  have h4 := Rat.mul_le_mul_of_nonneg_right (show 2000000 + 1000000 * g ≤ 2000000 + G by (first | (clear h hM hx htt hxt hk hMr h2 hg h3; grind) | grind)) htt
  have h6 := Rat.mul_nonneg (show 0 ≤ 2000000 + 1000000 * g by (first | (clear h hM hx htt hxt hk hMr h2 h1 h3 h4; grind) | grind)) htt
  have h5 := rmul (show 0 ≤ 1000000 * g by (first | (clear h hM hx htt hxt hk hMr h2 h1 h3 h4 h6; grind) | grind)) (show 0 ≤ 4000000 + (2000000 + G) * tt by (first | (clear h hM hx htt hxt hk hMr h2 hg h1 h3; grind) | grind)) h1 (show 4000000 + (2000000 + 1000000 * g) * tt ≤ 4000000 + (2000000 + G) * tt by (first | (clear h hM hx htt hxt hk hMr h2 hg h1 h3 h6; grind) | grind))
  (first | (clear h hM hx htt hxt hk hMr h2 hg h1 h4 h6; grind) | grind)
theorem gr12_pos {x M : Int} (hM : 0 < M) (hx : (x.natAbs : Int) ≤ 4 * M) (k : Nat) : 0 < gr12 x M k ∧ 0 < tD12 x M k ∧ 0 < tH12 x M k := by
  have hm2 := m2_ge hM k
  have hA : 0 < (32 * (M * 2 ^ k)) ^ 32 := Int.pow_pos (by (first | (clear hx; omega) | omega))
  have hB : 0 < (32 * (M * 2 ^ k) + x) ^ 32 := Int.pow_pos (by (first | (clear hA; omega) | omega))
  have h1 : 0 < gr12 x M k := by
    unfold gr12
    have := Int.fdiv_nonneg (a := 10 ^ 6 * (32 * (M * 2 ^ k)) ^ 32) (by (first | (clear hM hx hm2 hB; omega) | omega)) (Int.le_of_lt hB)
    (first | (clear hM hx hm2 hA hB; omega) | omega)
  refine ⟨h1, ?_, ?_⟩
  · unfold tD12
    have := Int.fdiv_nonneg (a := gr12 x M k) (by first | with_reducible assumption | with_reducible exact Int.le_of_lt (by assumption) | with_reducible exact Nat.le_of_lt (by assumption) | with_reducible exact qz1 (by assumption) | with_reducible exact qz2 (by assumption) | with_reducible exact qz3 (by assumption) | with_reducible exact qz4 (by assumption) | with_reducible exact qz5 (by assumption) | with_reducible exact qz6 (by assumption) | with_reducible exact qz7 (by assumption) | with_reducible exact qz8 (by assumption) | with_reducible exact qz9 (by assumption) | with_reducible exact qza (by assumption) | with_reducible exact qzb (by assumption) | with_reducible exact qzc | with_reducible exact qzd | with_reducible exact qze | omega) (show (0 : Int) ≤ 2 by decide)
    (first | (clear hM hx hm2 hA hB h1; omega) | omega)
  · unfold tH12
    have := Int.fdiv_nonneg (a := gr12 x M k * (4 * 10 ^ 6 * M + (2 * 10 ^ 6 + gr12 x M k) * (x.natAbs : Int))) (b := 8 * 10 ^ 6 * M) (Int.mul_nonneg (by first | with_reducible assumption | with_reducible exact Int.le_of_lt (by assumption) | with_reducible exact Nat.le_of_lt (by assumption) | with_reducible exact qz1 (by assumption) | with_reducible exact qz2 (by assumption) | with_reducible exact qz3 (by assumption) | with_reducible exact qz4 (by assumption) | with_reducible exact qz5 (by assumption) | with_reducible exact qz6 (by assumption) | with_reducible exact qz7 (by assumption) | with_reducible exact qz8 (by assumption) | with_reducible exact qz9 (by assumption) | with_reducible exact qza (by assumption) | with_reducible exact qzb (by assumption) | with_reducible exact qzc | with_reducible exact qzd | with_reducible exact qze | omega) (by
      have := Int.mul_nonneg (show 0 ≤ 2 * 10 ^ 6 + gr12 x M k by (first | (clear hM hx hm2 hA hB; omega) | omega)) (show 0 ≤ (x.natAbs : Int) by (first | (clear hM hx hm2 hA hB h1; omega) | omega))
      (first | (clear hx hm2 hA hB h1; omega) | omega))) (by (first | (clear hx hm2 hA hB h1; omega) | omega))
    (first | (clear hM hx hm2 hA hB h1; omega) | omega)
theorem sum12 {x M W : Int} {d tt : Rat} (h : S10 M d W) (hM : 0 < M) (hx : (x.natAbs : Int) ≤ 4 * M) (htt : 0 ≤ tt) (hxt : (x.natAbs : Rat) = (M : Rat) * tt) {D H : Nat} (hD : D ≤ 14) (hH : H ≤ 14) :
    ∀ m n R : Nat, n ≤ D → n ≤ m → R ≤ H → R ≤ m - 1 → 1000000 * (sH d (W * x) n + sT d tt (W * x) R) ≤ (sumTo (add12 x M D H) m : Rat)
  | 0, n, R, _, h2, _, h4 => by
    have e1 : n = 0 := by (first | (clear h hM hx htt hxt hD hH h4; omega) | omega)
    have e2 : R = 0 := by (first | (clear h hM hx htt hxt hD hH h2 e1; omega) | omega)
    subst e1 e2
    show 1000000 * ((0 : Rat) + 0) ≤ ((0 : Int) : Rat)
    rw [show ((0 : Int) : Rat) = 0 from rfl]; (first | (clear h hM hx htt hxt hD hH h2 h4; grind) | grind)
  | m + 1, n, R, h1, h2, h3, h4 => by
    show _ ≤ ((sumTo (add12 x M D H) m + add12 x M D H m : Int) : Rat)
    rw [Rat.intCast_add]
    obtain ⟨-, p2, p3⟩ := gr12_pos hM hx m
    have p2' : (0 : Rat) < (tD12 x M m : Rat) := ipos p2
    have p3' : (0 : Rat) < (tH12 x M m : Rat) := ipos p3
    have eA : (add12 x M D H m : Rat) = (if m < D then (tD12 x M m : Rat) else 0) + (if 1 ≤ m ∧ m ≤ H then (tH12 x M m : Rat) else 0) := by
      unfold add12
      rw [Rat.intCast_add]
      congr 1 <;> split <;> rfl
    rw [eA]
    have a1 : 1000000 * sH d (W * x) n ≤ 1000000 * sH d (W * x) (min n m) + (if m < D then (tD12 x M m : Rat) else 0) := by
      by_cases hn : n ≤ m
      · rw [Nat.min_eq_left hn]
        split <;> (first | (clear h hM hx htt hxt hD hH h1 h2 h3 h4 p2 p3 p3' eA hn; grind) | grind)
      · have e : n = m + 1 := by (first | (clear h hM hx htt hxt hD hH h1 h3 h4 p2 p3 p2' p3' eA; omega) | omega)
        subst e
        rw [Nat.min_eq_right (by (first | (clear h hM hx htt hxt hD hH h3 h4 p2 p3 p2' p3' eA h1 h2 hn; omega) | omega)), if_pos (by (first | (clear h hM hx htt hxt hD hH h3 h4 p2 p3 p2' p3' eA h2 hn; omega) | omega))]
        have := tD12_ge h hM hx (show m ≤ 14 by (first | (clear h hM hx htt hxt hH h3 h4 p2 p3 p2' p3' eA h2 hn; omega) | omega))
        show 1000000 * (sH d (W * x) m + ex d (-(qk (W * x) m)) / 2) ≤ _
        (first | (clear h hM hx htt hxt hD hH h3 h4 p2 p3 p2' p3' eA h1 h2 hn; grind) | grind)
    have a2 : 1000000 * sT d tt (W * x) R ≤ 1000000 * sT d tt (W * x) (min R (m - 1)) + (if 1 ≤ m ∧ m ≤ H then (tH12 x M m : Rat) else 0) := by
      by_cases hn : R ≤ m - 1
      · rw [Nat.min_eq_left hn]
        split <;> (first | (clear h hM hx htt hxt hD hH h1 h2 h3 h4 p2 p3 p2' eA a1 hn; grind) | grind)
      · obtain ⟨m', rfl⟩ : ∃ m', m = m' + 1 := ⟨m - 1, by (first | (clear h hM hx htt hxt hD hH h1 h2 h3 p2 p3 p2' p3' eA a1; omega) | omega)⟩
        have e : R = m' + 1 := by (first | (clear h hM hx htt hxt hD hH h1 h3 h2 p2 p3 p2' p3' eA a1; omega) | omega)
        subst e
        rw [Nat.min_eq_right (by (first | (clear h hM hx htt hxt hD hH h1 h2 p2 p3 p2' p3' eA a1 h3 h4; omega) | omega)), if_pos (by (first | (clear h hM hx htt hxt hD hH h1 h2 p2 p3 p2' p3' eA a1 h4 hn; omega) | omega))]
        have := tH12_ge h hM hx htt hxt (show m' + 1 ≤ 14 by (first | (clear h hM hx htt hxt hD h1 h2 p2 p3 p2' p3' eA a1 h4 hn; omega) | omega))
        show 1000000 * (sT d tt (W * x) m' + TT d tt (W * x) (m' + 1)) ≤ 1000000 * sT d tt (W * x) m' + _
        (first | (clear h hM hx htt hxt hD hH h1 h2 p2 p3 p2' p3' eA a1 h3 h4 hn; grind) | grind)
    have ih := sum12 h hM hx htt hxt hD hH m (min n m) (min R (m - 1)) (by (first | (clear h hM hx htt hxt hD hH h3 h4 p2 p3 p2' p3' eA a1 a2; omega) | omega)) (by (first | (clear h hM hx htt hxt hD hH h1 h2 h3 h4 p2 p3 p2' p3' eA a1 a2; omega) | omega)) (by (first | (clear h hM hx htt hxt hD hH h1 h2 h4 p2 p3 p2' p3' eA a1 a2; omega) | omega)) (by (first | (clear h hM hx htt hxt hD hH h1 h2 h3 h4 p2 p3 p2' p3' eA a1 a2; omega) | omega))
    (first | (clear h hM hx htt hxt hD hH h1 h2 h3 h4 p2 p3 p2' p3' eA; grind) | grind)
/-- the law's bound is no less than these parts -/
theorem bnd12_ge {x M L K W : Int} {d tt : Rat} (h : S10 M d W) (hM : 0 < M) (hx : (x.natAbs : Int) ≤ 4 * M) (htt : 0 ≤ tt) (hxt : (x.natAbs : Rat) = (M : Rat) * tt) (hL : L ≤ 10) (hK : K ≤ 10) {n R : Nat} (hn : n ≤ t10 x M L) (hR : R ≤ t10 x M K + 1) :
    1200000 + 1600000 * tt + 1000000 * (sH d (W * x) n + sT d tt (W * x) R) ≤ (bnd12 x M L K : Rat) := by
  have hD : t10 x M L ≤ 13 := t10_le hM (by (first | (clear h htt hxt hL hK hn hR; omega) | omega)) hL
  have hH : t10 x M K ≤ 13 := t10_le hM (by (first | (clear h htt hxt hL hK hn hR hD; omega) | omega)) hK
  have hs := sum12 h hM hx htt hxt (D := t10 x M L) (H := t10 x M K + 1) (by (first | (clear h hM hx htt hxt hL hK hn hR hH; omega) | omega)) (by (first | (clear h hM hx htt hxt hL hK hn hR hD; omega) | omega)) (max (t10 x M L) (t10 x M K + 1 + 1)) n R hn (Nat.le_trans hn (Nat.le_max_left ..)) hR (by have := Nat.le_max_right (t10 x M L) (t10 x M K + 1 + 1); (first | (clear h hM hx htt hxt hL hK hn hD hH; omega) | omega))
  have h2 := (fdiv_rat (a := 8 * 10 ^ 6 * (x.natAbs : Int)) (b := 5 * M) (by (first | (clear h hx htt hxt hL hK hn hR hD hH hs; omega) | omega))).2
  unfold bnd12
  rw [Rat.intCast_add, Rat.intCast_add, Rat.intCast_add, show ((1200000 : Int) : Rat) = 1200000 from rfl, show ((1 : Int) : Rat) = 1 from rfl]
  have hMr := ipos hM
  generalize (((8 * 10 ^ 6 * (x.natAbs : Int)).fdiv (5 * M) : Int) : Rat) = q at *
  rw [show (8 * 10 ^ 6 : Int) = 8000000 from rfl, Rat.intCast_mul, Rat.intCast_natCast, Rat.intCast_mul, hxt, show ((8000000 : Int) : Rat) = 8000000 from rfl, show ((5 : Int) : Rat) = 5 from rfl] at h2
  have h3 : 1600000 * tt ≤ q + 1 := by
    refine div_le' hMr ?_
    (first | (clear h hM hx htt hxt hL hK hn hR hD hH hs hMr; grind) | grind)
  (first | (clear h hM hx htt hxt hL hK hn hR hD hH hMr h2; grind) | grind)

/-! law 12: there and back -/
theorem sH_le14 {d t tt : Rat} {Q : Int} (h : Rg d t tt Q) {n : Nat} (hn : n ≤ 13) : sH d Q n ≤ 124 / 10 := by
  have hd := h.hd
  obtain ⟨htt0, htt4, htt2⟩ := h.tt0
  by_cases hQ : 0 ≤ Q
  · have key : ∀ n : Nat, n ≤ 13 → sH d Q n ≤ (n : Rat) / 2 := fun n => by
      induction n with
      | zero => intro _; show (0 : Rat) ≤ ((0 : Nat) : Rat) / 2; rw [show ((0 : Nat) : Rat) = 0 from rfl]; (first | (clear h hn hd htt0 htt4 htt2 hQ; grind) | grind)
      | succ n ih =>
        intro hn
        have := ih (by (first | (clear h hd htt0 htt4 htt2 hQ ih; omega) | omega))
        have h1 := ex_le_one hd (show -(qk Q n) ≤ 0 by have := (qk_sign (Q := Q) n).1 hQ; (first | (clear h hd htt0 htt4 htt2 hQ ih hn; omega) | omega))
        show sH d Q n + ex d (-(qk Q n)) / 2 ≤ ((n + 1 : Nat) : Rat) / 2
        rw [show ((n + 1 : Nat) : Rat) = (n : Rat) + 1 from cast_succ n]; (first | (clear h hd htt0 htt4 htt2 hQ this; grind) | grind)
    have h1 := key n hn
    have h2 : (n : Rat) ≤ 13 := ncast_le hn
    (first | (clear h hn hd htt0 htt4 htt2 hQ key; grind) | grind)
  · have key : ∀ n : Nat, n ≤ 12 → sH d Q (n + 1) ≤ 9 / 2 + (n : Rat) / 2 + 9 / 10 * (tt - -(((qk Q n : Int) : Rat) * d)) := fun n => by
      induction n with
      | zero =>
        intro _
        have h1 := (lev_sz h (show 0 < 14 by decide)).2.1
        have h0 := ex_pos hd (-(qk Q (0 + 1)))
        have h2 : ex d (-(qk Q 0)) = ex d (-(qk Q (0 + 1))) * ex d (-(qk Q (0 + 1))) := by
          rw [← ex_add hd, qk_two (show 0 < 14 by decide)]; congr 1; (first | (clear h hn hd htt0 htt4 htt2 hQ h1 h0; omega) | omega)
        have h3 := rmul (Rat.le_of_lt h0) (show (0 : Rat) ≤ 3 by decide) h1 h1
        have h4 := qk_rat h (show 0 ≤ 14 by decide)
        rw [Rat.pow_zero] at h4
        have h5 : tt = -t := by rcases h.abs with ⟨a, b⟩ | ⟨a, b⟩; exact absurd a hQ; exact b
        show (0 : Rat) + ex d (-(qk Q 0)) / 2 ≤ 9 / 2 + ((0 : Nat) : Rat) / 2 + _
        rw [h2, show ((0 : Nat) : Rat) = 0 from rfl]
        (first | (clear h hn hd htt0 htt4 htt2 hQ h1 h0 h2; grind) | grind)
      | succ n ih =>
        intro hn
        have := ih (by (first | (clear h hd htt0 htt4 htt2 hQ ih; omega) | omega))
        obtain ⟨x, hx, hx0, hx1, hx2⟩ := (lev_sz h (show n < 14 by (first | (clear h hd htt0 htt4 htt2 hQ ih this; omega) | omega))).2.2.2 (by (first | (clear h hd htt0 htt4 htt2 ih hn this; omega) | omega))
        have e : ((qk Q n : Int) : Rat) * d = 2 * (((qk Q (n + 1) : Int) : Rat) * d) := by
          rw [qk_two (by (first | (clear h hd htt0 htt4 htt2 hQ ih this hx hx0 hx1 hx2; omega) | omega)), Rat.intCast_mul, show ((2 : Int) : Rat) = 2 from rfl]; (first | (clear h hd htt0 htt4 htt2 hQ ih hn this hx hx0 hx1 hx2; grind) | grind)
        show sH d Q (n + 1) + ex d (-(qk Q (n + 1))) / 2 ≤ 9 / 2 + ((n + 1 : Nat) : Rat) / 2 + _
        rw [show ((n + 1 : Nat) : Rat) = (n : Rat) + 1 from cast_succ n]
        rw [e] at this
        (first | (clear h hd htt0 htt4 htt2 hQ this hx0 hx1; grind) | grind)
    have ht2 := htt2 (by (first | (clear h hn hd htt0 htt4 htt2 key; omega) | omega))
    rcases Nat.eq_zero_or_pos n with rfl | hp
    · show (0 : Rat) ≤ _; (first | (clear h hd htt0 htt4 htt2 hQ key ht2 hn; grind) | grind)
    · obtain ⟨m, rfl⟩ : ∃ m, n = m + 1 := ⟨n - 1, by (first | (clear h hd htt0 htt4 htt2 hQ key ht2; omega) | omega)⟩
      have h1 := key m (by (first | (clear h hd htt0 htt4 htt2 hQ key ht2 hp; omega) | omega))
      have h2 : (m : Rat) ≤ 12 := ncast_le (show m ≤ 12 by (first | (clear h hd htt0 htt4 htt2 hQ key ht2 hp h1; omega) | omega))
      have h3 : ((qk Q m : Int) : Rat) * d ≤ 0 := by
        have h4 : ((qk Q m : Int) : Rat) ≤ 0 := icast_le (b := 0) (Int.le_of_lt ((qk_sign m).2 (by (first | (clear h hd htt0 htt4 htt2 key ht2 hn hp h1 h2; omega) | omega))))
        have := Rat.mul_le_mul_of_nonneg_right h4 (Rat.le_of_lt hd)
        (first | (clear h hd htt0 htt4 htt2 hQ key ht2 hn hp h1 h2 h4; grind) | grind)
      (first | (clear h hd htt0 htt4 key ht2 hn hp; grind) | grind)
theorem rg_of {x M W : Int} {d : Rat} (h : S10 M d W) (hM : 0 < M) (hlo : -(2 * M) ≤ x) (hhi : x ≤ 4 * M) : ∃ t tt, Rg d t tt (W * x) := by
  have h1 := h.h1
  have hMr := ipos hM
  obtain ⟨t, ht⟩ : ∃ t : Rat, t = ((524288 * (W * x) : Int) : Rat) * d := ⟨_, rfl⟩
  have e : (M : Rat) * t = (x : Rat) := by
    rw [ht, Rat.intCast_mul, Rat.intCast_mul, show ((524288 : Int) : Rat) = 524288 from rfl]
    have : (M : Rat) * (524288 * ((W : Rat) * (x : Rat)) * d) = (x : Rat) * ((M : Rat) * 8192 * (64 * (W : Rat)) * d) := by (first | (clear h hM hlo hhi h1 hMr ht; grind) | grind)
    rw [this, h1]; (first | (clear h hM hlo hhi h1 hMr ht this; grind) | grind)
  have l1 := icast_le hlo
  have l2 := icast_le hhi
  rw [Rat.intCast_neg, Rat.intCast_mul, show ((2 : Int) : Rat) = 2 from rfl] at l1
  rw [Rat.intCast_mul, show ((4 : Int) : Rat) = 4 from rfl] at l2
  have lo : -2 ≤ t := div_le' hMr (by (first | (clear h hM hlo hhi h1 hMr ht l2; grind) | grind))
  have hi : t ≤ 4 := div_le' hMr (by (first | (clear h hM hlo hhi h1 hMr ht l1 lo; grind) | grind))
  by_cases hq : 0 ≤ W * x
  · exact ⟨t, t, h.hd, ht, lo, hi, .inl ⟨hq, rfl⟩⟩
  · exact ⟨t, -t, h.hd, ht, lo, hi, .inr ⟨by (first | (clear h hM hlo hhi h1 hMr ht e l1 l2 lo hi; omega) | omega), rfl⟩⟩
theorem S10.pd {M W : Int} {d : Rat} (h : S10 M d W) (hM : 0 < M) {R : Nat} (hR : R ≤ 14) : 2 ^ R * (M : Rat) * d * 1000000000000 ≤ 1 := by
  have h1 := h.h1
  have hW : (1000000000000 : Rat) ≤ (W : Rat) := icast_le h.hW
  have hMd := Rat.mul_pos (ipos hM) h.hd
  have h2 : (2 : Rat) ^ R ≤ 16384 := by
    have h3 : (2 : Int) ^ R ≤ 2 ^ 14 := ipow_le (by decide) hR
    have := icast_le h3
    rw [Rat.intCast_pow] at this
    exact this
  have h3 := Rat.mul_le_mul_of_nonneg_right h2 (Rat.le_of_lt hMd)
  have h4 := Rat.mul_le_mul_of_nonneg_right hW (Rat.le_of_lt hMd)
  (first | (clear h hM hR hW hMd h2; grind) | grind)
/-- _ilog's answer, at the count of halvings -/
theorem ilog_core {d t tt l0 : Rat} {Q M X K W : Int} (hs : S10 M d W) (h : Rg d t tt Q) (hM : 10 ^ 6 ≤ M) (hM' : M < 10 ^ 13) (hK : 3 ≤ K) (hK' : K ≤ 10) (h0 : 0 ≤ l0) (h14 : l0 ≤ 14) (hX : Wi ((X : Rat) - (M : Rat) * ex d (qk Q 0)) (l0 * ex d (qk Q 0)))
    {H : Nat} (hH : H ≤ 14) (hst : Stp12 M X K H) : iR M X K ≤ H ∧ Wi ((ilog X M K : Rat) - (M : Rat) * t) (l0 + sT d tt Q (iR M X K) + 42 / 1000 + 1 / 2 + 1375 / 1000 * tt + 3 / 1000) ∧ l0 + sT d tt Q (iR M X K) ≤ 45 := by
  obtain ⟨s1, s2, s3⟩ := iR_facts hH hst
  have hR : iR M X K ≤ 14 := Nat.le_trans s2 hH
  have htt0 := h.tt0.1
  have hl := lamS_le h h0 h14 hR
  have w := ilog_err h hM hM' hK hK' hR (lamS_nonneg h.hd htt0 h0 Q _) hl (yv_err h hM h0 h14 hX _ hR).1 s1 (hs.pd (by first | with_reducible assumption | with_reducible exact Int.le_of_lt (by assumption) | with_reducible exact Nat.le_of_lt (by assumption) | with_reducible exact qz1 (by assumption) | with_reducible exact qz2 (by assumption) | with_reducible exact qz3 (by assumption) | with_reducible exact qz4 (by assumption) | with_reducible exact qz5 (by assumption) | with_reducible exact qz6 (by assumption) | with_reducible exact qz7 (by assumption) | with_reducible exact qz8 (by assumption) | with_reducible exact qz9 (by assumption) | with_reducible exact qza (by assumption) | with_reducible exact qzb (by assumption) | with_reducible exact qzc | with_reducible exact qzd | with_reducible exact qze | omega) hR)
  have hRr : (iR M X K : Rat) ≤ 14 := ncast_le hR
  have hRr0 : (0 : Rat) ≤ (iR M X K : Rat) := Rat.natCast_nonneg
  rw [lamS_sT] at w hl
  refine ⟨s2, ?_, by (first | (clear hs h hM hM' hK hK' h0 h14 hX hH hst s1 s2 s3 hR htt0 w hRr; grind) | grind)⟩
  unfold ilog
  exact w.le (by (first | (clear hs h hM hM' hK hK' h0 h14 hX hH hst s1 s2 s3 hR htt0 hl w hRr0; grind) | grind))
theorem t10_dbl {x M K : Int} (hM : 0 < M) : 2 * ((x.natAbs : Rat)) * 2 ^ K.toNat + 2 * (M : Rat) ≤ (M : Rat) * 2 ^ (t10 x M K + 1) := by
  have h1 := icast_le (t10_facts (x := x) (L := K) hM).1
  rw [Rat.intCast_add, icast_p2, icast_p2, Rat.intCast_natCast] at h1
  rw [Rat.pow_succ]
  generalize (2 : Rat) ^ K.toNat = a at *
  generalize (2 : Rat) ^ t10 x M K = b at *
  (first | (clear hM; grind) | grind)
theorem stop_at {d t tt l0 : Rat} {Q M X K : Int} (h : Rg d t tt Q) (hM : 10 ^ 6 ≤ M) (hK : 3 ≤ K) (hK' : K ≤ 10) (h0 : 0 ≤ l0) (h14 : l0 ≤ 14) (hX : Wi ((X : Rat) - (M : Rat) * ex d (qk Q 0)) (l0 * ex d (qk Q 0)))
    {x : Int} (hx : (M : Rat) * tt ≤ (x.natAbs : Rat) + 52) (hH : t10 x M K + 1 ≤ 14) : Stp12 M X K (t10 x M K + 1) := by
  refine stop12 h hM hK hK' h0 h14 hX hH ?_
  have h1 := t10_dbl (x := x) (K := K) (show 0 < M by first | with_reducible assumption | with_reducible exact Int.le_of_lt (by assumption) | with_reducible exact Nat.le_of_lt (by assumption) | with_reducible exact qz1 (by assumption) | with_reducible exact qz2 (by assumption) | with_reducible exact qz3 (by assumption) | with_reducible exact qz4 (by assumption) | with_reducible exact qz5 (by assumption) | with_reducible exact qz6 (by assumption) | with_reducible exact qz7 (by assumption) | with_reducible exact qz8 (by assumption) | with_reducible exact qz9 (by assumption) | with_reducible exact qza (by assumption) | with_reducible exact qzb (by assumption) | with_reducible exact qzc | with_reducible exact qzd | with_reducible exact qze | omega)
  have hMr : (1000000 : Rat) ≤ (M : Rat) := icast_le hM
  have h1024 : (2 : Rat) ^ K.toNat ≤ 1024 := by
    have : (2 : Int) ^ K.toNat ≤ 2 ^ 10 := ipow_le (by decide) (by (first | (clear h hM h0 h14 hX hx hH h1 hMr; omega) | omega))
    have := icast_le this
    rw [Rat.intCast_pow] at this
    exact this
  have h2 := Rat.mul_le_mul_of_nonneg_right hx (Rat.le_of_lt (pow2pos K.toNat))
  generalize (2 : Rat) ^ K.toNat = a at *
  generalize (2 : Rat) ^ (t10 x M K + 1) = b at *
  (first | (clear h hM hK hK' h0 h14 hX hx hH; grind) | grind)
theorem fin1 {a sh st tt lam b : Rat} (h1 : a ≤ 500001 / 1000000 + 3 / 4 * tt) (h2 : a ≤ 6532 / 10000 + 48 / 1000 * tt) (htt : 0 ≤ tt) (hl : lam ≤ a + sh + 20 / 1000 + st + 42 / 1000 + 1 / 2 + 1375 / 1000 * tt + 3 / 1000) (hb : 1200000 + 1600000 * tt + 1000000 * (sh + st) ≤ b) : 1000000 * lam ≤ b := by
  by_cases h : tt ≤ 1 / 5 <;> (first | (clear htt; grind) | grind)
theorem claim1 {x M L K : Int} (hM : 10 ^ 6 ≤ M) (hM' : M < 10 ^ 13) (hL : 3 ≤ L) (hL2 : L ≤ 10) (hK : 3 ≤ K) (hK' : K ≤ 10) (hlo : -(2 * M) ≤ x) (hhi : x ≤ 4 * M) :
    10 ^ 6 * ((ilog (iexp x M L) M K - x).natAbs : Int) ≤ bnd12 x M L K := by
  have hM0 : 0 < M := by first | with_reducible assumption | with_reducible exact Int.le_of_lt (by assumption) | with_reducible exact Nat.le_of_lt (by assumption) | with_reducible exact qz1 (by assumption) | with_reducible exact qz2 (by assumption) | with_reducible exact qz3 (by assumption) | with_reducible exact qz4 (by assumption) | with_reducible exact qz5 (by assumption) | with_reducible exact qz6 (by assumption) | with_reducible exact qz7 (by assumption) | with_reducible exact qz8 (by assumption) | with_reducible exact qz9 (by assumption) | with_reducible exact qza (by assumption) | with_reducible exact qzb (by assumption) | with_reducible exact qzc | with_reducible exact qzd | with_reducible exact qze | omega
  obtain ⟨d, W, h⟩ := S10_ex hM0
  obtain ⟨t, tt, hg⟩ := rg_of h hM0 hlo hhi
  obtain ⟨hmt, hmtt⟩ := h.mt hM0 hg
  obtain ⟨htt0, htt4, htt2⟩ := hg.tt0
  obtain ⟨a, a0, a1, a2, r1, r2, w⟩ := iexp12 h hM hM' hL hL2 hg
  have hsH := sH_le14 hg (Nat.le_trans r1 r2)
  have hsH0 := sH_nonneg h.hd (W * x) (nR x M L)
  have l0 : 0 ≤ a + sH d (W * x) (nR x M L) + 2 / 1000 := by (first | (clear hM hM' hL hL2 hK hK' hlo hhi hM0 h hg hmt hmtt htt0 htt4 htt2 a1 a2 r1 r2 w hsH; grind) | grind)
  have l14 : a + sH d (W * x) (nR x M L) + 2 / 1000 ≤ 14 := by (first | (clear hM hM' hL hL2 hK hK' hlo hhi hM0 h hg hmt hmtt htt0 htt2 a0 a1 r1 r2 w hsH0 l0; grind) | grind)
  have hxn : (x.natAbs : Int) ≤ 4 * M := by (first | (clear hM hM' hL hL2 hK hK' hM0 h hg hmt hmtt htt0 htt4 htt2 a0 a1 a2 r1 r2 w hsH hsH0 l0 l14; omega) | omega)
  have hH : t10 x M K + 1 ≤ 14 := by have := t10_le (x := x) (L := K) hM0 (by (first | (clear hL hL2 hK hK' hlo hhi hM0 h hg hmt hmtt htt0 htt4 htt2 a0 a1 a2 r1 r2 w hsH hsH0 l0 l14; omega) | omega)) hK'; (first | (clear hM hM' hL hL2 hK hK' hlo hhi hM0 h hg hmt hmtt htt0 htt4 htt2 a0 a1 a2 r1 r2 w hsH hsH0 l0 l14 hxn; omega) | omega)
  have st := stop_at hg hM hK hK' l0 l14 w (x := x) (by rw [hmtt]; (first | (clear hM hM' hL hL2 hK hK' hlo hhi hM0 h hg hmt hmtt htt0 htt4 htt2 a0 a1 a2 r1 r2 w hsH hsH0 l0 l14 hxn hH; grind) | grind)) hH
  obtain ⟨i1, i2, -⟩ := ilog_core h hg hM hM' hK hK' l0 l14 w hH st
  have hb := bnd12_ge h hM0 hxn htt0 hmtt hL2 hK' r1 i1
  rw [hmt] at i2
  have hab : (((ilog (iexp x M L) M K - x).natAbs : Int) : Rat) ≤ a + sH d (W * x) (nR x M L) + 20 / 1000 + sT d tt (W * x) (iR M (iexp x M L) K) + 42 / 1000 + 1 / 2 + 1375 / 1000 * tt + 3 / 1000 := by
    obtain ⟨u1, u2⟩ := i2
    rcases Int.le_total 0 (ilog (iexp x M L) M K - x) with hh | hh
    · have e : ((ilog (iexp x M L) M K - x).natAbs : Int) = ilog (iexp x M L) M K - x := by (first | (clear hM hM' hL hL2 hK hK' hlo hhi hM0 h hg hmt hmtt htt0 htt4 htt2 a0 a1 a2 r1 r2 w hsH hsH0 l0 l14 hxn hH st i1 hb u1 u2; omega) | omega)
      rw [e, Rat.intCast_sub]; (first | (clear hM hM' hL hL2 hK hK' hlo hhi hM0 h hg hmt hmtt htt0 htt4 htt2 a0 a1 a2 r1 r2 w hsH hsH0 l0 l14 hxn hH st i1 hb u1 hh e; grind) | grind)
    · have e : ((ilog (iexp x M L) M K - x).natAbs : Int) = -(ilog (iexp x M L) M K - x) := by (first | (clear hM hM' hL hL2 hK hK' hlo hhi hM0 h hg hmt hmtt htt0 htt4 htt2 a0 a1 a2 r1 r2 w hsH hsH0 l0 l14 hxn hH st i1 hb u1 u2; omega) | omega)
      rw [e, Rat.intCast_neg, Rat.intCast_sub]; (first | (clear hM hM' hL hL2 hK hK' hlo hhi hM0 h hg hmt hmtt htt0 htt4 htt2 a0 a1 a2 r1 r2 w hsH hsH0 l0 l14 hxn hH st i1 hb u2 hh e; grind) | grind)
  have := fin1 a1 a2 htt0 hab hb
  refine Rat.intCast_le_intCast.mp ?_
  rw [Rat.intCast_mul, show ((10 ^ 6 : Int) : Rat) = 1000000 from rfl]
  exact this

/-! law 12: back and there -/
theorem F_mono {g g1 s s1 : Rat} (hg : 0 ≤ g) (hg1 : g ≤ g1) (hs : 0 ≤ s) (hs1 : s ≤ s1) : g * (1 / 2 + (1 / 4 + g / 8) * s) ≤ g1 * (1 / 2 + (1 / 4 + g1 / 8) * s1) := by
  have h1 := rmul (show 0 ≤ 1 / 4 + g / 8 by (first | (clear hg1 hs hs1; grind) | grind)) (show 0 ≤ s1 by (first | (clear hg hg1; grind) | grind)) (show 1 / 4 + g / 8 ≤ 1 / 4 + g1 / 8 by (first | (clear hg hs hs1; grind) | grind)) hs1
  have h2 := Rat.mul_nonneg (show 0 ≤ 1 / 4 + g / 8 by (first | (clear hg1 hs hs1 h1; grind) | grind)) hs
  exact rmul hg (by (first | (clear hg hg1 hs hs1; grind) | grind)) hg1 (by (first | (clear hg hg1 hs hs1 h2; grind) | grind))
theorem F_near {g s : Rat} (hg : 0 ≤ g) (hs : 0 ≤ s) (h : g ≤ 3 ∧ s ≤ 2 ∨ g ≤ 1 ∧ s ≤ 4) : (g + g / 10000) * (1 / 2 + (1 / 4 + (g + g / 10000) / 8) * (s + 53 / 1000000)) ≤ g * (1 / 2 + (1 / 4 + g / 8) * s) + 1 / 1000 := by
  rcases h with ⟨a, b⟩ | ⟨a, b⟩
  · have h1 := rmul hg (show (0 : Rat) ≤ 2 by decide) a b
    have h2 := rmul hg (show (0 : Rat) ≤ 3 by decide) a a
    have h3 := rmul (Rat.mul_nonneg hg hg) (show (0 : Rat) ≤ 2 by decide) h2 b
    (first | (clear hg hs b; grind) | grind)
  · have h1 := rmul hg (show (0 : Rat) ≤ 4 by decide) a b
    have h2 := rmul hg (show (0 : Rat) ≤ 1 by decide) a a
    have h3 := rmul (Rat.mul_nonneg hg hg) (show (0 : Rat) ≤ 4 by decide) h2 b
    (first | (clear hg hs b; grind) | grind)
/-- two numbers near each other: their exponents' difference -/
theorem qk_diff {d t tt t' tt' e : Rat} {Q Q' : Int} (h : Rg d t tt Q) (h' : Rg d t' tt' Q') (he : Wi (t' - t) e) {k : Nat} (hk : k ≤ 14) : Wi (((qk Q' k - qk Q k : Int) : Rat) * d) e := by
  have h1 := qk_rat h hk
  have h2 := qk_rat h' hk
  have hp := pow2ge k
  have he0 := he.nonneg
  obtain ⟨e1, e2⟩ := he
  rw [Rat.intCast_sub]
  have e3 : (2 : Rat) ^ k * ((((qk Q' k : Int) : Rat) - ((qk Q k : Int) : Rat)) * d) = t' - t := by (first | (clear h h' hk hp he0 e1 e2; grind) | grind)
  have h3 := Rat.mul_le_mul_of_nonneg_right hp he0
  generalize ((((qk Q' k : Int) : Rat) - ((qk Q k : Int) : Rat)) * d) = z at *
  have hp0 := pow2pos k
  constructor
  · refine div_le' hp0 ?_
    (first | (clear h h' hk h1 h2 hp he0 e2 hp0; grind) | grind)
  · refine div_le' hp0 ?_
    (first | (clear h h' hk h1 h2 hp he0 e1 hp0; grind) | grind)
theorem ex_small {d : Rat} (hd : 0 < d) {p : Int} {e : Rat} (h : (p : Rat) * d ≤ e) (he0 : 0 ≤ e) (he : e ≤ 1) : ex d p ≤ 1 + 18 / 10 * e := by
  rcases Int.le_total 0 p with hp | hp
  · obtain ⟨n, rfl⟩ := Int.eq_ofNat_of_zero_le hp
    rw [Rat.intCast_natCast] at h
    have := ex_lin hd (Z := n) (by (first | (clear hd he0 hp; grind) | grind))
    (first | (clear hd he0 he hp; grind) | grind)
  · have := ex_le_one hd hp
    (first | (clear hd h he hp; grind) | grind)
theorem TT_near {d t tt t' tt' : Rat} {Q Q' : Int} (h : Rg d t tt Q) (h' : Rg d t' tt' Q') (he : Wi (t' - t) (52 / 1000000)) (htt : tt ≤ tt' + 53 / 1000000) {k : Nat} (hk : k < 14) : TT d tt Q (k + 1) ≤ TT d tt' Q' (k + 1) + 1 / 1000 := by
  have hd := h.hd
  have hw := (qk_diff h h' he (show k + 1 ≤ 14 by (first | (clear h h' he htt hd; omega) | omega))).2
  have h1 := ex_small hd hw (by first | with_reducible assumption | with_reducible exact Rat.le_of_lt (by assumption) | decide +kernel | with_reducible exact qr1 (by assumption) | with_reducible exact qr2 (by assumption) | with_reducible exact qr3 (by assumption) | with_reducible exact qr4 (by assumption) | with_reducible exact qr5 (by assumption) | with_reducible exact qr6 (by assumption) | with_reducible exact qr7 (by assumption) | with_reducible exact qr8 (by assumption) | with_reducible exact qr9 (by assumption) | grind) (by first | with_reducible assumption | with_reducible exact Rat.le_of_lt (by assumption) | decide +kernel | with_reducible exact qr1 (by assumption) | with_reducible exact qr2 (by assumption) | with_reducible exact qr3 (by assumption) | with_reducible exact qr4 (by assumption) | with_reducible exact qr5 (by assumption) | with_reducible exact qr6 (by assumption) | with_reducible exact qr7 (by assumption) | with_reducible exact qr8 (by assumption) | with_reducible exact qr9 (by assumption) | grind)
  have e : ex d (-(qk Q (k + 1))) = ex d (-(qk Q' (k + 1))) * ex d (qk Q' (k + 1) - qk Q (k + 1)) := by
    rw [← ex_add hd]; congr 1; (first | (clear h h' he htt hk hd hw h1; omega) | omega)
  have g0 := ex_pos hd (-(qk Q (k + 1)))
  have g0' := ex_pos hd (-(qk Q' (k + 1)))
  obtain ⟨l1, l2, l3, l4⟩ := lev_sz h' hk
  obtain ⟨t0, t4, t2⟩ := h'.tt0
  have hle := Rat.mul_le_mul_of_nonneg_left h1 (Rat.le_of_lt g0')
  rw [← e] at hle
  unfold TT
  generalize ex d (-(qk Q (k + 1))) = g at *
  generalize ex d (-(qk Q' (k + 1))) = g' at *
  have f1 := F_mono (Rat.le_of_lt g0) (show g ≤ g' + g' / 10000 by (first | (clear h h' he htt hk hd hw h1 l1 t0 t4 t2 g0' l2 l3 l4 e; grind) | grind)) h.tt0.1 htt
  have f2 := F_near (Rat.le_of_lt g0') t0 (by
    rcases h'.abs with ⟨a, b⟩ | ⟨a, b⟩
    · exact .inr ⟨l3 a, t4⟩
    · exact .inl ⟨l2, t2 a⟩)
  exact Rat.le_trans f1 f2
theorem sT_near {d t tt t' tt' : Rat} {Q Q' : Int} (h : Rg d t tt Q) (h' : Rg d t' tt' Q') (he : Wi (t' - t) (52 / 1000000)) (htt : tt ≤ tt' + 53 / 1000000) : ∀ k : Nat, k ≤ 14 → sT d tt Q k ≤ sT d tt' Q' k + (k : Rat) / 1000
  | 0, _ => by show (0 : Rat) ≤ 0 + ((0 : Nat) : Rat) / 1000; rw [show ((0 : Nat) : Rat) = 0 from rfl]; (first | (clear h h' he htt; grind) | grind)
  | k + 1, hk => by
    have h1 := sT_near h h' he htt k (by (first | (clear h h' he htt; omega) | omega))
    have h2 := TT_near h h' he htt (show k < 14 by (first | (clear h h' he htt h1; omega) | omega))
    show sT d tt Q k + TT d tt Q (k + 1) ≤ sT d tt' Q' k + TT d tt' Q' (k + 1) + ((k + 1 : Nat) : Rat) / 1000
    rw [show ((k + 1 : Nat) : Rat) = (k : Rat) + 1 from cast_succ k]; (first | (clear h h' he htt hk; grind) | grind)
/-- exp near 0 -/
theorem ex_quad {d : Rat} (hd : 0 < d) {p : Int} {z : Rat} (hz : z = (p : Rat) * d) (h1 : z ≤ 1 / 2) : 1 + z ≤ ex d p ∧ ex d p ≤ 1 + z + z * z := by
  refine ⟨by rw [hz]; exact ex_ge hd p, ?_⟩
  rcases Int.le_total 0 p with hp | hp
  · obtain ⟨n, rfl⟩ := Int.eq_ofNat_of_zero_le hp
    rw [Rat.intCast_natCast] at hz
    have hup := ex_up hd 1 n
    have h3 := ex_lin hd (Z := n) (by rw [← hz]; (first | (clear hd hz hp hup; grind) | grind))
    have h0 : 0 ≤ z := by rw [hz]; exact Rat.mul_nonneg Rat.natCast_nonneg (Rat.le_of_lt hd)
    rw [← hz] at hup h3
    have e3 : sm 1 z = 1 + z := by
      show 1 + 1 * z / (((0 : Nat) : Rat) + 1) = _
      rw [show ((0 : Nat) : Rat) = 0 from rfl]; (first | (clear hd h1 hz hp hup h3 h0; grind) | grind)
    have e4 : tm (1 + 1) z = z * z / 2 := by
      show 1 * z / (((0 : Nat) : Rat) + 1) * z / (((1 : Nat) : Rat) + 1) = _
      rw [show ((0 : Nat) : Rat) = 0 from rfl, show ((1 : Nat) : Rat) = 1 from rfl]; (first | (clear hd h1 hz hp hup h3 h0 e3; grind) | grind)
    rw [e3, e4] at hup
    have h5 := Rat.mul_le_mul_of_nonneg_left (show ex d n ≤ 2 by (first | (clear hd hz hp hup h0 e3 e4; grind) | grind)) (sq_nn z)
    (first | (clear hd h1 hz hp h3 h0 e3 e4; grind) | grind)
  · have h2 := ex_neg hd p
    have h3 := ex_ge hd (-p)
    rw [Rat.intCast_neg] at h3
    have hz0 : z ≤ 0 := by
      have h4 : ((p : Int) : Rat) ≤ 0 := icast_le (b := 0) hp
      have := Rat.mul_le_mul_of_nonneg_right h4 (Rat.le_of_lt hd)
      (first | (clear hd h1 hp h2 h3 h4; grind) | grind)
    have h5 : 1 - z ≤ ex d (-p) := by (first | (clear hd h1 hp h2 hz0; grind) | grind)
    have h6 := Rat.mul_le_mul_of_nonneg_left h5 (Rat.le_of_lt (ex_pos hd p))
    refine div_le' (show 0 < 1 - z by (first | (clear hd hz h1 hp h2 h3 h5 h6; grind) | grind)) ?_
    have h7 : 0 ≤ z * z * -z := Rat.mul_nonneg (sq_nn z) (by first | with_reducible assumption | with_reducible exact Rat.le_of_lt (by assumption) | decide +kernel | with_reducible exact qr1 (by assumption) | with_reducible exact qr2 (by assumption) | with_reducible exact qr3 (by assumption) | with_reducible exact qr4 (by assumption) | with_reducible exact qr5 (by assumption) | with_reducible exact qr6 (by assumption) | with_reducible exact qr7 (by assumption) | with_reducible exact qr8 (by assumption) | with_reducible exact qr9 (by assumption) | grind)
    (first | (clear hd hz h1 hp h3 hz0 h5; grind) | grind)

/-! law 12: back and there, the law -/
theorem sqs {d c b : Rat} (hd : 0 < d) {q : Int} {k : Nat} (hk : k < 14) (hc : 0 ≤ c) (h : c ≤ ex d (qk q (k + 1))) (hb : b ≤ c * c) : b ≤ ex d (qk q k) := by
  have e : ex d (qk q k) = ex d (qk q (k + 1)) * ex d (qk q (k + 1)) := by rw [← ex_add hd, qk_two hk]; congr 1; (first | (clear hd hk hc h hb; omega) | omega)
  rw [e]
  exact Rat.le_trans hb (rmul hc (Rat.le_of_lt (ex_pos hd _)) h h)
theorem qk0 (q : Int) : qk q 0 = 524288 * q := by have := qk_pow (Q := q) 0 (by decide); rw [Int.pow_zero] at this; omega
theorem qk7 {d : Rat} (hd : 0 < d) (q : Int) : 1 + ((524288 * q : Int) : Rat) * d / 128 ≤ ex d (qk q 7) := by
  have e := qk_pow (Q := q) 7 (by decide)
  rw [← e, Rat.intCast_mul, show (((2 : Int) ^ 7 : Int) : Rat) = 128 from rfl]
  have := ex_ge hd (qk q 7)
  (first | (clear hd e; grind) | grind)
theorem ex_hi {d : Rat} (hd : 0 < d) {q : Int} (h : 399 / 100 ≤ ((524288 * q : Int) : Rat) * d) : 505 / 10 ≤ ex d (524288 * q) := by
  have h7 : 1031171 / 1000000 ≤ ex d (qk q 7) := by have := qk7 hd q; (first | (clear hd; grind) | grind)
  have h6 : 106331 / 100000 ≤ ex d (qk q 6) := sqs hd (by decide) (by first | with_reducible assumption | with_reducible exact Rat.le_of_lt (by assumption) | decide +kernel | with_reducible exact qr1 (by assumption) | with_reducible exact qr2 (by assumption) | with_reducible exact qr3 (by assumption) | with_reducible exact qr4 (by assumption) | with_reducible exact qr5 (by assumption) | with_reducible exact qr6 (by assumption) | with_reducible exact qr7 (by assumption) | with_reducible exact qr8 (by assumption) | with_reducible exact qr9 (by assumption) | grind) h7 (by first | with_reducible assumption | with_reducible exact Rat.le_of_lt (by assumption) | decide +kernel | with_reducible exact qr1 (by assumption) | with_reducible exact qr2 (by assumption) | with_reducible exact qr3 (by assumption) | with_reducible exact qr4 (by assumption) | with_reducible exact qr5 (by assumption) | with_reducible exact qr6 (by assumption) | with_reducible exact qr7 (by assumption) | with_reducible exact qr8 (by assumption) | with_reducible exact qr9 (by assumption) | grind)
  have h5 : 113062 / 100000 ≤ ex d (qk q 5) := sqs hd (by decide) (by first | with_reducible assumption | with_reducible exact Rat.le_of_lt (by assumption) | decide +kernel | with_reducible exact qr1 (by assumption) | with_reducible exact qr2 (by assumption) | with_reducible exact qr3 (by assumption) | with_reducible exact qr4 (by assumption) | with_reducible exact qr5 (by assumption) | with_reducible exact qr6 (by assumption) | with_reducible exact qr7 (by assumption) | with_reducible exact qr8 (by assumption) | with_reducible exact qr9 (by assumption) | grind) h6 (by first | with_reducible assumption | with_reducible exact Rat.le_of_lt (by assumption) | decide +kernel | with_reducible exact qr1 (by assumption) | with_reducible exact qr2 (by assumption) | with_reducible exact qr3 (by assumption) | with_reducible exact qr4 (by assumption) | with_reducible exact qr5 (by assumption) | with_reducible exact qr6 (by assumption) | with_reducible exact qr7 (by assumption) | with_reducible exact qr8 (by assumption) | with_reducible exact qr9 (by assumption) | grind)
  have h4 : 127829 / 100000 ≤ ex d (qk q 4) := sqs hd (by decide) (by first | with_reducible assumption | with_reducible exact Rat.le_of_lt (by assumption) | decide +kernel | with_reducible exact qr1 (by assumption) | with_reducible exact qr2 (by assumption) | with_reducible exact qr3 (by assumption) | with_reducible exact qr4 (by assumption) | with_reducible exact qr5 (by assumption) | with_reducible exact qr6 (by assumption) | with_reducible exact qr7 (by assumption) | with_reducible exact qr8 (by assumption) | with_reducible exact qr9 (by assumption) | grind) h5 (by first | with_reducible assumption | with_reducible exact Rat.le_of_lt (by assumption) | decide +kernel | with_reducible exact qr1 (by assumption) | with_reducible exact qr2 (by assumption) | with_reducible exact qr3 (by assumption) | with_reducible exact qr4 (by assumption) | with_reducible exact qr5 (by assumption) | with_reducible exact qr6 (by assumption) | with_reducible exact qr7 (by assumption) | with_reducible exact qr8 (by assumption) | with_reducible exact qr9 (by assumption) | grind)
  have h3 : 163400 / 100000 ≤ ex d (qk q 3) := sqs hd (by decide) (by first | with_reducible assumption | with_reducible exact Rat.le_of_lt (by assumption) | decide +kernel | with_reducible exact qr1 (by assumption) | with_reducible exact qr2 (by assumption) | with_reducible exact qr3 (by assumption) | with_reducible exact qr4 (by assumption) | with_reducible exact qr5 (by assumption) | with_reducible exact qr6 (by assumption) | with_reducible exact qr7 (by assumption) | with_reducible exact qr8 (by assumption) | with_reducible exact qr9 (by assumption) | grind) h4 (by first | with_reducible assumption | with_reducible exact Rat.le_of_lt (by assumption) | decide +kernel | with_reducible exact qr1 (by assumption) | with_reducible exact qr2 (by assumption) | with_reducible exact qr3 (by assumption) | with_reducible exact qr4 (by assumption) | with_reducible exact qr5 (by assumption) | with_reducible exact qr6 (by assumption) | with_reducible exact qr7 (by assumption) | with_reducible exact qr8 (by assumption) | with_reducible exact qr9 (by assumption) | grind)
  have h2 : 266990 / 100000 ≤ ex d (qk q 2) := sqs hd (by decide) (by first | with_reducible assumption | with_reducible exact Rat.le_of_lt (by assumption) | decide +kernel | with_reducible exact qr1 (by assumption) | with_reducible exact qr2 (by assumption) | with_reducible exact qr3 (by assumption) | with_reducible exact qr4 (by assumption) | with_reducible exact qr5 (by assumption) | with_reducible exact qr6 (by assumption) | with_reducible exact qr7 (by assumption) | with_reducible exact qr8 (by assumption) | with_reducible exact qr9 (by assumption) | grind) h3 (by first | with_reducible assumption | with_reducible exact Rat.le_of_lt (by assumption) | decide +kernel | with_reducible exact qr1 (by assumption) | with_reducible exact qr2 (by assumption) | with_reducible exact qr3 (by assumption) | with_reducible exact qr4 (by assumption) | with_reducible exact qr5 (by assumption) | with_reducible exact qr6 (by assumption) | with_reducible exact qr7 (by assumption) | with_reducible exact qr8 (by assumption) | with_reducible exact qr9 (by assumption) | grind)
  have h1 : 7128 / 1000 ≤ ex d (qk q 1) := sqs hd (by decide) (by first | with_reducible assumption | with_reducible exact Rat.le_of_lt (by assumption) | decide +kernel | with_reducible exact qr1 (by assumption) | with_reducible exact qr2 (by assumption) | with_reducible exact qr3 (by assumption) | with_reducible exact qr4 (by assumption) | with_reducible exact qr5 (by assumption) | with_reducible exact qr6 (by assumption) | with_reducible exact qr7 (by assumption) | with_reducible exact qr8 (by assumption) | with_reducible exact qr9 (by assumption) | grind) h2 (by first | with_reducible assumption | with_reducible exact Rat.le_of_lt (by assumption) | decide +kernel | with_reducible exact qr1 (by assumption) | with_reducible exact qr2 (by assumption) | with_reducible exact qr3 (by assumption) | with_reducible exact qr4 (by assumption) | with_reducible exact qr5 (by assumption) | with_reducible exact qr6 (by assumption) | with_reducible exact qr7 (by assumption) | with_reducible exact qr8 (by assumption) | with_reducible exact qr9 (by assumption) | grind)
  have h0 : 505 / 10 ≤ ex d (qk q 0) := sqs hd (by decide) (by first | with_reducible assumption | with_reducible exact Rat.le_of_lt (by assumption) | decide +kernel | with_reducible exact qr1 (by assumption) | with_reducible exact qr2 (by assumption) | with_reducible exact qr3 (by assumption) | with_reducible exact qr4 (by assumption) | with_reducible exact qr5 (by assumption) | with_reducible exact qr6 (by assumption) | with_reducible exact qr7 (by assumption) | with_reducible exact qr8 (by assumption) | with_reducible exact qr9 (by assumption) | grind) h1 (by first | with_reducible assumption | with_reducible exact Rat.le_of_lt (by assumption) | decide +kernel | with_reducible exact qr1 (by assumption) | with_reducible exact qr2 (by assumption) | with_reducible exact qr3 (by assumption) | with_reducible exact qr4 (by assumption) | with_reducible exact qr5 (by assumption) | with_reducible exact qr6 (by assumption) | with_reducible exact qr7 (by assumption) | with_reducible exact qr8 (by assumption) | with_reducible exact qr9 (by assumption) | grind)
  rwa [qk0] at h0
theorem ex_hi2 {d : Rat} (hd : 0 < d) {q : Int} (h : 18999 / 10000 ≤ ((524288 * q : Int) : Rat) * d) : 65 / 10 ≤ ex d (524288 * q) := by
  have h7 : 101484 / 100000 ≤ ex d (qk q 7) := by have := qk7 hd q; (first | (clear hd; grind) | grind)
  have h6 : 10299 / 10000 ≤ ex d (qk q 6) := sqs hd (by decide) (by first | with_reducible assumption | with_reducible exact Rat.le_of_lt (by assumption) | decide +kernel | with_reducible exact qr1 (by assumption) | with_reducible exact qr2 (by assumption) | with_reducible exact qr3 (by assumption) | with_reducible exact qr4 (by assumption) | with_reducible exact qr5 (by assumption) | with_reducible exact qr6 (by assumption) | with_reducible exact qr7 (by assumption) | with_reducible exact qr8 (by assumption) | with_reducible exact qr9 (by assumption) | grind) h7 (by first | with_reducible assumption | with_reducible exact Rat.le_of_lt (by assumption) | decide +kernel | with_reducible exact qr1 (by assumption) | with_reducible exact qr2 (by assumption) | with_reducible exact qr3 (by assumption) | with_reducible exact qr4 (by assumption) | with_reducible exact qr5 (by assumption) | with_reducible exact qr6 (by assumption) | with_reducible exact qr7 (by assumption) | with_reducible exact qr8 (by assumption) | with_reducible exact qr9 (by assumption) | grind)
  have h5 : 10606 / 10000 ≤ ex d (qk q 5) := sqs hd (by decide) (by first | with_reducible assumption | with_reducible exact Rat.le_of_lt (by assumption) | decide +kernel | with_reducible exact qr1 (by assumption) | with_reducible exact qr2 (by assumption) | with_reducible exact qr3 (by assumption) | with_reducible exact qr4 (by assumption) | with_reducible exact qr5 (by assumption) | with_reducible exact qr6 (by assumption) | with_reducible exact qr7 (by assumption) | with_reducible exact qr8 (by assumption) | with_reducible exact qr9 (by assumption) | grind) h6 (by first | with_reducible assumption | with_reducible exact Rat.le_of_lt (by assumption) | decide +kernel | with_reducible exact qr1 (by assumption) | with_reducible exact qr2 (by assumption) | with_reducible exact qr3 (by assumption) | with_reducible exact qr4 (by assumption) | with_reducible exact qr5 (by assumption) | with_reducible exact qr6 (by assumption) | with_reducible exact qr7 (by assumption) | with_reducible exact qr8 (by assumption) | with_reducible exact qr9 (by assumption) | grind)
  have h4 : 11248 / 10000 ≤ ex d (qk q 4) := sqs hd (by decide) (by first | with_reducible assumption | with_reducible exact Rat.le_of_lt (by assumption) | decide +kernel | with_reducible exact qr1 (by assumption) | with_reducible exact qr2 (by assumption) | with_reducible exact qr3 (by assumption) | with_reducible exact qr4 (by assumption) | with_reducible exact qr5 (by assumption) | with_reducible exact qr6 (by assumption) | with_reducible exact qr7 (by assumption) | with_reducible exact qr8 (by assumption) | with_reducible exact qr9 (by assumption) | grind) h5 (by first | with_reducible assumption | with_reducible exact Rat.le_of_lt (by assumption) | decide +kernel | with_reducible exact qr1 (by assumption) | with_reducible exact qr2 (by assumption) | with_reducible exact qr3 (by assumption) | with_reducible exact qr4 (by assumption) | with_reducible exact qr5 (by assumption) | with_reducible exact qr6 (by assumption) | with_reducible exact qr7 (by assumption) | with_reducible exact qr8 (by assumption) | with_reducible exact qr9 (by assumption) | grind)
  have h3 : 1265 / 1000 ≤ ex d (qk q 3) := sqs hd (by decide) (by first | with_reducible assumption | with_reducible exact Rat.le_of_lt (by assumption) | decide +kernel | with_reducible exact qr1 (by assumption) | with_reducible exact qr2 (by assumption) | with_reducible exact qr3 (by assumption) | with_reducible exact qr4 (by assumption) | with_reducible exact qr5 (by assumption) | with_reducible exact qr6 (by assumption) | with_reducible exact qr7 (by assumption) | with_reducible exact qr8 (by assumption) | with_reducible exact qr9 (by assumption) | grind) h4 (by first | with_reducible assumption | with_reducible exact Rat.le_of_lt (by assumption) | decide +kernel | with_reducible exact qr1 (by assumption) | with_reducible exact qr2 (by assumption) | with_reducible exact qr3 (by assumption) | with_reducible exact qr4 (by assumption) | with_reducible exact qr5 (by assumption) | with_reducible exact qr6 (by assumption) | with_reducible exact qr7 (by assumption) | with_reducible exact qr8 (by assumption) | with_reducible exact qr9 (by assumption) | grind)
  have h2 : 1600 / 1000 ≤ ex d (qk q 2) := sqs hd (by decide) (by first | with_reducible assumption | with_reducible exact Rat.le_of_lt (by assumption) | decide +kernel | with_reducible exact qr1 (by assumption) | with_reducible exact qr2 (by assumption) | with_reducible exact qr3 (by assumption) | with_reducible exact qr4 (by assumption) | with_reducible exact qr5 (by assumption) | with_reducible exact qr6 (by assumption) | with_reducible exact qr7 (by assumption) | with_reducible exact qr8 (by assumption) | with_reducible exact qr9 (by assumption) | grind) h3 (by first | with_reducible assumption | with_reducible exact Rat.le_of_lt (by assumption) | decide +kernel | with_reducible exact qr1 (by assumption) | with_reducible exact qr2 (by assumption) | with_reducible exact qr3 (by assumption) | with_reducible exact qr4 (by assumption) | with_reducible exact qr5 (by assumption) | with_reducible exact qr6 (by assumption) | with_reducible exact qr7 (by assumption) | with_reducible exact qr8 (by assumption) | with_reducible exact qr9 (by assumption) | grind)
  have h1 : 256 / 100 ≤ ex d (qk q 1) := sqs hd (by decide) (by first | with_reducible assumption | with_reducible exact Rat.le_of_lt (by assumption) | decide +kernel | with_reducible exact qr1 (by assumption) | with_reducible exact qr2 (by assumption) | with_reducible exact qr3 (by assumption) | with_reducible exact qr4 (by assumption) | with_reducible exact qr5 (by assumption) | with_reducible exact qr6 (by assumption) | with_reducible exact qr7 (by assumption) | with_reducible exact qr8 (by assumption) | with_reducible exact qr9 (by assumption) | grind) h2 (by first | with_reducible assumption | with_reducible exact Rat.le_of_lt (by assumption) | decide +kernel | with_reducible exact qr1 (by assumption) | with_reducible exact qr2 (by assumption) | with_reducible exact qr3 (by assumption) | with_reducible exact qr4 (by assumption) | with_reducible exact qr5 (by assumption) | with_reducible exact qr6 (by assumption) | with_reducible exact qr7 (by assumption) | with_reducible exact qr8 (by assumption) | with_reducible exact qr9 (by assumption) | grind)
  have h0 : 65 / 10 ≤ ex d (qk q 0) := sqs hd (by decide) (by first | with_reducible assumption | with_reducible exact Rat.le_of_lt (by assumption) | decide +kernel | with_reducible exact qr1 (by assumption) | with_reducible exact qr2 (by assumption) | with_reducible exact qr3 (by assumption) | with_reducible exact qr4 (by assumption) | with_reducible exact qr5 (by assumption) | with_reducible exact qr6 (by assumption) | with_reducible exact qr7 (by assumption) | with_reducible exact qr8 (by assumption) | with_reducible exact qr9 (by assumption) | grind) h1 (by first | with_reducible assumption | with_reducible exact Rat.le_of_lt (by assumption) | decide +kernel | with_reducible exact qr1 (by assumption) | with_reducible exact qr2 (by assumption) | with_reducible exact qr3 (by assumption) | with_reducible exact qr4 (by assumption) | with_reducible exact qr5 (by assumption) | with_reducible exact qr6 (by assumption) | with_reducible exact qr7 (by assumption) | with_reducible exact qr8 (by assumption) | with_reducible exact qr9 (by assumption) | grind)
  rwa [qk0] at h0
theorem S10.small {M W : Int} {d : Rat} (h : S10 M d W) (hM : 10 ^ 6 ≤ M) : 524288 * d ≤ 1 / 1000000000 ∧ (M : Rat) * (524288 * d) ≤ 1 / 1000000000 := by
  have h1 := h.h1
  have hd := h.hd
  have hW : (1000000000000 : Rat) ≤ (W : Rat) := icast_le h.hW
  have hMr : (1000000 : Rat) ≤ (M : Rat) := icast_le hM
  have hMd := Rat.mul_pos (show 0 < (M : Rat) by first | with_reducible assumption | with_reducible exact Rat.le_of_lt (by assumption) | decide +kernel | with_reducible exact qr1 (by assumption) | with_reducible exact qr2 (by assumption) | with_reducible exact qr3 (by assumption) | with_reducible exact qr4 (by assumption) | with_reducible exact qr5 (by assumption) | with_reducible exact qr6 (by assumption) | with_reducible exact qr7 (by assumption) | with_reducible exact qr8 (by assumption) | with_reducible exact qr9 (by assumption) | grind) hd
  have h4 := Rat.mul_le_mul_of_nonneg_right hW (Rat.le_of_lt hMd)
  have h5 := Rat.mul_le_mul_of_nonneg_right hMr (Rat.le_of_lt hd)
  constructor <;> (first | (clear h hM hd hW hMr hMd; grind) | grind)
theorem ref_w {M w W : Int} {d : Rat} (h : S10 M d W) (hM : 10 ^ 6 ≤ M) (h1 : M - 6 ≤ 6 * w) (h2 : 6 * w ≤ 301 * M) :
    ∃ q t tt, Rg d t tt q ∧ -19 / 10 ≤ t ∧ t ≤ 399 / 100 ∧ (M : Rat) * ex d (qk q 0) ≤ (w : Rat) ∧ (w : Rat) ≤ ((M : Rat) + 1 / 1000) * ex d (qk q 0) := by
  have hd := h.hd
  have hMr : (1000000 : Rat) ≤ (M : Rat) := icast_le hM
  have hM0 : (0 : Rat) < (M : Rat) := by (first | (clear h hM h1 h2 hd; grind) | grind)
  obtain ⟨s1, s2⟩ := h.small hM
  have w1 := icast_le h1
  have w2 := icast_le h2
  rw [Rat.intCast_sub, Rat.intCast_mul, show ((6 : Int) : Rat) = 6 from rfl] at w1
  rw [Rat.intCast_mul, Rat.intCast_mul, show ((6 : Int) : Rat) = 6 from rfl, show ((301 : Int) : Rat) = 301 from rfl] at w2
  obtain ⟨X, hX⟩ : ∃ X : Rat, (M : Rat) * X = (w : Rat) := ⟨(w : Rat) / (M : Rat), by (first | (clear h hM h1 h2 hd hM0 s1 s2 w1 w2; grind) | grind)⟩
  rw [← hX] at w1 w2
  have x1 : 16666 / 100000 ≤ X := div_le' hM0 (by (first | (clear h hM h1 h2 hd hM0 s1 s2 w2 hX; grind) | grind))
  have x2 : X ≤ 502 / 10 := div_le' hM0 (by (first | (clear h hM h1 h2 hd hM0 s1 s2 w1 hX x1; grind) | grind))
  obtain ⟨q, f1, f2⟩ := flog hd (show 0 < X by (first | (clear h hM h1 h2 hd hMr hM0 s1 s2 w2 w1 hX x2; grind) | grind)) (c := 524288) (by decide)
  obtain ⟨t, ht⟩ : ∃ t : Rat, t = ((524288 * q : Int) : Rat) * d := ⟨_, rfl⟩
  have hi : t ≤ 399 / 100 := by
    refine Rat.not_lt.mp fun hlt => ?_
    have := ex_hi hd (q := q) (by rw [← ht]; (first | (clear h hM h1 h2 hd hMr hM0 s1 s2 w2 w1 hX x1 x2 f1 f2 ht; grind) | grind))
    (first | (clear h hM h1 h2 hd hMr hM0 s1 s2 w2 w1 hX x1 f2 ht hlt; grind) | grind)
  have lo : -19 / 10 ≤ t := by
    refine Rat.not_lt.mp fun hlt => ?_
    have e : ((524288 * -(q + 1) : Int) : Rat) * d = -t - 524288 * d := by
      rw [ht, Rat.intCast_mul, Rat.intCast_mul, Rat.intCast_neg, Rat.intCast_add, show ((524288 : Int) : Rat) = 524288 from rfl, show ((1 : Int) : Rat) = 1 from rfl]; (first | (clear h hM h1 h2 hd hMr hM0 s1 s2 w2 w1 hX x1 x2 f1 f2 ht hi hlt; grind) | grind)
    have h5 := ex_hi2 hd (q := -(q + 1)) (by rw [e]; (first | (clear h hM h1 h2 hd hMr hM0 s2 w2 w1 hX x1 x2 f1 f2 ht hi e; grind) | grind))
    have h6 := ex_neg hd (524288 * (q + 1))
    rw [show -(524288 * (q + 1)) = 524288 * -(q + 1) by (first | (clear h hM h1 h2 hd hMr hM0 s1 s2 w2 w1 hX x1 x2 f1 f2 ht hi hlt e h5 h6; omega) | omega)] at h6
    have h7 := rmul (show (0 : Rat) ≤ 16666 / 100000 by first | with_reducible assumption | with_reducible exact Rat.le_of_lt (by assumption) | decide +kernel | with_reducible exact qr1 (by assumption) | with_reducible exact qr2 (by assumption) | with_reducible exact qr3 (by assumption) | with_reducible exact qr4 (by assumption) | with_reducible exact qr5 (by assumption) | with_reducible exact qr6 (by assumption) | with_reducible exact qr7 (by assumption) | with_reducible exact qr8 (by assumption) | with_reducible exact qr9 (by assumption) | grind) (Rat.le_of_lt (ex_pos hd (524288 * -(q + 1)))) (show 16666 / 100000 ≤ ex d (524288 * (q + 1)) by (first | (clear h hM h1 h2 hd hMr hM0 s1 s2 w2 w1 hX x2 f1 ht hi hlt e h5 h6; grind) | grind)) (Rat.le_refl (a := ex d (524288 * -(q + 1))))
    (first | (clear h hM h1 h2 hd hMr hM0 s1 s2 w2 w1 hX x1 x2 f1 f2 ht hi hlt e; grind) | grind)
  have hE : ex d (524288 * (q + 1)) ≤ ex d (524288 * q) * (1 + 18 / 10 * (524288 * d)) := by
    have e : (524288 : Int) * (q + 1) = 524288 * q + 524288 := by (first | (clear h hM h1 h2 hd hMr hM0 s1 s2 w2 w1 hX x1 x2 f1 f2 ht hi lo; omega) | omega)
    rw [e, ex_add hd]
    have h3 := ex_lin hd (Z := 524288) (by rw [show ((524288 : Nat) : Rat) = 524288 from rfl]; (first | (clear h hM h1 h2 hd hMr hM0 s2 w2 w1 hX x1 x2 f1 f2 ht hi lo e; grind) | grind))
    rw [show ((524288 : Nat) : Rat) = 524288 from rfl, show ((524288 : Nat) : Int) = 524288 from rfl] at h3
    exact Rat.mul_le_mul_of_nonneg_left h3 (Rat.le_of_lt (ex_pos hd _))
  have hp := ex_pos hd (524288 * q)
  have u1 : (M : Rat) * ex d (qk q 0) ≤ (w : Rat) := by
    rw [qk0, ← hX]; exact Rat.mul_le_mul_of_nonneg_left f1 (Rat.le_of_lt hM0)
  have u2 : (w : Rat) ≤ ((M : Rat) + 1 / 1000) * ex d (qk q 0) := by
    rw [qk0, ← hX]
    have h3 := Rat.mul_le_mul_of_nonneg_left (show X ≤ ex d (524288 * q) * (1 + 18 / 10 * (524288 * d)) by (first | (clear h hM h1 h2 hd hMr hM0 s1 s2 w2 w1 hX x1 x2 f1 ht hi lo hp u1; grind) | grind)) (Rat.le_of_lt hM0)
    have h4 := Rat.mul_le_mul_of_nonneg_right s2 (Rat.le_of_lt hp)
    (first | (clear h hM h1 h2 hd hMr hM0 s1 s2 w2 w1 hX x1 x2 f1 f2 ht hi lo hE u1; grind) | grind)
  by_cases hq : 0 ≤ q
  · exact ⟨q, t, t, ⟨hd, ht, by (first | (clear h hM h1 h2 hd hMr hM0 s1 s2 w2 w1 hX x1 x2 f1 f2 ht hi hE hp u1 u2 hq; grind) | grind), by (first | (clear h hM h1 h2 hd hMr hM0 s1 s2 w2 w1 hX x1 x2 f1 f2 ht lo hE hp u1 u2 hq; grind) | grind), .inl ⟨hq, rfl⟩⟩, lo, hi, u1, u2⟩
  · exact ⟨q, t, -t, ⟨hd, ht, by (first | (clear h hM h1 h2 hd hMr hM0 s1 s2 w2 w1 hX x1 x2 f1 f2 ht hi hE hp u1 u2 hq; grind) | grind), by (first | (clear h hM h1 h2 hd hMr hM0 s1 s2 w2 w1 hX x1 x2 f1 f2 ht lo hE hp u1 u2 hq; grind) | grind), .inr ⟨by (first | (clear h hM h1 h2 hd hMr hM0 s1 s2 w2 w1 hX x1 x2 f1 f2 ht hi lo hE hp u1 u2; omega) | omega), rfl⟩⟩, lo, hi, u1, u2⟩
theorem Rg.sg {d t tt : Rat} {Q : Int} (h : Rg d t tt Q) : (0 ≤ t ∧ tt = t) ∨ (t ≤ 0 ∧ tt = -t) := by
  have h0 := h.tt0.1
  rcases h.abs with ⟨a, b⟩ | ⟨a, b⟩
  · exact .inl ⟨by (first | (clear h a; grind) | grind), b⟩
  · exact .inr ⟨by (first | (clear h a; grind) | grind), b⟩
theorem tt_near {d t tt t' tt' e : Rat} {Q Q' : Int} (h : Rg d t tt Q) (h' : Rg d t' tt' Q') (he : Wi (t' - t) e) : tt ≤ tt' + e := by
  obtain ⟨e1, e2⟩ := he
  rcases h.sg with ⟨a, b⟩ | ⟨a, b⟩ <;> rcases h'.sg with ⟨a', b'⟩ | ⟨a', b'⟩ <;> (first | (clear h h' a; grind) | grind)
theorem fin2 {a sh st tt b : Rat} (h1 : a ≤ 500001 / 1000000 + 3 / 4 * tt) (h2 : a ≤ 6532 / 10000 + 48 / 1000 * tt) (htt : 0 ≤ tt) (hb : 1200000 + 1600000 * tt + 1000000 * (sh + st) ≤ b) : 1000000 * (st + sh + a + 1375 / 1000 * tt + 5672 / 10000) ≤ b := by
  by_cases h : tt ≤ 1 / 5 <;> (first | (clear htt; grind) | grind)
/-- the last comparison -/
theorem fin3 {m w E r T B z dl A : Rat} (hm : 1000000 ≤ m) (hE : 0 < E) (hw1 : m * E ≤ w) (hw2 : w ≤ (m + 1 / 1000) * E) (hr1 : 1 + z ≤ r) (hr2 : r ≤ 1 + z + z * z) (hz : Wi (m * z) dl) (hdl : dl ≤ 52) (hT0 : 0 ≤ T) (hT : T ≤ 14)
    (hA : Wi (A - m * (E * r)) (T * (E * r))) (hB : dl + T + 5 / 1000 ≤ B) : Wi (m * (A - w)) (w * B) := by
  have hm0 : 0 < m := by (first | (clear hE hw1 hw2 hr1 hr2 hz hdl hT0 hT hA hB; grind) | grind)
  have hdl0 := hz.nonneg
  obtain ⟨z1, z2⟩ := hz
  obtain ⟨A1, A2⟩ := hA
  have hz52 : Wi z (52 / 1000000) := by
    constructor
    · refine div_le' hm0 (by (first | (clear hE hw1 hw2 hr1 hr2 hT0 hT hB hm0 hdl0 z2 A1 A2; grind) | grind))
    · refine div_le' hm0 (by (first | (clear hE hw1 hw2 hr1 hr2 hT0 hT hB hm0 hdl0 z1 A1 A2; grind) | grind))
  obtain ⟨z3, z4⟩ := hz52
  have hzz : m * (z * z) ≤ 3 / 1000 := by
    have h1 : Wi (m * z * z) (52 * (52 / 1000000)) := (show Wi (m * z) 52 from ⟨by (first | (clear hm hE hw1 hw2 hr1 hr2 hT0 hT hB hm0 hdl0 z2 A1 A2 z3 z4; grind) | grind), by (first | (clear hm hE hw1 hw2 hr1 hr2 hT0 hT hB hm0 hdl0 z1 A1 A2 z3 z4; grind) | grind)⟩).mul ⟨z3, z4⟩
    have := h1.2
    (first | (clear hm hE hw1 hw2 hr1 hr2 hdl hT0 hT hB hm0 hdl0 z1 z2 A1 A2 z3 z4 h1; grind) | grind)
  have hmr : Wi (m * (r - 1)) (dl + 3 / 1000) := by
    have h1 := Rat.mul_le_mul_of_nonneg_left hr1 (Rat.le_of_lt hm0)
    have h2 := Rat.mul_le_mul_of_nonneg_left hr2 (Rat.le_of_lt hm0)
    constructor <;> (first | (clear hm hE hw1 hw2 hr1 hr2 hdl hT0 hT hB hm0 hdl0 A1 A2 z3 z4; grind) | grind)
  have hr3 : r ≤ 1 + 6 / 100000 := by
    have : z * z ≤ 1 / 1000000 := by
      have h1 : Wi (z * z) (52 / 1000000 * (52 / 1000000)) := (show Wi z (52 / 1000000) from ⟨z3, z4⟩).mul ⟨z3, z4⟩
      have := h1.2
      (first | (clear hm hE hw1 hw2 hr1 hr2 hdl hT0 hT hB hm0 hdl0 z1 z2 A1 A2 z3 z4 hzz hmr h1; grind) | grind)
    (first | (clear hm hE hw1 hw2 hr1 hdl hT0 hT hB hm0 hdl0 z1 z2 A1 A2 z3 hzz hmr; grind) | grind)
  have hTr : T * r ≤ T + 1 / 1000 := by
    have h1 := Rat.mul_le_mul_of_nonneg_left hr3 hT0
    (first | (clear hm hE hw1 hw2 hr1 hr2 hdl hT0 hB hm0 hdl0 z1 z2 A1 A2 z3 z4 hzz hmr hr3; grind) | grind)
  obtain ⟨m1, m2⟩ := hmr
  have hB0 : 0 ≤ B := by (first | (clear hm hE hw1 hw2 hr1 hr2 hdl hT hm0 z1 z2 A1 A2 z3 z4 hzz hr3 hTr m1 m2; grind) | grind)
  have k1 : A - w ≤ E * B := by
    have h1 := Rat.mul_le_mul_of_nonneg_left (show m * (r - 1) + T * r ≤ B by (first | (clear hm hE hw1 hw2 hr1 hr2 hdl hT0 hT hm0 hdl0 z1 z2 A1 A2 z3 z4 hzz hr3 m1 hB0; grind) | grind)) (Rat.le_of_lt hE)
    (first | (clear hm hE hw2 hr1 hr2 hdl hT0 hT hB hm0 hdl0 z1 z2 A1 z3 z4 hzz hr3 hTr m1 m2 hB0; grind) | grind)
  have k2 : w - A ≤ E * B := by
    have h1 := Rat.mul_le_mul_of_nonneg_left (show -(m * (r - 1)) + T * r + 1 / 1000 ≤ B by (first | (clear hm hE hw1 hw2 hr1 hr2 hdl hT0 hT hm0 hdl0 z1 z2 A1 A2 z3 z4 hzz hr3 m2 hB0 k1; grind) | grind)) (Rat.le_of_lt hE)
    (first | (clear hm hE hw1 hr1 hr2 hdl hT0 hT hB hm0 hdl0 z1 z2 A2 z3 z4 hzz hr3 hTr m1 m2 hB0 k1; grind) | grind)
  have k3 := Rat.mul_le_mul_of_nonneg_right hw1 hB0
  have k4 := Rat.mul_le_mul_of_nonneg_left k1 (Rat.le_of_lt hm0)
  have k5 := Rat.mul_le_mul_of_nonneg_left k2 (Rat.le_of_lt hm0)
  constructor <;> (first | (clear hm hE hw1 hw2 hr1 hr2 hdl hT0 hT hB hm0 hdl0 z1 z2 A1 A2 z3 z4 hzz hr3 hTr m1 m2 hB0 k1 k2; grind) | grind)

/-! law 12: back and there, joined -/
theorem natAbs_wi {a : Int} {b : Rat} (h : Wi (a : Rat) b) : ((a.natAbs : Int) : Rat) ≤ b := by
  obtain ⟨u1, u2⟩ := h
  rcases Int.le_total 0 a with hh | hh
  · have e : ((a.natAbs : Int)) = a := by (first | (clear u1 u2; omega) | omega)
    rw [e]; exact u2
  · have e : ((a.natAbs : Int)) = -a := by (first | (clear u1 u2; omega) | omega)
    rw [e, Rat.intCast_neg]; (first | (clear u2 hh e; grind) | grind)
theorem lg_range {m t lg : Rat} (hm : 1000000 ≤ m) (h : Wi (lg - m * t) 52) (lo : -19 / 10 ≤ t) (hi : t ≤ 399 / 100) : -(2 * m) ≤ lg ∧ lg ≤ 4 * m := by
  obtain ⟨a, b⟩ := h
  have h1 := Rat.mul_le_mul_of_nonneg_left lo (show 0 ≤ m by first | with_reducible assumption | with_reducible exact Rat.le_of_lt (by assumption) | decide +kernel | with_reducible exact qr1 (by assumption) | with_reducible exact qr2 (by assumption) | with_reducible exact qr3 (by assumption) | with_reducible exact qr4 (by assumption) | with_reducible exact qr5 (by assumption) | with_reducible exact qr6 (by assumption) | with_reducible exact qr7 (by assumption) | with_reducible exact qr8 (by assumption) | with_reducible exact qr9 (by assumption) | grind)
  have h2 := Rat.mul_le_mul_of_nonneg_left hi (show 0 ≤ m by first | with_reducible assumption | with_reducible exact Rat.le_of_lt (by assumption) | decide +kernel | with_reducible exact qr1 (by assumption) | with_reducible exact qr2 (by assumption) | with_reducible exact qr3 (by assumption) | with_reducible exact qr4 (by assumption) | with_reducible exact qr5 (by assumption) | with_reducible exact qr6 (by assumption) | with_reducible exact qr7 (by assumption) | with_reducible exact qr8 (by assumption) | with_reducible exact qr9 (by assumption) | grind)
  constructor <;> (first | (clear lo hi; grind) | grind)
theorem l0_w {m w E : Rat} (h1 : m * E ≤ w) (h2 : w ≤ (m + 1 / 1000) * E) (hE : 0 < E) : Wi (w - m * E) (1 / 1000 * E) := by
  constructor <;> (first | (clear hE; grind) | grind)
theorem claim2 {w M L K : Int} (hM : 10 ^ 6 ≤ M) (hM' : M < 10 ^ 13) (hL : 3 ≤ L) (hL2 : L ≤ 10) (hK : 3 ≤ K) (hK' : K ≤ 10) (hw1 : M - 6 ≤ 6 * w) (hw2 : 6 * w ≤ 301 * M) :
    -(2 * M) ≤ ilog w M K ∧ ilog w M K ≤ 4 * M ∧ 10 ^ 6 * M * ((iexp (ilog w M K) M L - w).natAbs : Int) ≤ w * bnd12 (ilog w M K) M L K := by
  have hM0 : 0 < M := by first | with_reducible assumption | with_reducible exact Int.le_of_lt (by assumption) | with_reducible exact Nat.le_of_lt (by assumption) | with_reducible exact qz1 (by assumption) | with_reducible exact qz2 (by assumption) | with_reducible exact qz3 (by assumption) | with_reducible exact qz4 (by assumption) | with_reducible exact qz5 (by assumption) | with_reducible exact qz6 (by assumption) | with_reducible exact qz7 (by assumption) | with_reducible exact qz8 (by assumption) | with_reducible exact qz9 (by assumption) | with_reducible exact qza (by assumption) | with_reducible exact qzb (by assumption) | with_reducible exact qzc | with_reducible exact qzd | with_reducible exact qze | omega
  have hMr : (1000000 : Rat) ≤ (M : Rat) := icast_le hM
  have hMp : (0 : Rat) < (M : Rat) := by (first | (clear hM hM' hL hL2 hK hK' hw1 hw2 hM0; grind) | grind)
  obtain ⟨d, W, h⟩ := S10_ex hM0
  have hd := h.hd
  obtain ⟨q, t, tt, hg, lo, hi, u1, u2⟩ := ref_w h hM hw1 hw2
  have hE := ex_pos hd (qk q 0)
  have hX := l0_w u1 u2 hE
  have z0 : (0 : Rat) ≤ 1 / 1000 := by (first | (clear hM hM' hL hL2 hK hK' hw1 hw2 hM0 hMr hMp h hd hg lo hi u1 u2 hE hX; grind) | grind)
  have z14 : (1 / 1000 : Rat) ≤ 14 := by (first | (clear hM hM' hL hL2 hK hK' hw1 hw2 hM0 hMr hMp h hd hg lo hi u1 u2 hE hX z0; grind) | grind)
  obtain ⟨htt0, htt4, -⟩ := hg.tt0
  obtain ⟨i1, i2, i3⟩ := ilog_core h hg hM hM' hK hK' z0 z14 hX (Nat.le_refl 14) (stop14 hg hM hK hK' z0 z14 hX)
  have i52 : Wi ((ilog w M K : Rat) - (M : Rat) * t) 52 := i2.le (by (first | (clear hM hM' hL hL2 hK hK' hw1 hw2 hM0 hMr hMp h hd hg lo hi u1 u2 hE hX z0 z14 htt0 i1 i2; grind) | grind))
  obtain ⟨lr1, lr2⟩ := lg_range hMr i52 lo hi
  have g1 : -(2 * M) ≤ ilog w M K := Rat.intCast_le_intCast.mp (by rw [Rat.intCast_neg, Rat.intCast_mul]; exact lr1)
  have g2 : ilog w M K ≤ 4 * M := Rat.intCast_le_intCast.mp (by rw [Rat.intCast_mul]; exact lr2)
  refine ⟨g1, g2, ?_⟩
  have hR14 := i1
  generalize ilog w M K = lg at *
  obtain ⟨t', tt', hg'⟩ := rg_of h hM0 g1 g2
  obtain ⟨hmt, hmtt⟩ := h.mt hM0 hg'
  obtain ⟨htt0', htt4', -⟩ := hg'.tt0
  have hz : (M : Rat) * (t' - t) = (lg : Rat) - (M : Rat) * t := by rw [← hmt]; (first | (clear hM hM' hL hL2 hK hK' hw1 hw2 hM0 hMr hMp h hd hg lo hi u1 u2 hE hX z0 z14 htt0 htt4 i1 i3 hR14 i2 i52 lr1 lr2 g1 g2 hg' hmt hmtt htt0' htt4'; grind) | grind)
  have ht52 : Wi (t' - t) (52 / 1000000) := by
    obtain ⟨a, b⟩ := i52
    rw [← hz] at a b
    constructor
    · exact div_le' hMp (by (first | (clear hM hM' hL hL2 hK hK' hw1 hw2 hM0 hMp h hd hg lo hi u1 u2 hE hX z0 z14 htt0 htt4 i1 i3 hR14 i2 lr1 lr2 g1 g2 hg' hmtt htt0' htt4' hz b; grind) | grind))
    · exact div_le' hMp (by (first | (clear hM hM' hL hL2 hK hK' hw1 hw2 hM0 hMp h hd hg lo hi u1 u2 hE hX z0 z14 htt0 htt4 i1 i3 hR14 i2 lr1 lr2 g1 g2 hg' hmtt htt0' htt4' hz a; grind) | grind))
  have htt := tt_near hg hg' ht52
  have hxn : (lg.natAbs : Int) ≤ 4 * M := by (first | (clear hM hM' hL hL2 hK hK' hw1 hw2 hM0 hMr hMp h hd hg lo hi u1 u2 hE hX z0 z14 htt0 htt4 i1 i3 hR14 i2 i52 lr1 lr2 hg' hmt hmtt htt0' htt4' hz ht52 htt; omega) | omega)
  have hH : t10 lg M K + 1 ≤ 14 := by have := t10_le (x := lg) (L := K) hM0 (by (first | (clear hL hL2 hK hK' hw1 hw2 hM0 hMr hMp h hd hg lo hi u1 u2 hE hX z0 z14 htt0 htt4 i1 i3 hR14 i2 i52 lr1 lr2 g1 g2 hg' hmt hmtt htt0' htt4' hz ht52 htt; omega) | omega)) hK'; (first | (clear hM hM' hL hL2 hK hK' hw1 hw2 hM0 hMr hMp h hd hg lo hi u1 u2 hE hX z0 z14 htt0 htt4 i1 i3 hR14 i2 i52 lr1 lr2 g1 g2 hg' hmt hmtt htt0' htt4' hz ht52 htt hxn; omega) | omega)
  have st := stop_at hg hM hK hK' z0 z14 hX (x := lg) (by
    rw [hmtt]
    have hz2 : Wi ((M : Rat) * (t' - t)) 52 := by rw [hz]; exact i52
    obtain ⟨a, b⟩ := hz2
    rcases hg.sg with ⟨p1, p2⟩ | ⟨p1, p2⟩ <;> rcases hg'.sg with ⟨p3, p4⟩ | ⟨p3, p4⟩ <;> rw [p2, p4]
    · (first | (clear hM hM' hL hL2 hK hK' hw1 hw2 hM0 hMr hMp h hd hg lo hi u1 u2 hE hX z0 z14 htt0 htt4 i1 i3 hR14 i2 i52 lr1 lr2 g1 g2 hg' hmt hmtt htt0' htt4' hz ht52 htt hxn hH b p1 p2 p3 p4; grind) | grind)
    · have := Rat.mul_nonneg (Rat.le_of_lt hMp) (show 0 ≤ -t' by first | with_reducible assumption | with_reducible exact Rat.le_of_lt (by assumption) | decide +kernel | with_reducible exact qr1 (by assumption) | with_reducible exact qr2 (by assumption) | with_reducible exact qr3 (by assumption) | with_reducible exact qr4 (by assumption) | with_reducible exact qr5 (by assumption) | with_reducible exact qr6 (by assumption) | with_reducible exact qr7 (by assumption) | with_reducible exact qr8 (by assumption) | with_reducible exact qr9 (by assumption) | grind)
      (first | (clear hM hM' hL hL2 hK hK' hw1 hw2 hM0 hMr hMp h hd hg lo hi u1 u2 hE hX z0 z14 htt0 htt4 i1 i3 hR14 i2 i52 lr1 lr2 g1 g2 hg' hmtt htt0' htt4' hz ht52 htt hxn hH b p1 p2 p3 p4; grind) | grind)
    · have := Rat.mul_nonneg (Rat.le_of_lt hMp) p3
      (first | (clear hM hM' hL hL2 hK hK' hw1 hw2 hM0 hMr hMp h hd hg lo hi u1 u2 hE hX z0 z14 htt0 htt4 i1 i3 hR14 i2 i52 lr1 lr2 g1 g2 hg' hmtt htt0' htt4' hz ht52 htt hxn hH a p1 p2 p3 p4; grind) | grind)
    · (first | (clear hM hM' hL hL2 hK hK' hw1 hw2 hM0 hMr hMp h hd hg lo hi u1 u2 hE hX z0 z14 htt0 htt4 i1 i3 hR14 i2 i52 lr1 lr2 g1 g2 hg' hmt hmtt htt0' htt4' hz ht52 htt hxn hH a p1 p2 p3 p4; grind) | grind)) hH
  obtain ⟨-, hRH, -⟩ := iR_facts hH st
  obtain ⟨a, a0, a1, a2, r1, r2, wv⟩ := iexp12 h hM hM' hL hL2 hg'
  have hsH := sH_le14 hg' (Nat.le_trans r1 r2)
  have hsH0 := sH_nonneg hd (W * lg) (nR lg M L)
  have hb := bnd12_ge h hM0 hxn htt0' hmtt hL2 hK' r1 hRH
  have hsT := sT_near hg hg' ht52 (by (first | (clear hM hM' hL hL2 hK hK' hw1 hw2 hM0 hMr hMp h hd hg lo hi u1 u2 hE hX z0 z14 htt0 htt4 i1 i3 hR14 i2 i52 lr1 lr2 g1 g2 hg' hmt hmtt htt0' htt4' hz ht52 hxn hH st hRH a0 a1 a2 r1 r2 wv hsH hsH0 hb; grind) | grind)) (iR M w K) hR14
  have hRr : (iR M w K : Rat) ≤ 14 := ncast_le hR14
  have hf := fin2 a1 a2 htt0' hb
  have hD := qk_rat hg (show 0 ≤ 14 by decide)
  have hD' := qk_rat hg' (show 0 ≤ 14 by decide)
  rw [Rat.pow_zero] at hD hD'
  have hzq : t' - t = ((qk (W * lg) 0 - qk q 0 : Int) : Rat) * d := by rw [Rat.intCast_sub]; (first | (clear hM hM' hL hL2 hK hK' hw1 hw2 hM0 hMr hMp h hd hg lo hi u1 u2 hE hX z0 z14 htt0 htt4 i1 i3 hR14 i2 i52 lr1 lr2 g1 g2 hg' hmt hmtt htt0' htt4' hz ht52 htt hxn hH st hRH a0 a1 a2 r1 r2 wv hsH hsH0 hb hsT hRr hf; grind) | grind)
  obtain ⟨e1, e2⟩ := ex_quad hd hzq (by have := ht52.2; (first | (clear hM hM' hL hL2 hK hK' hw1 hw2 hM0 hMr hMp h hd hg lo hi u1 u2 hE hX z0 z14 htt0 htt4 i1 i3 hR14 i2 i52 lr1 lr2 g1 g2 hg' hmt hmtt htt0' htt4' hz ht52 htt hxn hH st hRH a0 a1 a2 r1 r2 wv hsH hsH0 hb hsT hRr hf hD hD' hzq; grind) | grind))
  have eE : ex d (qk (W * lg) 0) = ex d (qk q 0) * ex d (qk (W * lg) 0 - qk q 0) := by rw [← ex_add hd]; congr 1; (first | (clear hM hM' hL hL2 hK hK' hw1 hw2 hM0 hMr hMp h hd hg lo hi u1 u2 hE hX z0 z14 htt0 htt4 i1 i3 hR14 i2 i52 lr1 lr2 g1 g2 hg' hmt hmtt htt0' htt4' hz ht52 htt hxn hH st hRH a0 a1 a2 r1 r2 wv hsH hsH0 hb hsT hRr hf hD hD' hzq e1 e2; omega) | omega)
  rw [eE] at wv
  have hz2 : Wi ((M : Rat) * (t' - t)) (1 / 1000 + sT d tt q (iR M w K) + 42 / 1000 + 1 / 2 + 1375 / 1000 * tt + 3 / 1000) := by rw [hz]; exact i2
  have hfin := fin3 (B := sT d tt' (W * lg) (iR M w K) + sH d (W * lg) (nR lg M L) + a + 1375 / 1000 * tt' + 5672 / 10000) hMr hE u1 u2 e1 e2 hz2 (by (first | (clear hM hM' hL hL2 hK hK' hw1 hw2 hM0 hMr hMp h hd hg lo hi u1 u2 hE hX z0 z14 htt0 i1 hR14 i2 i52 lr1 lr2 g1 g2 hg' hmt hmtt htt0' htt4' hz ht52 htt hxn hH st hRH a0 a1 a2 r1 r2 wv hsH hsH0 hb hsT hRr hf hD hD' hzq e1 e2 eE hz2; grind) | grind)) (T := a + sH d (W * lg) (nR lg M L) + 2 / 1000) (by (first | (clear hM hM' hL hL2 hK hK' hw1 hw2 hM0 hMr hMp h hd hg lo hi u1 u2 hE hX z0 z14 htt0 htt4 i1 i3 hR14 i2 i52 lr1 lr2 g1 g2 hg' hmt hmtt htt0' htt4' hz ht52 htt hxn hH st hRH a1 a2 r1 r2 wv hsH hb hsT hRr hf hD hD' hzq e1 e2 eE hz2; grind) | grind)) (by (first | (clear hM hM' hL hL2 hK hK' hw1 hw2 hM0 hMr hMp h hd hg lo hi u1 u2 hE hX z0 z14 htt0 htt4 i1 i3 hR14 i2 i52 lr1 lr2 g1 g2 hg' hmt hmtt htt0' hz ht52 htt hxn hH st hRH a0 a1 r1 r2 wv hsH0 hb hsT hRr hf hD hD' hzq e1 e2 eE hz2; grind) | grind)) wv (by (first | (clear hM hM' hL hL2 hK hK' hw1 hw2 hM0 hMr hMp h hd hg lo hi u1 u2 hE hX z0 z14 htt0 htt4 i1 i3 hR14 i2 i52 lr1 lr2 g1 g2 hg' hmt hmtt htt0' htt4' hz ht52 hxn hH st hRH a0 a1 a2 r1 r2 wv hsH hsH0 hb hf hD hD' hzq e1 e2 eE hz2; grind) | grind))
  generalize sT d tt' (W * lg) (iR M w K) + sH d (W * lg) (nR lg M L) + a + 1375 / 1000 * tt' + 5672 / 10000 = B at *
  have hw0 : (0 : Rat) ≤ (w : Rat) := icast_le (a := 0) (by (first | (clear hL hL2 hK hK' hw2 hM0 hMr hMp h hd hg lo hi u1 u2 hE hX z0 z14 htt0 htt4 i1 i3 hR14 i2 i52 lr1 lr2 g1 g2 hg' hmt hmtt htt0' htt4' hz ht52 htt hxn hH st hRH a0 a1 a2 r1 r2 wv hsH hsH0 hb hsT hRr hD hD' hzq e1 e2 eE hz2 hf hfin; omega) | omega))
  have hcast : ((M * (iexp lg M L - w) : Int) : Rat) = (M : Rat) * ((iexp lg M L : Rat) - (w : Rat)) := by rw [Rat.intCast_mul, Rat.intCast_sub]
  rw [← hcast] at hfin
  have hA := natAbs_wi hfin
  have eA : ((M * (iexp lg M L - w)).natAbs : Int) = M * ((iexp lg M L - w).natAbs : Int) := by
    rw [Int.natAbs_mul]
    have : (M.natAbs : Int) = M := by (first | (clear hL hL2 hK hK' hw1 hw2 hM0 hMr hMp h hd hg lo hi u1 u2 hE hX z0 z14 htt0 htt4 i1 i3 hR14 i2 i52 lr1 lr2 g1 g2 hg' hmt hmtt htt0' htt4' hz ht52 htt hxn hH st hRH a0 a1 a2 r1 r2 wv hsH hsH0 hb hsT hRr hD hD' hzq e1 e2 eE hz2 hf hfin hw0 hcast hA; omega) | omega)
    rw [Int.natCast_mul, this]
  rw [eA] at hA
  refine Rat.intCast_le_intCast.mp ?_
  rw [Int.mul_assoc, Rat.intCast_mul, show ((10 ^ 6 : Int) : Rat) = 1000000 from rfl, Rat.intCast_mul (a := w)]
  have h8 := Rat.mul_le_mul_of_nonneg_left hf hw0
  generalize ((M * ((iexp lg M L - w).natAbs : Int) : Int) : Rat) = y at *
  (first | (clear hM hM' hL hL2 hK hK' hw1 hw2 hM0 hMr hMp h hd hg lo hi u1 u2 hE hX z0 z14 htt0 htt4 i1 i3 hR14 i2 i52 lr1 lr2 g1 g2 hg' hmt hmtt htt0' htt4' hz ht52 htt hxn hH st hRH a0 a1 a2 r1 r2 wv hsH hsH0 hb hsT hRr hD hD' hzq e1 e2 eE hz2 hf hfin hw0 hcast eA; grind) | grind)

/-- with few doublings the sizes need no care -/
noncomputable def Cr (k : Nat) (y : Int) : Prop := y.natAbs + 2 ≤ 2 ^ (49 * 2 ^ k)
theorem cr_step {s y : Int} {k : Nat} (hs : 0 < s) (h : Cr k y) : Cr (k + 1) (divN (y * (y + s)) s) := by
  unfold Cr at *
  have h1 := divN_natAbs (a := y * (y + s)) hs
  have h2 : ((y * (y + s)).natAbs : Int) ≤ (y.natAbs : Int) * (y.natAbs + s) := mul_natAbs_le (Int.le_refl _) (by (first | (clear h h1; omega) | omega))
  have e : 49 * 2 ^ (k + 1) = 49 * 2 ^ k + 49 * 2 ^ k := by rw [Nat.pow_succ]; (first | (clear hs h h1 h2; omega) | omega)
  rw [e, Nat.pow_add]
  have h3 := Nat.mul_le_mul h h
  refine Nat.le_trans ?_ h3
  generalize divN (y * (y + s)) s = q at *
  generalize ((y * (y + s)).natAbs : Int) = c at *
  have h4 : (q.natAbs : Int) + 2 ≤ ((y.natAbs : Int) + 2) * (y.natAbs + 2) := by
    have hY : (0 : Int) ≤ y.natAbs := Int.natCast_nonneg _
    generalize (y.natAbs : Int) = Y at *
    generalize (q.natAbs : Int) = p at *
    have hYY := Int.mul_nonneg hY hY
    refine Int.not_lt.mp fun hlt => ?_
    have h5 : (Y * Y + 4 * Y + 3) * s ≤ p * s := Int.mul_le_mul_of_nonneg_right (by (first | (clear hs h e h3 h2 hY h1 hYY; grind) | grind)) (Int.le_of_lt hs)
    have h6 : Y * Y * 1 ≤ Y * Y * s := Int.mul_le_mul_of_nonneg_left hs hYY
    have h7 : 0 ≤ Y * s := Int.mul_nonneg hY (Int.le_of_lt hs)
    (first | (clear h e h3 hY hYY hlt; grind) | grind)
  exact_mod_cast h4
theorem cr_sz {k : Nat} {y : Int} (hk : k ≤ 13) (h : Cr k y) : y.natAbs < 2 ^ 410000 := by
  have h1 : 49 * 2 ^ k ≤ 49 * 2 ^ 13 := Nat.mul_le_mul_left _ (Nat.pow_le_pow_right (by decide) hk)
  have h2 : 2 ^ (49 * 2 ^ k) ≤ 2 ^ 410000 := Nat.pow_le_pow_right (by decide) (Nat.le_trans h1 (by decide))
  unfold Cr at h
  generalize 2 ^ (49 * 2 ^ k) = a at *
  generalize 2 ^ 410000 = b at *
  (first | (clear hk h1; omega) | omega)
theorem cr_first {x y : Int} (hx : x.natAbs < 2 ^ 47) (h : (y.natAbs : Int) ≤ 2 * x.natAbs + 1) : Cr 0 y := by
  unfold Cr
  rw [Nat.pow_zero, Nat.mul_one]
  omega
theorem dblE {R k : Nat} (hk : k < R) (hR : R ≤ 13) : ∃ n : Nat, R = n + 1 + k ∧ ((n + 1 + k : Nat) : Int) - 1 + (k : Int) * -1 + 2 = ((n + 2 : Nat) : Int) ∧ n + 1 + k - (k + 1) = n ∧ n + 2 ≤ 15 ∧ k ≤ 13 ∧ ((n + 2 : Nat) : Int) ≤ 1000 := ⟨R - k - 1, by omega⟩
theorem smR {R : Nat} (h : R ≤ 13) : -(2 ^ 60) ≤ (R : Int) - 1 ∧ (R : Int) - 1 ≤ 2 ^ 60 ∧ (-1 : Int) + (R : Int) = (R : Int) - 1 := by omega
theorem iexp_dbl3 {x L T : D} {M : Int} {R : Nat} {y : Int} {d6 d7 d8 : D} (hM : 0 < M) (sM : M.natAbs < 2 ^ 46) (hR' : R ≤ 13) (hy : Cr 0 y) :
    wpS GD s_iexp_2 [x, .int M, L, .int R, T, .int y, d6, d7, d8] (fun o _ => o = some (.int (M + dbl M R y))) := by
  have hc : cnt ((R : Int) - 1) (-1) (-1) = R := by
    have := cnt_down R (-1)
    rwa [(smR hR').2.2] at this
  refine forR_ok ((R : Int) - 1) (-1) (-1) ?_ (by decide) (by decide) (small_gen (smR hR').1 (smR hR').2.1 (by decide) (by decide) (by decide) (by decide))
    (fun k ρ => ∃ y' d6 d8, ρ = [x, .int M, L, .int R, T, .int y', d6, d7, d8] ∧ dbl M (R - k) y' = dbl M R y ∧ Cr k y') ⟨y, d6, d8, rfl, rfl, hy⟩ ?_ ?_
  · simp only [wlit, wbo, wvar, wbin, wneg, wnot, wcmp, wcmp2, wall, wany, wite, wcall, wbi, wisI, wisB, wlst, wtup, wslc, wand, wor, wnil, wcons, snil, sopq, srais, sret, sset, sset2, saug, site, Mine.get, binW_c_Add, binW_c_Sub, binW_c_Mult, binW_c_FloorDiv, binW_c_Mod, binW_c_Pow, binW_c_LShift, binW_c_RShift, binW_c_BitAnd, cmpW_c_Eq, cmpW_c_NotEq, cmpW_c_Lt, cmpW_c_LtE, cmpW_c_Gt, cmpW_c_GtE, biW_c_abs, biW_c_max, biW_c_int, biW_c_len, biW_c_str, biW_c_divmod, biW_c_list, biW_c_nbits, truth_c_undef, truth_c_none, truth_c_int, truth_c_bool, truth_c_str, truth_c_list, truth_c_tup, truth_c_obj, isBP, isIP, intP_c_undef, intP_c_none, intP_c_int, intP_c_bool, intP_c_str, intP_c_list, intP_c_tup, intP_c_obj, Mine.ii, ibP_c_undef, ibP_c_none, ibP_c_int, ibP_c_bool, ibP_c_str, ibP_c_list, ibP_c_tup, ibP_c_obj, ilP_c_undef, ilP_c_none, ilP_c_int, ilP_c_bool, ilP_c_str, ilP_c_list, ilP_c_tup, ilP_c_obj, slP_c_undef, slP_c_none, slP_c_int, slP_c_bool, slP_c_str, slP_c_list, slP_c_tup, slP_c_obj, tlP_c_undef, tlP_c_none, tlP_c_int, tlP_c_bool, tlP_c_str, tlP_c_list, tlP_c_tup, tlP_c_obj, lP_c_undef, lP_c_none, lP_c_int, lP_c_bool, lP_c_str, lP_c_list, lP_c_tup, lP_c_obj, tP_c_undef, tP_c_none, tP_c_int, tP_c_bool, tP_c_str, tP_c_list, tP_c_tup, tP_c_obj, Mine.l1, Mine.l2, Mine.l3, t2P, t3P, augW_c_Add, augW_c_Sub, augW_c_Mult, augW_c_FloorDiv, Mine.onN, cutP, partP, E.isNil, List.isEmpty_nil, List.isEmpty_cons, List.set, ne_eq, reduceCtorEq, not_false_eq_true, true_and, and_true, if_true, if_false, Bool.false_eq_true, Option.some.injEq, exists_eq_left', Bool.not_true, Bool.not_false]
    simp
  · rintro k ρ hk ⟨y', d6, d8, rfl, he, hb⟩
    rw [hc] at hk
    clear hc
    obtain ⟨n, rfl, e1, e2, hn, hk13, hn1000⟩ := dblE hk hR'
    rw [Nat.add_sub_cancel] at he
    have hM3 : 0 < M * 2 ^ (n + 2) := Int.mul_pos hM (p2pos _)
    have s0 := szp2 (k := 15) (bigger 46 300 sM) hn
    have hsm := cr_sz hk13 hb
    have s1 : Sm y' := .of 410000 hsm
    have s2 : Sm (y' + M * 2 ^ (n + 2)) := .of 410001 (add_sz (n := 410000) rfl hsm (bigger 315 410000 s0))
    unfold s_iexp_2b
    simp only [wlit, wbo, wvar, wbin, wneg, wnot, wcmp, wcmp2, wall, wany, wite, wcall, wbi, wisI, wisB, wlst, wtup, wslc, wand, wor, wnil, wcons, snil, sopq, srais, sret, sset, sset2, saug, site, Mine.get, binW_c_Add, binW_c_Sub, binW_c_Mult, binW_c_FloorDiv, binW_c_Mod, binW_c_Pow, binW_c_LShift, binW_c_RShift, binW_c_BitAnd, cmpW_c_Eq, cmpW_c_NotEq, cmpW_c_Lt, cmpW_c_LtE, cmpW_c_Gt, cmpW_c_GtE, biW_c_abs, biW_c_max, biW_c_int, biW_c_len, biW_c_str, biW_c_divmod, biW_c_list, biW_c_nbits, truth_c_undef, truth_c_none, truth_c_int, truth_c_bool, truth_c_str, truth_c_list, truth_c_tup, truth_c_obj, isBP, isIP, intP_c_undef, intP_c_none, intP_c_int, intP_c_bool, intP_c_str, intP_c_list, intP_c_tup, intP_c_obj, Mine.ii, ibP_c_undef, ibP_c_none, ibP_c_int, ibP_c_bool, ibP_c_str, ibP_c_list, ibP_c_tup, ibP_c_obj, ilP_c_undef, ilP_c_none, ilP_c_int, ilP_c_bool, ilP_c_str, ilP_c_list, ilP_c_tup, ilP_c_obj, slP_c_undef, slP_c_none, slP_c_int, slP_c_bool, slP_c_str, slP_c_list, slP_c_tup, slP_c_obj, tlP_c_undef, tlP_c_none, tlP_c_int, tlP_c_bool, tlP_c_str, tlP_c_list, tlP_c_tup, tlP_c_obj, lP_c_undef, lP_c_none, lP_c_int, lP_c_bool, lP_c_str, lP_c_list, lP_c_tup, lP_c_obj, tP_c_undef, tP_c_none, tP_c_int, tP_c_bool, tP_c_str, tP_c_list, tP_c_tup, tP_c_obj, Mine.l1, Mine.l2, Mine.l3, t2P, t3P, augW_c_Add, augW_c_Sub, augW_c_Mult, augW_c_FloorDiv, Mine.onN, cutP, partP, E.isNil, List.isEmpty_nil, List.isEmpty_cons, List.set, ne_eq, reduceCtorEq, not_false_eq_true, true_and, and_true, if_true, if_false, Bool.false_eq_true, Option.some.injEq, exists_eq_left', Bool.not_true, Bool.not_false]
    rw [e1, Int.toNat_natCast]
    refine ⟨Int.natCast_nonneg _, bits_add sM (by decide) hn1000, s1.mul s2, _, .div _ _ hM3 (lg 315 s0), ?_⟩
    rw [e2]
    exact ⟨_, _, _, rfl, he, cr_step hM3 hb⟩
  · rintro ρ ⟨y', d6, d8, rfl, he, _⟩
    rw [hc, Nat.sub_self] at he
    unfold s_iexp_2r
    simp only [wlit, wbo, wvar, wbin, wneg, wnot, wcmp, wcmp2, wall, wany, wite, wcall, wbi, wisI, wisB, wlst, wtup, wslc, wand, wor, wnil, wcons, snil, sopq, srais, sret, sset, sset2, saug, site, Mine.get, binW_c_Add, binW_c_Sub, binW_c_Mult, binW_c_FloorDiv, binW_c_Mod, binW_c_Pow, binW_c_LShift, binW_c_RShift, binW_c_BitAnd, cmpW_c_Eq, cmpW_c_NotEq, cmpW_c_Lt, cmpW_c_LtE, cmpW_c_Gt, cmpW_c_GtE, biW_c_abs, biW_c_max, biW_c_int, biW_c_len, biW_c_str, biW_c_divmod, biW_c_list, biW_c_nbits, truth_c_undef, truth_c_none, truth_c_int, truth_c_bool, truth_c_str, truth_c_list, truth_c_tup, truth_c_obj, isBP, isIP, intP_c_undef, intP_c_none, intP_c_int, intP_c_bool, intP_c_str, intP_c_list, intP_c_tup, intP_c_obj, Mine.ii, ibP_c_undef, ibP_c_none, ibP_c_int, ibP_c_bool, ibP_c_str, ibP_c_list, ibP_c_tup, ibP_c_obj, ilP_c_undef, ilP_c_none, ilP_c_int, ilP_c_bool, ilP_c_str, ilP_c_list, ilP_c_tup, ilP_c_obj, slP_c_undef, slP_c_none, slP_c_int, slP_c_bool, slP_c_str, slP_c_list, slP_c_tup, slP_c_obj, tlP_c_undef, tlP_c_none, tlP_c_int, tlP_c_bool, tlP_c_str, tlP_c_list, tlP_c_tup, tlP_c_obj, lP_c_undef, lP_c_none, lP_c_int, lP_c_bool, lP_c_str, lP_c_list, lP_c_tup, lP_c_obj, tP_c_undef, tP_c_none, tP_c_int, tP_c_bool, tP_c_str, tP_c_list, tP_c_tup, tP_c_obj, Mine.l1, Mine.l2, Mine.l3, t2P, t3P, augW_c_Add, augW_c_Sub, augW_c_Mult, augW_c_FloorDiv, Mine.onN, cutP, partP, E.isNil, List.isEmpty_nil, List.isEmpty_cons, List.set, ne_eq, reduceCtorEq, not_false_eq_true, true_and, and_true, if_true, if_false, Bool.false_eq_true, Option.some.injEq, exists_eq_left', Bool.not_true, Bool.not_false]
    rw [← he]; rfl
theorem pos_nat {T : Int} (h : 1 ≤ T) : ∃ n : Nat, T = n + 1 := ⟨(T - 1).toNat, by omega⟩
theorem T57 {T : Int} {n : Nat} (h : T = n + 1) (h4 : T ≤ 57) : (T - 1).toNat = n ∧ n ≤ 1000 ∧ T.natAbs < 2 ^ 10 ∧ -(2 ^ 60) ≤ T - 1 ∧ T - 1 ≤ 2 ^ 60 ∧ (0 : Int) + (n : Int) = T - 1 := by omega
theorem L64 {L : Int} (hL : 1 ≤ L) (hL' : L ≤ 64) : (3 * L).natAbs < 2 ^ 10 ∧ 3 * L ≠ 0 ∧ 0 ≤ L ∧ L ≤ 1000 := by omega
theorem M46 {M : Int} (hM : 0 < M) (sM : M.natAbs < 2 ^ 46) : M < 10 ^ 14 ∧ M.natAbs ≠ 0 := by omega
theorem f60 {f : Nat} (h : f ≤ 14) : f < 2 ^ 60 := by omega
/-- the count of rows, and what is small about it -/
theorem T_facts {M L : Int} (hM : 0 < M) (hL : 1 ≤ L) (hL' : L ≤ 64) (sM : M.natAbs < 2 ^ 46) : ∃ n : Nat, nT M L = n + 1 ∧ (nT M L - 1).toNat = n ∧ n ≤ 1000 ∧ (nT M L).natAbs.log2 < 9000 ∧ (3 * L).natAbs.log2 < 9000 ∧ 3 * L ≠ 0 ∧ 0 ≤ L ∧ L ≤ 1000 ∧ figs M < 2 ^ 60 ∧ M.natAbs.log2 < 1920 ∧
    Builtin.Range.small (nT M L - 1) 0 (-1) = true ∧ cnt (nT M L - 1) 0 (-1) = n ∧ 1 ≤ nT M L := by
  obtain ⟨m1, m2⟩ := M46 hM sM
  have hT1 := (nT_facts hM hL).1
  obtain ⟨n, hn⟩ := pos_nat hT1
  obtain ⟨t1, t2, t3, t4, t5, t6⟩ := T57 hn (nT_le (k := 14) hM hL m1)
  obtain ⟨l1, l2, l3, l4⟩ := L64 hL hL'
  have hc := cnt_down n 0
  rw [t6] at hc
  exact ⟨n, hn, t1, t2, lg 10 t3, lg 10 l1, l2, l3, l4, f60 (figs_le (k := 14) hM m1), Nat.lt_of_lt_of_le ((Nat.log2_lt m2).mpr sM) (by decide), small_gen t4 t5 (by decide) (by decide) (by decide) (by decide), hc, hT1⟩
theorem turnE {T : Int} {n k : Nat} (hn : T = n + 1) (hk : k < n) (h : n ≤ 1000) : ∃ j : Nat, n - k = j + 1 ∧ T - 1 + (k : Int) * -1 = (j : Int) + 1 ∧ n - (k + 1) = j ∧ (1 : Int) ≤ (j : Int) + 1 ∧ j ≤ 1000 := ⟨n - k - 1, by omega⟩
theorem R13 {R : Nat} (h : R ≤ 13) : (R : Int) ≤ 1000 := by omega
theorem iexp_body3 (x M L : Int) (hM : 0 < M) (sM : M.natAbs < 2 ^ 46) (sx : x.natAbs < 2 ^ 47) (hL : 1 ≤ L) (hL' : L ≤ 64) (hR : nR x M L ≤ 13) :
    wpS GD s_iexp [.int x, .int M, .int L, .undef, .undef, .undef, .undef, .undef, .undef] (fun o _ => o = some (.int (iexp x M L))) := by
  obtain ⟨n, hn, hn2, hn1000, lT, l3, n3, hL0, hL1000, hfg, hstr, hsm, hc, hT1⟩ := T_facts hM hL hL' sM
  have hS := scale2 (x := x) hM hL
  have hfirst := first_le (x := x) hT1
  have b1 := bits_add (b := L) sx (by decide) hL1000
  have b2 := bits_add (b := (nR x M L : Int)) sM (by decide) (R13 hR)
  have hS0 : 0 < M * 2 ^ nR x M L := Int.mul_pos hM (p2pos _)
  have sS := bigger 313 372 (szp2 (k := 13) (bigger 46 300 sM) hR)
  clear hL'
  unfold s_iexp
  simp only [wlit, wbo, wvar, wbin, wneg, wnot, wcmp, wcmp2, wall, wany, wite, wcall, wbi, wisI, wisB, wlst, wtup, wslc, wand, wor, wnil, wcons, snil, sopq, srais, sret, sset, sset2, saug, site, Mine.get, binW_c_Add, binW_c_Sub, binW_c_Mult, binW_c_FloorDiv, binW_c_Mod, binW_c_Pow, binW_c_LShift, binW_c_RShift, binW_c_BitAnd, cmpW_c_Eq, cmpW_c_NotEq, cmpW_c_Lt, cmpW_c_LtE, cmpW_c_Gt, cmpW_c_GtE, biW_c_abs, biW_c_max, biW_c_int, biW_c_len, biW_c_str, biW_c_divmod, biW_c_list, biW_c_nbits, truth_c_undef, truth_c_none, truth_c_int, truth_c_bool, truth_c_str, truth_c_list, truth_c_tup, truth_c_obj, isBP, isIP, intP_c_undef, intP_c_none, intP_c_int, intP_c_bool, intP_c_str, intP_c_list, intP_c_tup, intP_c_obj, Mine.ii, ibP_c_undef, ibP_c_none, ibP_c_int, ibP_c_bool, ibP_c_str, ibP_c_list, ibP_c_tup, ibP_c_obj, ilP_c_undef, ilP_c_none, ilP_c_int, ilP_c_bool, ilP_c_str, ilP_c_list, ilP_c_tup, ilP_c_obj, slP_c_undef, slP_c_none, slP_c_int, slP_c_bool, slP_c_str, slP_c_list, slP_c_tup, slP_c_obj, tlP_c_undef, tlP_c_none, tlP_c_int, tlP_c_bool, tlP_c_str, tlP_c_list, tlP_c_tup, tlP_c_obj, lP_c_undef, lP_c_none, lP_c_int, lP_c_bool, lP_c_str, lP_c_list, lP_c_tup, lP_c_obj, tP_c_undef, tP_c_none, tP_c_int, tP_c_bool, tP_c_str, tP_c_list, tP_c_tup, tP_c_obj, Mine.l1, Mine.l2, Mine.l3, t2P, t3P, augW_c_Add, augW_c_Sub, augW_c_Mult, augW_c_FloorDiv, Mine.onN, cutP, partP, E.isNil, List.isEmpty_nil, List.isEmpty_cons, List.set, ne_eq, reduceCtorEq, not_false_eq_true, true_and, and_true, if_true, if_false, Bool.false_eq_true, Option.some.injEq, exists_eq_left', Bool.not_true, Bool.not_false]
  refine ⟨hL0, b1, nz' hM, lg 46 sM, hstr, hfg, IntMulOk.of_left (by decide), IntMulOk.of_left (by decide), n3, l3, ?_⟩
  show ∃ r, GD "_div_nearest" [.int x, .int (nT M L)] r ∧ _
  refine ⟨_, .div _ _ hT1 lT, Int.natCast_nonneg _, b2, ?_⟩
  rw [Int.toNat_natCast]
  show wpS GD s_iexp_1 [.int x, .int M, .int L, .int (nR x M L : Int), .int (nT M L), .int (divN x (nT M L)), .int (M * 2 ^ nR x M L), .undef, .undef] _
  have hfin : iexp x M L = M + dbl M (nR x M L) (ser x (M * 2 ^ nR x M L) n (divN x (nT M L))) := by unfold iexp; rw [hn2]
  rw [hfin]
  generalize nR x M L = R at *
  generalize hSg : M * 2 ^ R = S at *
  generalize divN x (nT M L) = y0 at *
  clear hT1 lT l3 n3 b1 b2 hfg hstr hn2 hL hL0 hfin hSg
  refine forR_ok (nT M L - 1) 0 (-1) ?_ (by decide) (by decide) hsm
    (fun k ρ => ∃ y' d7, ρ = [.int x, .int M, .int L, .int R, .int (nT M L), .int y', .int S, d7, .undef] ∧ ser x S (n - k) y' = ser x S n y0 ∧ (y'.natAbs : Int) ≤ 2 * x.natAbs + 1) ⟨y0, _, rfl, rfl, hfirst⟩ ?_ ?_
  · simp only [wlit, wbo, wvar, wbin, wneg, wnot, wcmp, wcmp2, wall, wany, wite, wcall, wbi, wisI, wisB, wlst, wtup, wslc, wand, wor, wnil, wcons, snil, sopq, srais, sret, sset, sset2, saug, site, Mine.get, binW_c_Add, binW_c_Sub, binW_c_Mult, binW_c_FloorDiv, binW_c_Mod, binW_c_Pow, binW_c_LShift, binW_c_RShift, binW_c_BitAnd, cmpW_c_Eq, cmpW_c_NotEq, cmpW_c_Lt, cmpW_c_LtE, cmpW_c_Gt, cmpW_c_GtE, biW_c_abs, biW_c_max, biW_c_int, biW_c_len, biW_c_str, biW_c_divmod, biW_c_list, biW_c_nbits, truth_c_undef, truth_c_none, truth_c_int, truth_c_bool, truth_c_str, truth_c_list, truth_c_tup, truth_c_obj, isBP, isIP, intP_c_undef, intP_c_none, intP_c_int, intP_c_bool, intP_c_str, intP_c_list, intP_c_tup, intP_c_obj, Mine.ii, ibP_c_undef, ibP_c_none, ibP_c_int, ibP_c_bool, ibP_c_str, ibP_c_list, ibP_c_tup, ibP_c_obj, ilP_c_undef, ilP_c_none, ilP_c_int, ilP_c_bool, ilP_c_str, ilP_c_list, ilP_c_tup, ilP_c_obj, slP_c_undef, slP_c_none, slP_c_int, slP_c_bool, slP_c_str, slP_c_list, slP_c_tup, slP_c_obj, tlP_c_undef, tlP_c_none, tlP_c_int, tlP_c_bool, tlP_c_str, tlP_c_list, tlP_c_tup, tlP_c_obj, lP_c_undef, lP_c_none, lP_c_int, lP_c_bool, lP_c_str, lP_c_list, lP_c_tup, lP_c_obj, tP_c_undef, tP_c_none, tP_c_int, tP_c_bool, tP_c_str, tP_c_list, tP_c_tup, tP_c_obj, Mine.l1, Mine.l2, Mine.l3, t2P, t3P, augW_c_Add, augW_c_Sub, augW_c_Mult, augW_c_FloorDiv, Mine.onN, cutP, partP, E.isNil, List.isEmpty_nil, List.isEmpty_cons, List.set, ne_eq, reduceCtorEq, not_false_eq_true, true_and, and_true, if_true, if_false, Bool.false_eq_true, Option.some.injEq, exists_eq_left', Bool.not_true, Bool.not_false]
    simp
  · rintro k ρ hk ⟨y', d7, rfl, he, hb⟩
    rw [hc] at hk
    clear hM sM hR hsm
    obtain ⟨j, hj, e1, hn', hj1, hj2⟩ := turnE hn hk hn1000
    rw [hj] at he
    obtain ⟨m1, m2, m3⟩ := iexp_turn (bigger 47 306 sx) sS hb hj2
    unfold s_iexp_1b
    simp only [wlit, wbo, wvar, wbin, wneg, wnot, wcmp, wcmp2, wall, wany, wite, wcall, wbi, wisI, wisB, wlst, wtup, wslc, wand, wor, wnil, wcons, snil, sopq, srais, sret, sset, sset2, saug, site, Mine.get, binW_c_Add, binW_c_Sub, binW_c_Mult, binW_c_FloorDiv, binW_c_Mod, binW_c_Pow, binW_c_LShift, binW_c_RShift, binW_c_BitAnd, cmpW_c_Eq, cmpW_c_NotEq, cmpW_c_Lt, cmpW_c_LtE, cmpW_c_Gt, cmpW_c_GtE, biW_c_abs, biW_c_max, biW_c_int, biW_c_len, biW_c_str, biW_c_divmod, biW_c_list, biW_c_nbits, truth_c_undef, truth_c_none, truth_c_int, truth_c_bool, truth_c_str, truth_c_list, truth_c_tup, truth_c_obj, isBP, isIP, intP_c_undef, intP_c_none, intP_c_int, intP_c_bool, intP_c_str, intP_c_list, intP_c_tup, intP_c_obj, Mine.ii, ibP_c_undef, ibP_c_none, ibP_c_int, ibP_c_bool, ibP_c_str, ibP_c_list, ibP_c_tup, ibP_c_obj, ilP_c_undef, ilP_c_none, ilP_c_int, ilP_c_bool, ilP_c_str, ilP_c_list, ilP_c_tup, ilP_c_obj, slP_c_undef, slP_c_none, slP_c_int, slP_c_bool, slP_c_str, slP_c_list, slP_c_tup, slP_c_obj, tlP_c_undef, tlP_c_none, tlP_c_int, tlP_c_bool, tlP_c_str, tlP_c_list, tlP_c_tup, tlP_c_obj, lP_c_undef, lP_c_none, lP_c_int, lP_c_bool, lP_c_str, lP_c_list, lP_c_tup, lP_c_obj, tP_c_undef, tP_c_none, tP_c_int, tP_c_bool, tP_c_str, tP_c_list, tP_c_tup, tP_c_obj, Mine.l1, Mine.l2, Mine.l3, t2P, t3P, augW_c_Add, augW_c_Sub, augW_c_Mult, augW_c_FloorDiv, Mine.onN, cutP, partP, E.isNil, List.isEmpty_nil, List.isEmpty_cons, List.set, ne_eq, reduceCtorEq, not_false_eq_true, true_and, and_true, if_true, if_false, Bool.false_eq_true, Option.some.injEq, exists_eq_left', Bool.not_true, Bool.not_false]
    rw [e1]
    refine ⟨m1, m2, _, .div _ _ (Int.mul_pos hS0 hj1) m3, ?_⟩
    rw [hn']
    exact ⟨_, _, rfl, he, ser_step hS0 hS hj1 hb⟩
  · rintro ρ ⟨y', d7, rfl, he, hb⟩
    rw [hc, Nat.sub_self] at he
    rw [← he]
    show wpS GD s_iexp_1r _ _
    unfold s_iexp_1r
    exact iexp_dbl3 hM sM hR (cr_first sx hb)


section comp
variable {prog : Program} {w : World} {name : Str} {sc : Scope} {L : Addr} {a : Option Addr × Option Addr} {cd : Value} {cs : List (Str × Addr)}

end comp


section comp
variable {prog : Program} {w : World} {hB h₀ : Heap} {mg mb : Str → Option Value} {us : Us} {N : List Str} {sc : Scope} {Γ : Str → List D → D → Prop} {n : Nat} {name : Str} {L : Addr} {a : Option Addr × Option Addr} {cd : Value} {cs : List (Str × Addr)}

end comp
/-! numbers drawn from the script -/
theorem abs_if (a : Int) : (if a < 0 then -a else a) = (a.natAbs : Int) := by split <;> omega
section
variable {Γ : Str → List D → D → Prop} {ns : List Int} {ρ : List D} {P : D → Prop} {e e2 : E}
end

noncomputable def n_rshiftnearest : List Str := ["x", "shift", "b", "q"]
noncomputable def p_rshiftnearest : List Str := ["x", "shift"]
noncomputable def u_rshiftnearest : List B := []
noncomputable def s_rshiftnearest : S :=
  (.set2 2 3 (.tup (.cons (.bin .LShift (.lit 1) (.var 1)) (.cons (.bin .RShift (.var 0) (.var 1)) .nil)))
  (.ret (.bin .Add (.var 3) (.cmp .Gt (.bin .Add (.bin .Mult (.lit 2) (.bin .BitAnd (.var 0) (.bin .Sub (.var 2) (.lit 1)))) (.bin .BitAnd (.var 3) (.lit 1))) (.var 2)))))

noncomputable def n_ilog : List Str := ["x", "M", "L", "y", "R", "T", "yshift", "w", "k"]
noncomputable def p_ilog : List Str := ["x", "M", "L"]
noncomputable def u_ilog : List B := [(.fn "_div_nearest"), (.fn "_rshift_nearest"), (.fn "_sqrt_nearest"), .abs, .int, .len, .range, .str]
noncomputable def s_ilog_1b : S :=
  (.set 3 (.call "_div_nearest" (.cons (.bin .LShift (.bin .Mult (.var 1) (.var 3)) (.lit 1)) (.cons (.bin .Add (.var 1) (.call "_sqrt_nearest" (.cons (.bin .Mult (.var 1) (.bin .Add (.var 1) (.call "_rshift_nearest" (.cons (.var 3) (.cons (.var 4) .nil))))) (.cons (.var 1) .nil)))) .nil)))
  (.aug 4 .Add (.lit 1)
  .nil))
noncomputable def s_ilog_2b : S :=
  (.set 7 (.bin .Sub (.call "_div_nearest" (.cons (.var 1) (.cons (.var 8) .nil))) (.call "_div_nearest" (.cons (.bin .Mult (.var 6) (.var 7)) (.cons (.var 1) .nil))))
  .nil)
noncomputable def s_ilog_2r : S :=
  (.ret (.call "_div_nearest" (.cons (.bin .Mult (.var 7) (.var 3)) (.cons (.var 1) .nil))))
noncomputable def s_ilog_2 : S := .forR 8 (.cons (.bin .Sub (.var 5) (.lit 1)) (.cons (.lit 0) (.cons (.neg (.lit 1)) .nil))) s_ilog_2b s_ilog_2r
noncomputable def s_ilog_1r : S :=
  (.set 5 (.neg (.bi .int (.cons (.bin .FloorDiv (.bin .Mult (.neg (.lit 10)) (.bi .len (.cons (.bi .str (.cons (.var 1) .nil)) .nil))) (.bin .Mult (.lit 3) (.var 2))) .nil)))
  (.set 6 (.call "_rshift_nearest" (.cons (.var 3) (.cons (.var 4) .nil)))
  (.set 7 (.call "_div_nearest" (.cons (.var 1) (.cons (.var 5) .nil)))
  s_ilog_2)))
noncomputable def s_ilog_1 : S := .whl (.any (.cons (.all (.cons (.cmp .LtE (.var 4) (.var 2)) (.cons (.cmp .GtE (.bin .LShift (.bi .abs (.cons (.var 3) .nil)) (.bin .Sub (.var 2) (.var 4))) (.var 1)) .nil))) (.cons (.all (.cons (.cmp .Gt (.var 4) (.var 2)) (.cons (.cmp .GtE (.bin .RShift (.bi .abs (.cons (.var 3) .nil)) (.bin .Sub (.var 4) (.var 2))) (.var 1)) .nil))) .nil))) s_ilog_1b s_ilog_1r
noncomputable def s_ilog : S :=
  (.set 3 (.bin .Sub (.var 0) (.var 1))
  (.set 4 (.lit 0)
  s_ilog_1))

noncomputable def n_lawturns : List Str := ["x", "M", "L", "turns"]
noncomputable def p_lawturns : List Str := ["x", "M", "L"]
noncomputable def u_lawturns : List B := [.abs]
noncomputable def s_lawturns_1b : S :=
  (.aug 3 .Add (.lit 1)
  .nil)
noncomputable def s_lawturns_1r : S :=
  (.ret (.var 3))
noncomputable def s_lawturns_1 : S := .whl (.cmp .Lt (.bin .LShift (.var 1) (.var 3)) (.bin .Add (.bin .LShift (.bi .abs (.cons (.var 0) .nil)) (.var 2)) (.var 1))) s_lawturns_1b s_lawturns_1r
noncomputable def s_lawturns : S :=
  (.set 3 (.lit 0)
  s_lawturns_1)

noncomputable def n_lawbound : List Str := ["x", "M", "L", "K", "doublings", "halvings", "total", "k", "m", "grown"]
noncomputable def p_lawbound : List Str := ["x", "M", "L", "K"]
noncomputable def u_lawbound : List B := [(.fn "_law_turns"), .abs, .max, .range]
noncomputable def s_lawbound_2j : S :=
  (.ite (.cmp2 (.lit 1) .LtE (.var 7) .LtE (.var 5))
    (.aug 6 .Add (.bin .Add (.bin .FloorDiv (.bin .Mult (.var 9) (.bin .Add (.bin .Mult (.bin .Mult (.lit 4) (.bin .Pow (.lit 10) (.lit 6))) (.var 1)) (.bin .Mult (.bin .Add (.bin .Mult (.lit 2) (.bin .Pow (.lit 10) (.lit 6))) (.var 9)) (.bi .abs (.cons (.var 0) .nil))))) (.bin .Mult (.bin .Mult (.lit 8) (.bin .Pow (.lit 10) (.lit 6))) (.var 1))) (.lit 1))
    .nil)
    .nil
  .nil)
noncomputable def s_lawbound_1b : S :=
  (.set 8 (.bin .Mult (.lit 32) (.bin .LShift (.var 1) (.var 7)))
  (.set 9 (.bin .Add (.bin .FloorDiv (.bin .Mult (.bin .Pow (.lit 10) (.lit 6)) (.bin .Pow (.var 8) (.lit 32))) (.bin .Pow (.bin .Add (.var 8) (.var 0)) (.lit 32))) (.lit 1))
  (.ite (.cmp .Lt (.var 7) (.var 4))
    (.aug 6 .Add (.bin .Add (.bin .FloorDiv (.var 9) (.lit 2)) (.lit 1))
    .nil)
    .nil
  s_lawbound_2j)))
noncomputable def s_lawbound_1r : S :=
  (.ret (.var 6))
noncomputable def s_lawbound_1 : S := .forR 7 (.cons (.bi .max (.cons (.var 4) (.cons (.bin .Add (.var 5) (.lit 1)) .nil))) .nil) s_lawbound_1b s_lawbound_1r
noncomputable def s_lawbound : S :=
  (.set2 4 5 (.tup (.cons (.call "_law_turns" (.cons (.var 0) (.cons (.var 1) (.cons (.var 2) .nil)))) (.cons (.bin .Add (.call "_law_turns" (.cons (.var 0) (.cons (.var 1) (.cons (.var 3) .nil)))) (.lit 1)) .nil)))
  (.set 6 (.bin .Add (.bin .Add (.lit 1200000) (.bin .FloorDiv (.bin .Mult (.bin .Mult (.lit 8) (.bin .Pow (.lit 10) (.lit 6))) (.bi .abs (.cons (.var 0) .nil))) (.bin .Mult (.lit 5) (.var 1)))) (.lit 1))
  s_lawbound_1))


/-! sizes -/
theorem szofI {a : Int} {k : Nat} (h0 : 0 ≤ a) (h : a < 2 ^ k) : a.natAbs < 2 ^ k := by
  have e : ((2 ^ k : Nat) : Int) = 2 ^ k := by norm_cast
  rw [← e] at h; omega
theorem szmul {a b : Int} {i j : Nat} (ha : a.natAbs < 2 ^ i) (hb : b.natAbs < 2 ^ j) : (a * b).natAbs < 2 ^ (i + j) := by
  rw [Int.natAbs_mul, Nat.pow_add]
  exact Nat.mul_lt_mul'' ha hb
theorem szpow {a : Int} {i : Nat} (ha : a.natAbs < 2 ^ i) (k : Nat) (hk : 0 < k) : (a ^ k).natAbs < 2 ^ (i * k) := by
  rw [Int.natAbs_pow, Nat.pow_mul]
  exact Nat.pow_lt_pow_left ha (by (first | (clear ha; omega) | omega))
theorem b10_le (k : Int) (hk : 0 ≤ k) (hk' : k ≤ 1000) : (Builtin.Int.intBits 10 : Int) * k ≤ 2 ^ 27 := by
  have := intBits_le (a := 10) (k := 4) (by decide)
  have h2 := Int.mul_le_mul (show (Builtin.Int.intBits 10 : Int) ≤ 4 by (first | (clear hk hk'; omega) | omega)) hk' hk (by decide)
  (first | (clear hk hk' this; omega) | omega)
theorem pow_ok {a : Int} {k : Nat} (h : a.natAbs < 2 ^ k) (hk : k ≤ 1000) (e : Int) (he : 0 ≤ e) (he' : e ≤ 1000) : (Builtin.Int.intBits a : Int) * e ≤ 2 ^ 27 := by
  have := intBits_le h
  have h2 := Int.mul_le_mul (show (Builtin.Int.intBits a : Int) ≤ 1000 by (first | (clear h he he'; omega) | omega)) he' he (by decide)
  (first | (clear h hk he he' this; omega) | omega)
theorem bitAnd_mask (x : Int) (k : Nat) : Builtin.bitAnd x (2 ^ k - 1) = x.fmod (2 ^ k) := by
  have hp := p2pos k
  have e : ((2 : Int) ^ k - 1).toNat = 2 ^ k - 1 := by
    have : ((2 ^ k : Nat) : Int) = 2 ^ k := by norm_cast
    omega
  have e2 : ((2 ^ k : Nat) : Int) = 2 ^ k := by norm_cast
  rw [Int.fmod_eq_emod_of_nonneg _ (Int.le_of_lt hp)]
  by_cases hx : 0 ≤ x
  · rw [bitAnd_pp hx (by (first | (clear e hx; omega) | omega)), e, Nat.and_two_pow_sub_one_eq_mod]
    have : ((x.toNat : Nat) : Int) = x := by (first | (clear hp e e2; omega) | omega)
    rw [Int.natCast_emod, e2, this]
  · rw [bitAnd_np hx (by (first | (clear e hx; omega) | omega)), e, Nat.and_comm, Nat.and_two_pow_sub_one_eq_mod]
    have h1 : ((Builtin.bitNot x).toNat : Int) = -x - 1 := by unfold Builtin.bitNot; (first | (clear hp e e2; omega) | omega)
    rw [Int.natCast_emod, e2, h1]
    generalize (2 : Int) ^ k = b at *
    have h2 := Int.emod_add_mul_ediv (-x - 1) b
    have h3 := Int.emod_nonneg (-x - 1) (show b ≠ 0 by first | with_reducible assumption | with_reducible exact Int.le_of_lt (by assumption) | with_reducible exact Nat.le_of_lt (by assumption) | with_reducible exact qz1 (by assumption) | with_reducible exact qz2 (by assumption) | with_reducible exact qz3 (by assumption) | with_reducible exact qz4 (by assumption) | with_reducible exact qz5 (by assumption) | with_reducible exact qz6 (by assumption) | with_reducible exact qz7 (by assumption) | with_reducible exact qz8 (by assumption) | with_reducible exact qz9 (by assumption) | with_reducible exact qza (by assumption) | with_reducible exact qzb (by assumption) | with_reducible exact qzc | with_reducible exact qzd | with_reducible exact qze | omega)
    have h4 := Int.emod_lt_of_pos (-x - 1) hp
    generalize (-x - 1) % b = r at *
    generalize (-x - 1) / b = q at *
    have h5 : x = (b - 1 - r) + b * (-q - 1) := by (first | (clear hx h1 hp e e2 h3 h4; grind) | grind)
    rw [h5, Int.add_mul_emod_self_left, Int.emod_eq_of_lt (by (first | (clear hx hp e h3; omega) | omega)) (by (first | (clear hx h1 hp e e2 h4 h2 h5; omega) | omega))]
section
variable {Γ : Str → List D → D → Prop}
theorem rsh_body (x : Int) (k : Nat) (hk : k ≤ 1000) : wpS Γ s_rshiftnearest [.int x, .int (k : Int), .undef, .undef] (fun o _ => o = some (.int (divN x (2 ^ k)))) := by
  have b1 := bits_add (a := 1) (b := (k : Int)) (k := 1) (by decide) (by decide) (by omega)
  unfold s_rshiftnearest
  simp only [wlit, wbo, wvar, wbin, wneg, wnot, wcmp, wcmp2, wall, wany, wite, wcall, wbi, wisI, wisB, wlst, wtup, wslc, wand, wor, wnil, wcons, snil, sopq, srais, sret, sset, sset2, saug, site, Mine.get, binW_c_Add, binW_c_Sub, binW_c_Mult, binW_c_FloorDiv, binW_c_Mod, binW_c_Pow, binW_c_LShift, binW_c_RShift, binW_c_BitAnd, cmpW_c_Eq, cmpW_c_NotEq, cmpW_c_Lt, cmpW_c_LtE, cmpW_c_Gt, cmpW_c_GtE, biW_c_abs, biW_c_max, biW_c_int, biW_c_len, biW_c_str, biW_c_divmod, biW_c_list, biW_c_nbits, truth_c_undef, truth_c_none, truth_c_int, truth_c_bool, truth_c_str, truth_c_list, truth_c_tup, truth_c_obj, isBP, isIP, intP_c_undef, intP_c_none, intP_c_int, intP_c_bool, intP_c_str, intP_c_list, intP_c_tup, intP_c_obj, Mine.ii, ibP_c_undef, ibP_c_none, ibP_c_int, ibP_c_bool, ibP_c_str, ibP_c_list, ibP_c_tup, ibP_c_obj, ilP_c_undef, ilP_c_none, ilP_c_int, ilP_c_bool, ilP_c_str, ilP_c_list, ilP_c_tup, ilP_c_obj, slP_c_undef, slP_c_none, slP_c_int, slP_c_bool, slP_c_str, slP_c_list, slP_c_tup, slP_c_obj, tlP_c_undef, tlP_c_none, tlP_c_int, tlP_c_bool, tlP_c_str, tlP_c_list, tlP_c_tup, tlP_c_obj, lP_c_undef, lP_c_none, lP_c_int, lP_c_bool, lP_c_str, lP_c_list, lP_c_tup, lP_c_obj, tP_c_undef, tP_c_none, tP_c_int, tP_c_bool, tP_c_str, tP_c_list, tP_c_tup, tP_c_obj, Mine.l1, Mine.l2, Mine.l3, t2P, t3P, augW_c_Add, augW_c_Sub, augW_c_Mult, augW_c_FloorDiv, Mine.onN, cutP, partP, E.isNil, List.isEmpty_nil, List.isEmpty_cons, List.set, ne_eq, reduceCtorEq, not_false_eq_true, true_and, and_true, if_true, if_false, Bool.false_eq_true, Option.some.injEq, exists_eq_left', Bool.not_true, Bool.not_false]
  rw [Int.toNat_natCast, Int.one_mul, bitAnd_mask]
  refine ⟨by (first | (clear b1; omega) | omega), b1, by (first | (clear b1; omega) | omega), by show (2 : Nat) ≤ 2 ^ 20; decide, mul2, ?_⟩
  unfold divN
  simp
theorem turns_body (x M L : Int) (hM : 0 < M) (sM : M.natAbs < 2 ^ 44) (sx : x.natAbs < 2 ^ 47) (hL : 0 ≤ L) (hL2 : L ≤ 100) (ht : t10 x M L ≤ 100) :
    wpS Γ s_lawturns [.int x, .int M, .int L, .undef] (fun o _ => o = some (.int (t10 x M L : Int))) := by
  obtain ⟨t1, t2⟩ := t10_facts (x := x) (L := L) hM
  have bx : (Builtin.Int.intBits (x.natAbs : Int) : Int) + L ≤ 2 ^ 27 := bits_add (k := 47) (by simpa using sx) (by decide) (by (first | (clear hM sM sx ht t1 t2; omega) | omega))
  unfold s_lawturns
  simp only [wlit, wbo, wvar, wbin, wneg, wnot, wcmp, wcmp2, wall, wany, wite, wcall, wbi, wisI, wisB, wlst, wtup, wslc, wand, wor, wnil, wcons, snil, sopq, srais, sret, sset, sset2, saug, site, Mine.get, binW_c_Add, binW_c_Sub, binW_c_Mult, binW_c_FloorDiv, binW_c_Mod, binW_c_Pow, binW_c_LShift, binW_c_RShift, binW_c_BitAnd, cmpW_c_Eq, cmpW_c_NotEq, cmpW_c_Lt, cmpW_c_LtE, cmpW_c_Gt, cmpW_c_GtE, biW_c_abs, biW_c_max, biW_c_int, biW_c_len, biW_c_str, biW_c_divmod, biW_c_list, biW_c_nbits, truth_c_undef, truth_c_none, truth_c_int, truth_c_bool, truth_c_str, truth_c_list, truth_c_tup, truth_c_obj, isBP, isIP, intP_c_undef, intP_c_none, intP_c_int, intP_c_bool, intP_c_str, intP_c_list, intP_c_tup, intP_c_obj, Mine.ii, ibP_c_undef, ibP_c_none, ibP_c_int, ibP_c_bool, ibP_c_str, ibP_c_list, ibP_c_tup, ibP_c_obj, ilP_c_undef, ilP_c_none, ilP_c_int, ilP_c_bool, ilP_c_str, ilP_c_list, ilP_c_tup, ilP_c_obj, slP_c_undef, slP_c_none, slP_c_int, slP_c_bool, slP_c_str, slP_c_list, slP_c_tup, slP_c_obj, tlP_c_undef, tlP_c_none, tlP_c_int, tlP_c_bool, tlP_c_str, tlP_c_list, tlP_c_tup, tlP_c_obj, lP_c_undef, lP_c_none, lP_c_int, lP_c_bool, lP_c_str, lP_c_list, lP_c_tup, lP_c_obj, tP_c_undef, tP_c_none, tP_c_int, tP_c_bool, tP_c_str, tP_c_list, tP_c_tup, tP_c_obj, Mine.l1, Mine.l2, Mine.l3, t2P, t3P, augW_c_Add, augW_c_Sub, augW_c_Mult, augW_c_FloorDiv, Mine.onN, cutP, partP, E.isNil, List.isEmpty_nil, List.isEmpty_cons, List.set, ne_eq, reduceCtorEq, not_false_eq_true, true_and, and_true, if_true, if_false, Bool.false_eq_true, Option.some.injEq, exists_eq_left', Bool.not_true, Bool.not_false]
  unfold s_lawturns_1
  refine whl_ok (fun n ρ => ∃ j : Nat, j ≤ t10 x M L ∧ n = t10 x M L - j ∧ ρ = [.int x, .int M, .int L, .int (j : Int)]) (t10 x M L) ⟨0, Nat.zero_le _, rfl, rfl⟩ ?_
  rintro n ρ ⟨j, hj, rfl, rfl⟩
  have bM : (Builtin.Int.intBits M : Int) + (j : Int) ≤ 2 ^ 27 := bits_add sM (by decide) (by (first | (clear hM sM sx hL hL2 t1 t2 bx; omega) | omega))
  simp only [wlit, wbo, wvar, wbin, wneg, wnot, wcmp, wcmp2, wall, wany, wite, wcall, wbi, wisI, wisB, wlst, wtup, wslc, wand, wor, wnil, wcons, snil, sopq, srais, sret, sset, sset2, saug, site, Mine.get, binW_c_Add, binW_c_Sub, binW_c_Mult, binW_c_FloorDiv, binW_c_Mod, binW_c_Pow, binW_c_LShift, binW_c_RShift, binW_c_BitAnd, cmpW_c_Eq, cmpW_c_NotEq, cmpW_c_Lt, cmpW_c_LtE, cmpW_c_Gt, cmpW_c_GtE, biW_c_abs, biW_c_max, biW_c_int, biW_c_len, biW_c_str, biW_c_divmod, biW_c_list, biW_c_nbits, truth_c_undef, truth_c_none, truth_c_int, truth_c_bool, truth_c_str, truth_c_list, truth_c_tup, truth_c_obj, isBP, isIP, intP_c_undef, intP_c_none, intP_c_int, intP_c_bool, intP_c_str, intP_c_list, intP_c_tup, intP_c_obj, Mine.ii, ibP_c_undef, ibP_c_none, ibP_c_int, ibP_c_bool, ibP_c_str, ibP_c_list, ibP_c_tup, ibP_c_obj, ilP_c_undef, ilP_c_none, ilP_c_int, ilP_c_bool, ilP_c_str, ilP_c_list, ilP_c_tup, ilP_c_obj, slP_c_undef, slP_c_none, slP_c_int, slP_c_bool, slP_c_str, slP_c_list, slP_c_tup, slP_c_obj, tlP_c_undef, tlP_c_none, tlP_c_int, tlP_c_bool, tlP_c_str, tlP_c_list, tlP_c_tup, tlP_c_obj, lP_c_undef, lP_c_none, lP_c_int, lP_c_bool, lP_c_str, lP_c_list, lP_c_tup, lP_c_obj, tP_c_undef, tP_c_none, tP_c_int, tP_c_bool, tP_c_str, tP_c_list, tP_c_tup, tP_c_obj, Mine.l1, Mine.l2, Mine.l3, t2P, t3P, augW_c_Add, augW_c_Sub, augW_c_Mult, augW_c_FloorDiv, Mine.onN, cutP, partP, E.isNil, List.isEmpty_nil, List.isEmpty_cons, List.set, ne_eq, reduceCtorEq, not_false_eq_true, true_and, and_true, if_true, if_false, Bool.false_eq_true, Option.some.injEq, exists_eq_left', Bool.not_true, Bool.not_false]
  rw [abs_if, Int.toNat_natCast]
  refine ⟨by (first | (clear hM sM sx hL hL2 ht t1 t2 bx hj bM; omega) | omega), bM, hL, bx, ?_⟩
  by_cases hc : M * 2 ^ j < (x.natAbs : Int) * 2 ^ L.toNat + M
  · rw [if_pos (by simpa using hc)]
    have hjt : j < t10 x M L := by
      refine Nat.lt_of_le_of_ne hj fun e => ?_
      subst e; (first | (clear hM sM sx hL hL2 ht t2 bx hj bM; omega) | omega)
    unfold s_lawturns_1b
    simp only [wlit, wbo, wvar, wbin, wneg, wnot, wcmp, wcmp2, wall, wany, wite, wcall, wbi, wisI, wisB, wlst, wtup, wslc, wand, wor, wnil, wcons, snil, sopq, srais, sret, sset, sset2, saug, site, Mine.get, binW_c_Add, binW_c_Sub, binW_c_Mult, binW_c_FloorDiv, binW_c_Mod, binW_c_Pow, binW_c_LShift, binW_c_RShift, binW_c_BitAnd, cmpW_c_Eq, cmpW_c_NotEq, cmpW_c_Lt, cmpW_c_LtE, cmpW_c_Gt, cmpW_c_GtE, biW_c_abs, biW_c_max, biW_c_int, biW_c_len, biW_c_str, biW_c_divmod, biW_c_list, biW_c_nbits, truth_c_undef, truth_c_none, truth_c_int, truth_c_bool, truth_c_str, truth_c_list, truth_c_tup, truth_c_obj, isBP, isIP, intP_c_undef, intP_c_none, intP_c_int, intP_c_bool, intP_c_str, intP_c_list, intP_c_tup, intP_c_obj, Mine.ii, ibP_c_undef, ibP_c_none, ibP_c_int, ibP_c_bool, ibP_c_str, ibP_c_list, ibP_c_tup, ibP_c_obj, ilP_c_undef, ilP_c_none, ilP_c_int, ilP_c_bool, ilP_c_str, ilP_c_list, ilP_c_tup, ilP_c_obj, slP_c_undef, slP_c_none, slP_c_int, slP_c_bool, slP_c_str, slP_c_list, slP_c_tup, slP_c_obj, tlP_c_undef, tlP_c_none, tlP_c_int, tlP_c_bool, tlP_c_str, tlP_c_list, tlP_c_tup, tlP_c_obj, lP_c_undef, lP_c_none, lP_c_int, lP_c_bool, lP_c_str, lP_c_list, lP_c_tup, lP_c_obj, tP_c_undef, tP_c_none, tP_c_int, tP_c_bool, tP_c_str, tP_c_list, tP_c_tup, tP_c_obj, Mine.l1, Mine.l2, Mine.l3, t2P, t3P, augW_c_Add, augW_c_Sub, augW_c_Mult, augW_c_FloorDiv, Mine.onN, cutP, partP, E.isNil, List.isEmpty_nil, List.isEmpty_cons, List.set, ne_eq, reduceCtorEq, not_false_eq_true, true_and, and_true, if_true, if_false, Bool.false_eq_true, Option.some.injEq, exists_eq_left', Bool.not_true, Bool.not_false]
    exact ⟨t10 x M L - (j + 1), by (first | (clear hM sM sx hL hL2 ht t1 t2 bx hj bM hc; omega) | omega), j + 1, hjt, rfl, rfl⟩
  · rw [if_neg (by simpa using hc)]
    have hjt : j = t10 x M L := by
      refine Nat.le_antisymm hj (Nat.not_lt.mp fun hlt => ?_)
      exact hc (t2 j hlt)
    subst hjt
    unfold s_lawturns_1r
    simp only [wlit, wbo, wvar, wbin, wneg, wnot, wcmp, wcmp2, wall, wany, wite, wcall, wbi, wisI, wisB, wlst, wtup, wslc, wand, wor, wnil, wcons, snil, sopq, srais, sret, sset, sset2, saug, site, Mine.get, binW_c_Add, binW_c_Sub, binW_c_Mult, binW_c_FloorDiv, binW_c_Mod, binW_c_Pow, binW_c_LShift, binW_c_RShift, binW_c_BitAnd, cmpW_c_Eq, cmpW_c_NotEq, cmpW_c_Lt, cmpW_c_LtE, cmpW_c_Gt, cmpW_c_GtE, biW_c_abs, biW_c_max, biW_c_int, biW_c_len, biW_c_str, biW_c_divmod, biW_c_list, biW_c_nbits, truth_c_undef, truth_c_none, truth_c_int, truth_c_bool, truth_c_str, truth_c_list, truth_c_tup, truth_c_obj, isBP, isIP, intP_c_undef, intP_c_none, intP_c_int, intP_c_bool, intP_c_str, intP_c_list, intP_c_tup, intP_c_obj, Mine.ii, ibP_c_undef, ibP_c_none, ibP_c_int, ibP_c_bool, ibP_c_str, ibP_c_list, ibP_c_tup, ibP_c_obj, ilP_c_undef, ilP_c_none, ilP_c_int, ilP_c_bool, ilP_c_str, ilP_c_list, ilP_c_tup, ilP_c_obj, slP_c_undef, slP_c_none, slP_c_int, slP_c_bool, slP_c_str, slP_c_list, slP_c_tup, slP_c_obj, tlP_c_undef, tlP_c_none, tlP_c_int, tlP_c_bool, tlP_c_str, tlP_c_list, tlP_c_tup, tlP_c_obj, lP_c_undef, lP_c_none, lP_c_int, lP_c_bool, lP_c_str, lP_c_list, lP_c_tup, lP_c_obj, tP_c_undef, tP_c_none, tP_c_int, tP_c_bool, tP_c_str, tP_c_list, tP_c_tup, tP_c_obj, Mine.l1, Mine.l2, Mine.l3, t2P, t3P, augW_c_Add, augW_c_Sub, augW_c_Mult, augW_c_FloorDiv, Mine.onN, cutP, partP, E.isNil, List.isEmpty_nil, List.isEmpty_cons, List.set, ne_eq, reduceCtorEq, not_false_eq_true, true_and, and_true, if_true, if_false, Bool.false_eq_true, Option.some.injEq, exists_eq_left', Bool.not_true, Bool.not_false]
end

inductive GT : Str → List D → D → Prop where
  | turns (x M L : Int) (hM : 0 < M) (sM : M.natAbs < 2 ^ 44) (sx : x.natAbs < 2 ^ 47) (hL : 0 ≤ L) (hL2 : L ≤ 100) (ht : t10 x M L ≤ 100) : GT "_law_turns" [.int x, .int M, .int L] (.int (t10 x M L : Int))
theorem fdiv_sz {a b : Int} {k : Nat} (ha0 : 0 ≤ a) (hb : 0 < b) (ha : a.natAbs < 2 ^ k) : 0 ≤ a.fdiv b ∧ (a.fdiv b).natAbs < 2 ^ k := by
  have h1 := Int.fdiv_nonneg ha0 (Int.le_of_lt hb)
  have h2 : a.fdiv b ≤ a := by rw [Int.fdiv_eq_ediv_of_nonneg _ (Int.le_of_lt hb)]; exact Int.ediv_le_self _ ha0
  refine ⟨h1, Nat.lt_of_le_of_lt ?_ ha⟩
  (first | (clear hb ha; omega) | omega)
theorem cnt_zero (n : Nat) : cnt 0 (n : Int) 1 = n := by
  unfold cnt Builtin.Range.rangeSize
  rw [if_pos (by decide)]
  split
  · rw [Int.ediv_one]; omega
  · omega
theorem max_int (a b : Nat) : (if ((b : Int) + 1 + 1 > (a : Int)) then ((b : Int) + 1 + 1) else (a : Int)) = ((max a (b + 1 + 1) : Nat) : Int) := by
  split <;> omega
section
theorem szB {a : Nat} {k : Nat} (h : a < 2 ^ k) : ((a : Int)).natAbs < 2 ^ k := by rwa [Int.natAbs_natCast]
theorem e6 : (10 : Int) ^ (6 : Int).toNat = 10 ^ 6 := rfl
theorem e32 (z : Int) : z ^ (32 : Int).toNat = z ^ 32 := rfl
theorem tail_mul {M x g : Int} (hM : 0 < M) (sM : M.natAbs < 2 ^ 44) (sx : x.natAbs < 2 ^ 47) (sg : g.natAbs < 2 ^ 2101) :
    IntMulOk (4 * 10 ^ 6) M ∧ IntMulOk (2 * 10 ^ 6 + g) (x.natAbs : Int) ∧ IntMulOk g (4 * 10 ^ 6 * M + (2 * 10 ^ 6 + g) * (x.natAbs : Int)) ∧ IntMulOk (8 * 10 ^ 6) M ∧ 8 * 10 ^ 6 * M ≠ 0 ∧ (8 * 10 ^ 6 * M).natAbs.log2 < 9000 := by
  have s0 : (4 * 10 ^ 6 * M).natAbs < 2 ^ 2149 := bigger 68 2149 (szmul (i := 24) (by decide) sM)
  have s1 : (2 * 10 ^ 6 + g).natAbs < 2 ^ 2102 := add_sz rfl (bigger 24 2101 (by decide)) sg
  have s2 := szmul s1 (szB sx)
  have s3 := add_sz rfl s0 s2
  exact ⟨Sm.mul (.of 24 (by decide)) (.of _ sM), Sm.mul (.of _ s1) (.of _ (szB sx)), Sm.mul (.of _ sg) (.of _ s3), Sm.mul (.of 24 (by decide)) (.of _ sM), by (first | (clear sM sx sg s0 s1 s2 s3; omega) | omega), lg 68 (szmul (i := 24) (by decide) sM)⟩
theorem bnd12_join {x M : Int} {L K d4 d8 : D} {H k : Nat} {tot g : Int} (hM : 0 < M) (sM : M.natAbs < 2 ^ 44) (sx : x.natAbs < 2 ^ 47) (sg : g.natAbs < 2 ^ 2101) {Q : List D → Prop} {Q' : Option D → List D → Prop}
    (go : Q [.int x, .int M, L, K, d4, .int (H : Int), .int (tot + if 1 ≤ k ∧ k ≤ H then (g * (4 * 10 ^ 6 * M + (2 * 10 ^ 6 + g) * (x.natAbs : Int))).fdiv (8 * 10 ^ 6 * M) + 1 else 0), .int (k : Int), d8, .int g]) :
    wpS GT s_lawbound_2j [.int x, .int M, L, K, d4, .int (H : Int), .int tot, .int (k : Int), d8, .int g] (onN Q Q') := by
  obtain ⟨q1, q2, q3, q4, q5, q6⟩ := tail_mul hM sM sx sg
  have b6 := b10_le 6 (by decide) (by decide)
  unfold s_lawbound_2j
  simp only [wlit, wbo, wvar, wbin, wneg, wnot, wcmp, wcmp2, wall, wany, wite, wcall, wbi, wisI, wisB, wlst, wtup, wslc, wand, wor, wnil, wcons, snil, sopq, srais, sret, sset, sset2, saug, site, Mine.get, binW_c_Add, binW_c_Sub, binW_c_Mult, binW_c_FloorDiv, binW_c_Mod, binW_c_Pow, binW_c_LShift, binW_c_RShift, binW_c_BitAnd, cmpW_c_Eq, cmpW_c_NotEq, cmpW_c_Lt, cmpW_c_LtE, cmpW_c_Gt, cmpW_c_GtE, biW_c_abs, biW_c_max, biW_c_int, biW_c_len, biW_c_str, biW_c_divmod, biW_c_list, biW_c_nbits, truth_c_undef, truth_c_none, truth_c_int, truth_c_bool, truth_c_str, truth_c_list, truth_c_tup, truth_c_obj, isBP, isIP, intP_c_undef, intP_c_none, intP_c_int, intP_c_bool, intP_c_str, intP_c_list, intP_c_tup, intP_c_obj, Mine.ii, ibP_c_undef, ibP_c_none, ibP_c_int, ibP_c_bool, ibP_c_str, ibP_c_list, ibP_c_tup, ibP_c_obj, ilP_c_undef, ilP_c_none, ilP_c_int, ilP_c_bool, ilP_c_str, ilP_c_list, ilP_c_tup, ilP_c_obj, slP_c_undef, slP_c_none, slP_c_int, slP_c_bool, slP_c_str, slP_c_list, slP_c_tup, slP_c_obj, tlP_c_undef, tlP_c_none, tlP_c_int, tlP_c_bool, tlP_c_str, tlP_c_list, tlP_c_tup, tlP_c_obj, lP_c_undef, lP_c_none, lP_c_int, lP_c_bool, lP_c_str, lP_c_list, lP_c_tup, lP_c_obj, tP_c_undef, tP_c_none, tP_c_int, tP_c_bool, tP_c_str, tP_c_list, tP_c_tup, tP_c_obj, Mine.l1, Mine.l2, Mine.l3, t2P, t3P, augW_c_Add, augW_c_Sub, augW_c_Mult, augW_c_FloorDiv, Mine.onN, cutP, partP, E.isNil, List.isEmpty_nil, List.isEmpty_cons, List.set, ne_eq, reduceCtorEq, not_false_eq_true, true_and, and_true, if_true, if_false, Bool.false_eq_true, Option.some.injEq, exists_eq_left', Bool.not_true, Bool.not_false]
  by_cases h1 : 1 ≤ k
  · by_cases h2 : k ≤ H
    · rw [if_pos ⟨h1, h2⟩] at go
      have e1 : decide ((1 : Int) ≤ (k : Int)) = true := decide_eq_true (by (first | (clear hM sM sx sg go q1 q2 q3 q4 q5 q6 b6 h2; omega) | omega))
      have e2 : decide ((k : Int) ≤ (H : Int)) = true := decide_eq_true (by (first | (clear hM sM sx sg go q1 q2 q3 q4 q5 q6 b6 h1 e1; omega) | omega))
      rw [e1, e2]
      simp only [if_true]
      rw [abs_if, e6]
      exact ⟨by decide, b6, .of_left (by decide), q1, by decide, b6, mul2, q2, q3, by decide, b6, .of_left (by decide), q4, q5, q6, go⟩
    · rw [if_neg (fun h => h2 h.2), Int.add_zero] at go
      have e1 : decide ((1 : Int) ≤ (k : Int)) = true := decide_eq_true (by (first | (clear hM sM sx sg go q1 q2 q3 q4 q5 q6 b6 h2; omega) | omega))
      have e2 : decide ((k : Int) ≤ (H : Int)) = false := decide_eq_false (by (first | (clear hM sM sx sg go q1 q2 q3 q4 q5 q6 b6 h1 e1; omega) | omega))
      rw [e1, e2]
      simp only [if_true, if_false, Bool.false_eq_true]
      exact go
  · rw [if_neg (fun h => h1 h.1), Int.add_zero] at go
    have e1 : decide ((1 : Int) ≤ (k : Int)) = false := decide_eq_false (by (first | (clear hM sM sx sg go q1 q2 q3 q4 q5 q6 b6; omega) | omega))
    rw [e1]
    simp only [if_true, if_false, Bool.false_eq_true]
    exact go
theorem turn_facts {x M : Int} {k : Nat} (hM0 : 0 < M) (sM : M.natAbs < 2 ^ 44) (sx : x.natAbs < 2 ^ 47) (hx : (x.natAbs : Int) ≤ 4 * M) (hk14 : k ≤ 14) :
    (Builtin.Int.intBits M : Int) + (k : Int) ≤ 2 ^ 27 ∧ (Builtin.Int.intBits (32 * (M * 2 ^ k)) : Int) * 32 ≤ 2 ^ 27 ∧ (Builtin.Int.intBits (32 * (M * 2 ^ k) + x) : Int) * 32 ≤ 2 ^ 27 ∧ (32 * (M * 2 ^ k) + x) ^ 32 ≠ 0 ∧ ((32 * (M * 2 ^ k) + x) ^ 32).natAbs.log2 < 9000 ∧ (gr12 x M k).natAbs < 2 ^ 2101 := by
  have hm2 := m2_ge hM0 k
  have hmb : 0 < 32 * (M * 2 ^ k) + x := by (first | (clear sM hk14; omega) | omega)
  have s0 : (M * 2 ^ k).natAbs < 2 ^ 59 := by
    have h2 : (2 : Int) ^ k ≤ 2 ^ 14 := ipow_le (by decide) hk14
    exact szmul (j := 15) sM (szofI (Int.le_of_lt (p2pos k)) (by clear hm2 hmb hx sM sx hM0; (first | (clear hk14; omega) | omega)))
  have s1 : (32 * (M * 2 ^ k)).natAbs < 2 ^ 65 := szmul (i := 6) (by decide) s0
  have s2 := add_sz rfl s1 (bigger 47 65 sx)
  have s3 := szpow s1 32 (by decide)
  have s4 := szpow s2 32 (by decide)
  have s5 : (10 ^ 6 * (32 * (M * 2 ^ k)) ^ 32).natAbs < 2 ^ 2100 := bigger (20 + 65 * 32) 2100 (szmul (i := 20) (by decide) s3)
  have hA : 0 < (32 * (M * 2 ^ k)) ^ 32 := Int.pow_pos (by clear hmb hx sM sx s0 s1 s2 s3 s4 s5; (first | (clear hk14; omega) | omega))
  have hB : 0 < (32 * (M * 2 ^ k) + x) ^ 32 := Int.pow_pos hmb
  have f2 := (fdiv_sz (a := 10 ^ 6 * (32 * (M * 2 ^ k)) ^ 32) (Int.mul_nonneg (by decide) (Int.le_of_lt hA)) hB s5).2
  refine ⟨bits_add sM (by decide) (Int.le_trans (Int.ofNat_le.mpr hk14) (by decide)), pow_ok s1 (by decide) 32 (by decide) (by decide), pow_ok s2 (by decide) 32 (by decide) (by decide), Int.ne_of_gt hB, lg (66 * 32) s4, ?_⟩
  unfold gr12
  exact add_sz rfl f2 (bigger 1 2100 (by decide))
theorem bnd12_turn {x M : Int} {L K d8 d9 : D} {Dn H k : Nat} {tot : Int} (hM0 : 0 < M) (sM : M.natAbs < 2 ^ 44) (sx : x.natAbs < 2 ^ 47) (hx : (x.natAbs : Int) ≤ 4 * M) (hk14 : k ≤ 14) {Q : List D → Prop} {Q' : Option D → List D → Prop}
    (go : ∀ e8 e9, Q [.int x, .int M, L, K, .int (Dn : Int), .int (H : Int), .int (tot + add12 x M Dn H k), .int (k : Int), e8, e9]) :
    wpS GT s_lawbound_1b [.int x, .int M, L, K, .int (Dn : Int), .int (H : Int), .int tot, .int (k : Int), d8, d9] (onN Q Q') := by
  obtain ⟨bM, p1, p2, nz, l7, sg⟩ := turn_facts hM0 sM sx hx hk14
  have b6 := b10_le 6 (by decide) (by decide)
  have eg : (10 ^ 6 * (32 * (M * 2 ^ k)) ^ 32).fdiv ((32 * (M * 2 ^ k) + x) ^ 32) + 1 = gr12 x M k := rfl
  unfold s_lawbound_1b
  simp only [wlit, wbo, wvar, wbin, wneg, wnot, wcmp, wcmp2, wall, wany, wite, wcall, wbi, wisI, wisB, wlst, wtup, wslc, wand, wor, wnil, wcons, snil, sopq, srais, sret, sset, sset2, saug, site, Mine.get, binW_c_Add, binW_c_Sub, binW_c_Mult, binW_c_FloorDiv, binW_c_Mod, binW_c_Pow, binW_c_LShift, binW_c_RShift, binW_c_BitAnd, cmpW_c_Eq, cmpW_c_NotEq, cmpW_c_Lt, cmpW_c_LtE, cmpW_c_Gt, cmpW_c_GtE, biW_c_abs, biW_c_max, biW_c_int, biW_c_len, biW_c_str, biW_c_divmod, biW_c_list, biW_c_nbits, truth_c_undef, truth_c_none, truth_c_int, truth_c_bool, truth_c_str, truth_c_list, truth_c_tup, truth_c_obj, isBP, isIP, intP_c_undef, intP_c_none, intP_c_int, intP_c_bool, intP_c_str, intP_c_list, intP_c_tup, intP_c_obj, Mine.ii, ibP_c_undef, ibP_c_none, ibP_c_int, ibP_c_bool, ibP_c_str, ibP_c_list, ibP_c_tup, ibP_c_obj, ilP_c_undef, ilP_c_none, ilP_c_int, ilP_c_bool, ilP_c_str, ilP_c_list, ilP_c_tup, ilP_c_obj, slP_c_undef, slP_c_none, slP_c_int, slP_c_bool, slP_c_str, slP_c_list, slP_c_tup, slP_c_obj, tlP_c_undef, tlP_c_none, tlP_c_int, tlP_c_bool, tlP_c_str, tlP_c_list, tlP_c_tup, tlP_c_obj, lP_c_undef, lP_c_none, lP_c_int, lP_c_bool, lP_c_str, lP_c_list, lP_c_tup, lP_c_obj, tP_c_undef, tP_c_none, tP_c_int, tP_c_bool, tP_c_str, tP_c_list, tP_c_tup, tP_c_obj, Mine.l1, Mine.l2, Mine.l3, t2P, t3P, augW_c_Add, augW_c_Sub, augW_c_Mult, augW_c_FloorDiv, Mine.onN, cutP, partP, E.isNil, List.isEmpty_nil, List.isEmpty_cons, List.set, ne_eq, reduceCtorEq, not_false_eq_true, true_and, and_true, if_true, if_false, Bool.false_eq_true, Option.some.injEq, exists_eq_left', Bool.not_true, Bool.not_false]
  rw [Int.toNat_natCast, e6, e32, e32, eg]
  refine ⟨Int.natCast_nonneg k, bM, .of_left (by decide), by decide, b6, by decide, p1, .of_left (by decide), by decide, p2, nz, l7, ?_⟩
  clear p1 p2 nz l7 bM eg b6
  by_cases hc : k < Dn
  · have e1 : decide ((k : Int) < (Dn : Int)) = true := decide_eq_true (Int.ofNat_lt.mpr hc)
    rw [e1]
    simp only [if_true]
    refine ⟨by decide, by decide, ?_⟩
    refine bnd12_join hM0 sM sx sg ?_
    have := go (.int (32 * (M * 2 ^ k))) (.int (gr12 x M k))
    unfold add12 tD12 tH12 at this
    rw [if_pos hc, ← Int.add_assoc] at this
    exact this
  · have e1 : decide ((k : Int) < (Dn : Int)) = false := decide_eq_false fun h => hc (Int.ofNat_lt.mp h)
    rw [e1]
    simp only [Bool.false_eq_true, if_false]
    refine bnd12_join hM0 sM sx sg ?_
    have := go (.int (32 * (M * 2 ^ k))) (.int (gr12 x M k))
    unfold add12 tD12 tH12 at this
    rw [if_neg hc, Int.zero_add] at this
    exact this
theorem s12M {x M : Int} (hM : 10 ^ 6 ≤ M) (hM' : M < 10 ^ 13) (hx : (x.natAbs : Int) ≤ 4 * M) : 0 < M ∧ M.natAbs < 2 ^ 44 ∧ x.natAbs < 2 ^ 47 ∧ 2 * (x.natAbs : Int) ≤ 15 * M ∧ 5 * M ≠ 0 := by omega
theorem L100 {L : Int} (h : 3 ≤ L) (h' : L ≤ 10) : 0 ≤ L ∧ L ≤ 100 := by omega
theorem mx14 {a b k : Nat} (ha : a ≤ 13) (hb : b ≤ 13) : ((max a (b + 1 + 1) : Nat) : Int) ≤ 2 ^ 60 ∧ -(2 ^ 60) ≤ ((max a (b + 1 + 1) : Nat) : Int) ∧ (k < max a (b + 1 + 1) → k ≤ 14) ∧ a ≤ 100 ∧ b ≤ 100 := by omega
theorem bnd12_body (x M L K : Int) (hM : 10 ^ 6 ≤ M) (hM' : M < 10 ^ 13) (hL : 3 ≤ L) (hL2 : L ≤ 10) (hK : 3 ≤ K) (hK2 : K ≤ 10) (hx : (x.natAbs : Int) ≤ 4 * M) :
    wpS GT s_lawbound [.int x, .int M, .int L, .int K, .undef, .undef, .undef, .undef, .undef, .undef] (fun o _ => o = some (.int (bnd12 x M L K))) := by
  obtain ⟨hM0, sM, sx, hx15, n5⟩ := s12M hM hM' hx
  obtain ⟨hL0, hL100⟩ := L100 hL hL2
  obtain ⟨hK0, hK100⟩ := L100 hK hK2
  have hD : t10 x M L ≤ 13 := t10_le hM0 hx15 hL2
  have hH : t10 x M K ≤ 13 := t10_le hM0 hx15 hK2
  have hmx := fun k => mx14 (k := k) hD hH
  have b6 := b10_le 6 (by decide) (by decide)
  have c1 := GT.turns x M L hM0 sM sx hL0 hL100 (hmx 0).2.2.2.1
  have c2 := GT.turns x M K hM0 sM sx hK0 hK100 (hmx 0).2.2.2.2
  have l5 : (5 * M).natAbs.log2 < 9000 := lg 100 (bigger 54 100 (szmul (i := 10) (j := 44) (by decide) sM))
  have eb : bnd12 x M L K = 1200000 + (8 * 10 ^ 6 * (x.natAbs : Int)).fdiv (5 * M) + 1 + sumTo (add12 x M (t10 x M L) (t10 x M K + 1)) (max (t10 x M L) (t10 x M K + 1 + 1)) := rfl
  rw [eb]
  generalize hDg : t10 x M L = Dn at *
  generalize hHg : t10 x M K = Hn at *
  unfold s_lawbound
  simp only [wlit, wbo, wvar, wbin, wneg, wnot, wcmp, wcmp2, wall, wany, wite, wcall, wbi, wisI, wisB, wlst, wtup, wslc, wand, wor, wnil, wcons, snil, sopq, srais, sret, sset, sset2, saug, site, Mine.get, binW_c_Add, binW_c_Sub, binW_c_Mult, binW_c_FloorDiv, binW_c_Mod, binW_c_Pow, binW_c_LShift, binW_c_RShift, binW_c_BitAnd, cmpW_c_Eq, cmpW_c_NotEq, cmpW_c_Lt, cmpW_c_LtE, cmpW_c_Gt, cmpW_c_GtE, biW_c_abs, biW_c_max, biW_c_int, biW_c_len, biW_c_str, biW_c_divmod, biW_c_list, biW_c_nbits, truth_c_undef, truth_c_none, truth_c_int, truth_c_bool, truth_c_str, truth_c_list, truth_c_tup, truth_c_obj, isBP, isIP, intP_c_undef, intP_c_none, intP_c_int, intP_c_bool, intP_c_str, intP_c_list, intP_c_tup, intP_c_obj, Mine.ii, ibP_c_undef, ibP_c_none, ibP_c_int, ibP_c_bool, ibP_c_str, ibP_c_list, ibP_c_tup, ibP_c_obj, ilP_c_undef, ilP_c_none, ilP_c_int, ilP_c_bool, ilP_c_str, ilP_c_list, ilP_c_tup, ilP_c_obj, slP_c_undef, slP_c_none, slP_c_int, slP_c_bool, slP_c_str, slP_c_list, slP_c_tup, slP_c_obj, tlP_c_undef, tlP_c_none, tlP_c_int, tlP_c_bool, tlP_c_str, tlP_c_list, tlP_c_tup, tlP_c_obj, lP_c_undef, lP_c_none, lP_c_int, lP_c_bool, lP_c_str, lP_c_list, lP_c_tup, lP_c_obj, tP_c_undef, tP_c_none, tP_c_int, tP_c_bool, tP_c_str, tP_c_list, tP_c_tup, tP_c_obj, Mine.l1, Mine.l2, Mine.l3, t2P, t3P, augW_c_Add, augW_c_Sub, augW_c_Mult, augW_c_FloorDiv, Mine.onN, cutP, partP, E.isNil, List.isEmpty_nil, List.isEmpty_cons, List.set, ne_eq, reduceCtorEq, not_false_eq_true, true_and, and_true, if_true, if_false, Bool.false_eq_true, Option.some.injEq, exists_eq_left', Bool.not_true, Bool.not_false]
  refine ⟨_, c1, _, c2, by show (2 : Nat) ≤ 2 ^ 20; decide, ?_⟩
  try simp only [wlit, wbo, wvar, wbin, wneg, wnot, wcmp, wcmp2, wall, wany, wite, wcall, wbi, wisI, wisB, wlst, wtup, wslc, wand, wor, wnil, wcons, snil, sopq, srais, sret, sset, sset2, saug, site, Mine.get, binW_c_Add, binW_c_Sub, binW_c_Mult, binW_c_FloorDiv, binW_c_Mod, binW_c_Pow, binW_c_LShift, binW_c_RShift, binW_c_BitAnd, cmpW_c_Eq, cmpW_c_NotEq, cmpW_c_Lt, cmpW_c_LtE, cmpW_c_Gt, cmpW_c_GtE, biW_c_abs, biW_c_max, biW_c_int, biW_c_len, biW_c_str, biW_c_divmod, biW_c_list, biW_c_nbits, truth_c_undef, truth_c_none, truth_c_int, truth_c_bool, truth_c_str, truth_c_list, truth_c_tup, truth_c_obj, isBP, isIP, intP_c_undef, intP_c_none, intP_c_int, intP_c_bool, intP_c_str, intP_c_list, intP_c_tup, intP_c_obj, Mine.ii, ibP_c_undef, ibP_c_none, ibP_c_int, ibP_c_bool, ibP_c_str, ibP_c_list, ibP_c_tup, ibP_c_obj, ilP_c_undef, ilP_c_none, ilP_c_int, ilP_c_bool, ilP_c_str, ilP_c_list, ilP_c_tup, ilP_c_obj, slP_c_undef, slP_c_none, slP_c_int, slP_c_bool, slP_c_str, slP_c_list, slP_c_tup, slP_c_obj, tlP_c_undef, tlP_c_none, tlP_c_int, tlP_c_bool, tlP_c_str, tlP_c_list, tlP_c_tup, tlP_c_obj, lP_c_undef, lP_c_none, lP_c_int, lP_c_bool, lP_c_str, lP_c_list, lP_c_tup, lP_c_obj, tP_c_undef, tP_c_none, tP_c_int, tP_c_bool, tP_c_str, tP_c_list, tP_c_tup, tP_c_obj, Mine.l1, Mine.l2, Mine.l3, t2P, t3P, augW_c_Add, augW_c_Sub, augW_c_Mult, augW_c_FloorDiv, Mine.onN, cutP, partP, E.isNil, List.isEmpty_nil, List.isEmpty_cons, List.set, ne_eq, reduceCtorEq, not_false_eq_true, true_and, and_true, if_true, if_false, Bool.false_eq_true, Option.some.injEq, exists_eq_left', Bool.not_true, Bool.not_false]
  rw [abs_if, e6]
  refine ⟨by decide, b6, .of_left (by decide), Sm.mul (.of 24 (by decide)) (.of _ (szB sx)), .of_left (by decide), n5, l5, ?_⟩
  generalize hT0 : 1200000 + (8 * 10 ^ 6 * (x.natAbs : Int)).fdiv (5 * M) + 1 = T0
  unfold s_lawbound_1
  have hH1 : ((Hn : Int) + 1) = ((Hn + 1 : Nat) : Int) := rfl
  rw [hH1]
  refine forR_ok 0 ((max Dn (Hn + 1 + 1) : Nat) : Int) 1 ?_ (by decide) (by decide) (small_gen (by decide) (by decide) (hmx 0).2.1 (hmx 0).1 (by decide) (by decide))
    (fun k ρ => ∃ d7 d8 d9, ρ = [.int x, .int M, .int L, .int K, .int (Dn : Int), .int ((Hn + 1 : Nat) : Int), .int (T0 + sumTo (add12 x M Dn (Hn + 1)) k), d7, d8, d9]) ⟨.undef, .undef, .undef, by
      have : sumTo (add12 x M Dn (Hn + 1)) 0 = 0 := rfl
      rw [this, Int.add_zero]⟩ ?_ ?_
  · simp only [wlit, wbo, wvar, wbin, wneg, wnot, wcmp, wcmp2, wall, wany, wite, wcall, wbi, wisI, wisB, wlst, wtup, wslc, wand, wor, wnil, wcons, snil, sopq, srais, sret, sset, sset2, saug, site, Mine.get, binW_c_Add, binW_c_Sub, binW_c_Mult, binW_c_FloorDiv, binW_c_Mod, binW_c_Pow, binW_c_LShift, binW_c_RShift, binW_c_BitAnd, cmpW_c_Eq, cmpW_c_NotEq, cmpW_c_Lt, cmpW_c_LtE, cmpW_c_Gt, cmpW_c_GtE, biW_c_abs, biW_c_max, biW_c_int, biW_c_len, biW_c_str, biW_c_divmod, biW_c_list, biW_c_nbits, truth_c_undef, truth_c_none, truth_c_int, truth_c_bool, truth_c_str, truth_c_list, truth_c_tup, truth_c_obj, isBP, isIP, intP_c_undef, intP_c_none, intP_c_int, intP_c_bool, intP_c_str, intP_c_list, intP_c_tup, intP_c_obj, Mine.ii, ibP_c_undef, ibP_c_none, ibP_c_int, ibP_c_bool, ibP_c_str, ibP_c_list, ibP_c_tup, ibP_c_obj, ilP_c_undef, ilP_c_none, ilP_c_int, ilP_c_bool, ilP_c_str, ilP_c_list, ilP_c_tup, ilP_c_obj, slP_c_undef, slP_c_none, slP_c_int, slP_c_bool, slP_c_str, slP_c_list, slP_c_tup, slP_c_obj, tlP_c_undef, tlP_c_none, tlP_c_int, tlP_c_bool, tlP_c_str, tlP_c_list, tlP_c_tup, tlP_c_obj, lP_c_undef, lP_c_none, lP_c_int, lP_c_bool, lP_c_str, lP_c_list, lP_c_tup, lP_c_obj, tP_c_undef, tP_c_none, tP_c_int, tP_c_bool, tP_c_str, tP_c_list, tP_c_tup, tP_c_obj, Mine.l1, Mine.l2, Mine.l3, t2P, t3P, augW_c_Add, augW_c_Sub, augW_c_Mult, augW_c_FloorDiv, Mine.onN, cutP, partP, E.isNil, List.isEmpty_nil, List.isEmpty_cons, List.set, ne_eq, reduceCtorEq, not_false_eq_true, true_and, and_true, if_true, if_false, Bool.false_eq_true, Option.some.injEq, exists_eq_left', Bool.not_true, Bool.not_false]
    rw [← hH1, max_int]
    simp
  · rintro k ρ hk ⟨d7, d8, d9, rfl⟩
    rw [cnt_zero] at hk
    have ek : (0 : Int) + (k : Int) * 1 = (k : Int) := by rw [Int.mul_one, Int.zero_add]
    rw [ek]
    refine bnd12_turn hM0 sM sx hx ((hmx k).2.2.1 hk) fun e8 e9 => ⟨.int (k : Int), e8, e9, ?_⟩
    rw [Int.add_assoc]; rfl
  · rintro ρ ⟨d7, d8, d9, rfl⟩
    rw [cnt_zero]
    unfold s_lawbound_1r
    simp only [wlit, wbo, wvar, wbin, wneg, wnot, wcmp, wcmp2, wall, wany, wite, wcall, wbi, wisI, wisB, wlst, wtup, wslc, wand, wor, wnil, wcons, snil, sopq, srais, sret, sset, sset2, saug, site, Mine.get, binW_c_Add, binW_c_Sub, binW_c_Mult, binW_c_FloorDiv, binW_c_Mod, binW_c_Pow, binW_c_LShift, binW_c_RShift, binW_c_BitAnd, cmpW_c_Eq, cmpW_c_NotEq, cmpW_c_Lt, cmpW_c_LtE, cmpW_c_Gt, cmpW_c_GtE, biW_c_abs, biW_c_max, biW_c_int, biW_c_len, biW_c_str, biW_c_divmod, biW_c_list, biW_c_nbits, truth_c_undef, truth_c_none, truth_c_int, truth_c_bool, truth_c_str, truth_c_list, truth_c_tup, truth_c_obj, isBP, isIP, intP_c_undef, intP_c_none, intP_c_int, intP_c_bool, intP_c_str, intP_c_list, intP_c_tup, intP_c_obj, Mine.ii, ibP_c_undef, ibP_c_none, ibP_c_int, ibP_c_bool, ibP_c_str, ibP_c_list, ibP_c_tup, ibP_c_obj, ilP_c_undef, ilP_c_none, ilP_c_int, ilP_c_bool, ilP_c_str, ilP_c_list, ilP_c_tup, ilP_c_obj, slP_c_undef, slP_c_none, slP_c_int, slP_c_bool, slP_c_str, slP_c_list, slP_c_tup, slP_c_obj, tlP_c_undef, tlP_c_none, tlP_c_int, tlP_c_bool, tlP_c_str, tlP_c_list, tlP_c_tup, tlP_c_obj, lP_c_undef, lP_c_none, lP_c_int, lP_c_bool, lP_c_str, lP_c_list, lP_c_tup, lP_c_obj, tP_c_undef, tP_c_none, tP_c_int, tP_c_bool, tP_c_str, tP_c_list, tP_c_tup, tP_c_obj, Mine.l1, Mine.l2, Mine.l3, t2P, t3P, augW_c_Add, augW_c_Sub, augW_c_Mult, augW_c_FloorDiv, Mine.onN, cutP, partP, E.isNil, List.isEmpty_nil, List.isEmpty_cons, List.set, ne_eq, reduceCtorEq, not_false_eq_true, true_and, and_true, if_true, if_false, Bool.false_eq_true, Option.some.injEq, exists_eq_left', Bool.not_true, Bool.not_false]
end

inductive GA : Str → List D → D → Prop where
  | div (a b : Int) (hb : 0 < b) (hs : b.natAbs.log2 < 9000) : GA "_div_nearest" [.int a, .int b] (.int (divN a b))
  | sqrt (n a : Int) (hn : 0 < n) (ha : 0 < a) (hn' : n.natAbs < 2 ^ 9000) (ha' : a.natAbs < 2 ^ 9000) : GA "_sqrt_nearest" [.int n, .int a] (.int (rt n))
  | rsh (x : Int) (k : Nat) (hk : k ≤ 1000) : GA "_rshift_nearest" [.int x, .int (k : Int)] (.int (divN x (2 ^ k)))
theorem yv_step {M X : Int} {k : Nat} (hM : 0 < M) (hp : 0 < M * (M + divN (yv M X k) (2 ^ k))) : (yv M X (k + 1)).natAbs ≤ 2 * (yv M X k).natAbs ∧ 0 < rt (M * (M + divN (yv M X k) (2 ^ k))) := by
  have hr := (rt_is hp).1
  refine ⟨?_, hr⟩
  have hb : 0 < M + rt (M * (M + divN (yv M X k) (2 ^ k))) := by (first | (clear hp; omega) | omega)
  have h1 := divN_natAbs (a := 2 * (M * yv M X k)) hb
  have e : yv M X (k + 1) = divN (2 * (M * yv M X k)) (M + rt (M * (M + divN (yv M X k) (2 ^ k)))) := rfl
  rw [← e] at h1
  have e2 : ((2 * (M * yv M X k)).natAbs : Int) = 2 * (M * ((yv M X k).natAbs : Int)) := by
    rw [Int.natAbs_mul, Int.natAbs_mul, Int.natCast_mul, Int.natCast_mul]
    have : (M.natAbs : Int) = M := by (first | (clear hp hr hb h1 e; omega) | omega)
    rw [this]; rfl
  rw [e2] at h1
  have hMb : M ≤ M + rt (M * (M + divN (yv M X k) (2 ^ k))) := by (first | (clear hM hp hb h1 e e2; omega) | omega)
  clear e e2 hp hr
  generalize M + rt (M * (M + divN (yv M X k) (2 ^ k))) = b at *
  generalize (yv M X (k + 1)).natAbs = q at *
  generalize (yv M X k).natAbs = y at *
  have h2 : (y : Int) * M ≤ (y : Int) * b := Int.mul_le_mul_of_nonneg_left hMb (by first | with_reducible assumption | with_reducible exact Int.le_of_lt (by assumption) | with_reducible exact Nat.le_of_lt (by assumption) | with_reducible exact qz1 (by assumption) | with_reducible exact qz2 (by assumption) | with_reducible exact qz3 (by assumption) | with_reducible exact qz4 (by assumption) | with_reducible exact qz5 (by assumption) | with_reducible exact qz6 (by assumption) | with_reducible exact qz7 (by assumption) | with_reducible exact qz8 (by assumption) | with_reducible exact qz9 (by assumption) | with_reducible exact qza (by assumption) | with_reducible exact qzb (by assumption) | with_reducible exact qzc | with_reducible exact qzd | with_reducible exact qze | omega)
  refine Nat.not_lt.mp fun hlt => ?_
  have h3 : (4 * (y : Int) + 2) * b ≤ 2 * (q : Int) * b := Int.mul_le_mul_of_nonneg_right (by (first | (clear hM hb hMb h1 h2; omega) | omega)) (by first | with_reducible assumption | with_reducible exact Int.le_of_lt (by assumption) | with_reducible exact Nat.le_of_lt (by assumption) | with_reducible exact qz1 (by assumption) | with_reducible exact qz2 (by assumption) | with_reducible exact qz3 (by assumption) | with_reducible exact qz4 (by assumption) | with_reducible exact qz5 (by assumption) | with_reducible exact qz6 (by assumption) | with_reducible exact qz7 (by assumption) | with_reducible exact qz8 (by assumption) | with_reducible exact qz9 (by assumption) | with_reducible exact qza (by assumption) | with_reducible exact qzb (by assumption) | with_reducible exact qzc | with_reducible exact qzd | with_reducible exact qze | omega)
  have e3 : (4 * (y : Int) + 2) * b = 4 * ((y : Int) * b) + 2 * b := by (first | (clear hM hb hMb h1 h2 hlt h3; grind) | grind)
  have e4 : 2 * (2 * (M * (y : Int))) = 4 * ((y : Int) * M) := by (first | (clear hM hb hMb h1 h2 hlt h3 e3; grind) | grind)
  (first | (clear hM hMb hlt; omega) | omega)
theorem yv_sz {M X : Int} {R : Nat} (hM : 0 < M) (sX : (X - M).natAbs < 2 ^ 61) (hp : ∀ k < R, 0 < M * (M + divN (yv M X k) (2 ^ k))) : ∀ k : Nat, k ≤ R → (yv M X k).natAbs < 2 ^ (61 + k)
  | 0, _ => sX
  | k + 1, hk => by
    have ih := yv_sz hM sX hp k (by (first | (clear hM sX hp; omega) | omega))
    have h1 := (yv_step hM (hp k (by (first | (clear hM sX hp ih; omega) | omega)))).1
    rw [show 61 + (k + 1) = (61 + k) + 1 by (first | (clear hM sX hp hk ih h1; omega) | omega), Nat.pow_succ]
    (first | (clear hM sX hp hk; omega) | omega)
theorem conv1 {y M : Int} (a k : Nat) : y * 2 ^ a ≥ M ↔ ¬ (y * 2 ^ (a + k) < M * 2 ^ k) := by
  rw [Int.pow_add, ← Int.mul_assoc]
  have hk := p2pos k
  constructor
  · intro h
    have := Int.mul_le_mul_of_nonneg_right h (Int.le_of_lt hk)
    (first | (clear hk h; omega) | omega)
  · intro h
    exact Int.le_of_mul_le_mul_right (show M * 2 ^ k ≤ y * 2 ^ a * 2 ^ k by (first | (clear hk; omega) | omega)) hk
theorem conv2 {y M : Int} (a j : Nat) : y.fdiv (2 ^ a) ≥ M ↔ ¬ (y * 2 ^ j < M * 2 ^ (j + a)) := by
  have ha := p2pos a
  have hj := p2pos j
  rw [Int.fdiv_eq_ediv_of_nonneg _ (Int.le_of_lt ha), ge_iff_le, Int.le_ediv_iff_mul_le ha]
  have e : M * 2 ^ (j + a) = M * 2 ^ a * 2 ^ j := by rw [Int.pow_add]; (first | (clear ha hj; grind) | grind)
  rw [e]
  constructor
  · intro h
    have := Int.mul_le_mul_of_nonneg_right h (Int.le_of_lt hj)
    (first | (clear ha hj e h; omega) | omega)
  · intro h
    exact Int.le_of_mul_le_mul_right (show M * 2 ^ a * 2 ^ j ≤ y * 2 ^ j by (first | (clear ha hj e; omega) | omega)) hj
theorem ilog_half {X M K y : Int} {k : Nat} {d5 d6 d7 d8 : D} (hM : 0 < M) (sM : M.natAbs < 2 ^ 44) (sy : y.natAbs < 2 ^ 75) (hk : k ≤ 14) (hp : 0 < M * (M + divN y (2 ^ k))) {Q : List D → Prop} {Q' : Option D → List D → Prop}
    (go : Q [.int X, .int M, .int K, .int (divN (2 * (M * y)) (M + rt (M * (M + divN y (2 ^ k))))), .int ((k + 1 : Nat) : Int), d5, d6, d7, d8]) :
    wpS GA s_ilog_1b [.int X, .int M, .int K, .int y, .int (k : Int), d5, d6, d7, d8] (onN Q Q') := by
  have hr := rt_is hp
  have hr0 := hr.1
  have hrl := hr.le
  have sd : (divN y (2 ^ k)).natAbs < 2 ^ 76 := by
    have := first_le (x := y) (T := 2 ^ k) (by have := p2pos k; (first | (clear hM sM sy hk hp go hr hr0 hrl; omega) | omega))
    generalize divN y (2 ^ k) = z at *
    (first | (clear hM sM hk hp go hr hr0 hrl; omega) | omega)
  have s1 : (M + divN y (2 ^ k)).natAbs < 2 ^ 77 := add_sz rfl (bigger 44 76 sM) sd
  have s2 := szmul sM s1
  have s3 : (rt (M * (M + divN y (2 ^ k)))).natAbs < 2 ^ 121 := by
    generalize rt (M * (M + divN y (2 ^ k))) = r at *
    generalize M * (M + divN y (2 ^ k)) = n at *
    (first | (clear hM sM sy hk sd s1 go hr; omega) | omega)
  have s4 := add_sz (n := 121) rfl (bigger 44 121 sM) s3
  have s5 := szmul sM sy
  have b5 := bits_add (b := 1) s5 (by decide) (by decide)
  have e : M * y * 2 ^ (1 : Int).toNat = 2 * (M * y) := by
    show M * y * 2 = 2 * (M * y)
    (first | (clear hM sM sy hk hp go hr hr0 hrl sd s1 s2 s3 s4 s5 b5; omega) | omega)
  unfold s_ilog_1b
  simp only [wlit, wbo, wvar, wbin, wneg, wnot, wcmp, wcmp2, wall, wany, wite, wcall, wbi, wisI, wisB, wlst, wtup, wslc, wand, wor, wnil, wcons, snil, sopq, srais, sret, sset, sset2, saug, site, Mine.get, binW_c_Add, binW_c_Sub, binW_c_Mult, binW_c_FloorDiv, binW_c_Mod, binW_c_Pow, binW_c_LShift, binW_c_RShift, binW_c_BitAnd, cmpW_c_Eq, cmpW_c_NotEq, cmpW_c_Lt, cmpW_c_LtE, cmpW_c_Gt, cmpW_c_GtE, biW_c_abs, biW_c_max, biW_c_int, biW_c_len, biW_c_str, biW_c_divmod, biW_c_list, biW_c_nbits, truth_c_undef, truth_c_none, truth_c_int, truth_c_bool, truth_c_str, truth_c_list, truth_c_tup, truth_c_obj, isBP, isIP, intP_c_undef, intP_c_none, intP_c_int, intP_c_bool, intP_c_str, intP_c_list, intP_c_tup, intP_c_obj, Mine.ii, ibP_c_undef, ibP_c_none, ibP_c_int, ibP_c_bool, ibP_c_str, ibP_c_list, ibP_c_tup, ibP_c_obj, ilP_c_undef, ilP_c_none, ilP_c_int, ilP_c_bool, ilP_c_str, ilP_c_list, ilP_c_tup, ilP_c_obj, slP_c_undef, slP_c_none, slP_c_int, slP_c_bool, slP_c_str, slP_c_list, slP_c_tup, slP_c_obj, tlP_c_undef, tlP_c_none, tlP_c_int, tlP_c_bool, tlP_c_str, tlP_c_list, tlP_c_tup, tlP_c_obj, lP_c_undef, lP_c_none, lP_c_int, lP_c_bool, lP_c_str, lP_c_list, lP_c_tup, lP_c_obj, tP_c_undef, tP_c_none, tP_c_int, tP_c_bool, tP_c_str, tP_c_list, tP_c_tup, tP_c_obj, Mine.l1, Mine.l2, Mine.l3, t2P, t3P, augW_c_Add, augW_c_Sub, augW_c_Mult, augW_c_FloorDiv, Mine.onN, cutP, partP, E.isNil, List.isEmpty_nil, List.isEmpty_cons, List.set, ne_eq, reduceCtorEq, not_false_eq_true, true_and, and_true, if_true, if_false, Bool.false_eq_true, Option.some.injEq, exists_eq_left', Bool.not_true, Bool.not_false]
  rw [e]
  refine ⟨Sm.mul (.of _ sM) (.of _ sy), by decide, b5, _, .rsh y k (by (first | (clear hM sM sy hp go hr hr0 hrl sd s1 s2 s3 s4 s5 b5 e; omega) | omega)), ?_⟩
  refine ⟨Sm.mul (.of _ sM) (.of _ s1), _, .sqrt _ M hp hM (bigger 121 9000 s2) (bigger 44 9000 sM), ?_⟩
  refine ⟨_, .div _ _ (by (first | (clear sM sy hk hp go hr hrl sd s1 s2 s3 s4 s5 b5 e; omega) | omega)) (lg 122 s4), ?_⟩
  exact go
theorem ilog_loop {X M K : Int} (hM : 10 ^ 6 ≤ M) (hM' : M < 10 ^ 13) (hK : 3 ≤ K) (hK' : K ≤ 10) (hR : iR M X K ≤ 14) (hst : Stp12 M X K (iR M X K)) (hns : ∀ i < iR M X K, ¬ Stp12 M X K i) (hp : ∀ k < iR M X K, 0 < M * (M + divN (yv M X k) (2 ^ k))) (sX : (X - M).natAbs < 2 ^ 61) {Q : Option D → List D → Prop}
    (go : wpS GA s_ilog_1r [.int X, .int M, .int K, .int (yv M X (iR M X K)), .int (iR M X K : Int), .undef, .undef, .undef, .undef] Q) :
    wpS GA s_ilog_1 [.int X, .int M, .int K, .int (X - M), .int 0, .undef, .undef, .undef, .undef] Q := by
  have hM0 : 0 < M := by first | with_reducible assumption | with_reducible exact Int.le_of_lt (by assumption) | with_reducible exact Nat.le_of_lt (by assumption) | with_reducible exact qz1 (by assumption) | with_reducible exact qz2 (by assumption) | with_reducible exact qz3 (by assumption) | with_reducible exact qz4 (by assumption) | with_reducible exact qz5 (by assumption) | with_reducible exact qz6 (by assumption) | with_reducible exact qz7 (by assumption) | with_reducible exact qz8 (by assumption) | with_reducible exact qz9 (by assumption) | with_reducible exact qza (by assumption) | with_reducible exact qzb (by assumption) | with_reducible exact qzc | with_reducible exact qzd | with_reducible exact qze | omega
  unfold s_ilog_1
  refine whl_ok (fun n ρ => ∃ k : Nat, k ≤ iR M X K ∧ n = iR M X K - k ∧ ρ = [.int X, .int M, .int K, .int (yv M X k), .int (k : Int), .undef, .undef, .undef, .undef]) (iR M X K) ⟨0, Nat.zero_le _, rfl, rfl⟩ ?_
  rintro n ρ ⟨k, hk, rfl, rfl⟩
  have sy := yv_sz hM0 sX hp k hk
  have sy75 : (yv M X k).natAbs < 2 ^ 75 := Nat.lt_of_lt_of_le sy (Nat.pow_le_pow_right (by decide) (by (first | (clear hM hM' hK hK' hst hns hp sX go hM0 sy; omega) | omega)))
  have A1 : ¬ Stp12 M X K k → wpS GA s_ilog_1b [.int X, .int M, .int K, .int (yv M X k), .int (k : Int), .undef, .undef, .undef, .undef] (onN (fun ρ'' => ∃ m, m < iR M X K - k ∧ ∃ k, k ≤ iR M X K ∧ m = iR M X K - k ∧ ρ'' = [.int X, .int M, .int K, .int (yv M X k), .int (k : Int), .undef, .undef, .undef, .undef]) Q) := fun hn => by
    have hlt : k < iR M X K := Nat.lt_of_le_of_ne hk fun e => hn (e ▸ hst)
    exact ilog_half hM0 (szofI (by first | with_reducible assumption | with_reducible exact Int.le_of_lt (by assumption) | with_reducible exact Nat.le_of_lt (by assumption) | with_reducible exact qz1 (by assumption) | with_reducible exact qz2 (by assumption) | with_reducible exact qz3 (by assumption) | with_reducible exact qz4 (by assumption) | with_reducible exact qz5 (by assumption) | with_reducible exact qz6 (by assumption) | with_reducible exact qz7 (by assumption) | with_reducible exact qz8 (by assumption) | with_reducible exact qz9 (by assumption) | with_reducible exact qza (by assumption) | with_reducible exact qzb (by assumption) | with_reducible exact qzc | with_reducible exact qzd | with_reducible exact qze | omega) (by (first | (clear hK hK' hR hst hns hp sX go hM0 hk sy sy75 hn hlt; omega) | omega))) sy75 (by (first | (clear hM hM' hK hK' hst hns hp sX go hM0 hk sy sy75 hn; omega) | omega)) (hp k hlt) ⟨iR M X K - (k + 1), by (first | (clear hM hM' hK hK' hR hst hns hp sX go hM0 hk sy sy75 hn; omega) | omega), k + 1, hlt, rfl, rfl⟩
  have B1 : Stp12 M X K k → wpS GA s_ilog_1r [.int X, .int M, .int K, .int (yv M X k), .int (k : Int), .undef, .undef, .undef, .undef] Q := fun hs => by
    have e : k = iR M X K := Nat.le_antisymm hk (Nat.not_lt.mp fun hlt => hns k hlt hs)
    rw [e]; exact go
  have by1 : (Builtin.Int.intBits ((yv M X k).natAbs : Int) : Int) + (K - (k : Int)) ≤ 2 ^ 27 := bits_add (k := 75) (by simpa using sy75) (by decide) (by (first | (clear hM hM' hR hst hns hp sX go hM0 hk sy sy75 A1 B1; omega) | omega))
  clear go hp hst hns
  simp only [wlit, wbo, wvar, wbin, wneg, wnot, wcmp, wcmp2, wall, wany, wite, wcall, wbi, wisI, wisB, wlst, wtup, wslc, wand, wor, wnil, wcons, snil, sopq, srais, sret, sset, sset2, saug, site, Mine.get, binW_c_Add, binW_c_Sub, binW_c_Mult, binW_c_FloorDiv, binW_c_Mod, binW_c_Pow, binW_c_LShift, binW_c_RShift, binW_c_BitAnd, cmpW_c_Eq, cmpW_c_NotEq, cmpW_c_Lt, cmpW_c_LtE, cmpW_c_Gt, cmpW_c_GtE, biW_c_abs, biW_c_max, biW_c_int, biW_c_len, biW_c_str, biW_c_divmod, biW_c_list, biW_c_nbits, truth_c_undef, truth_c_none, truth_c_int, truth_c_bool, truth_c_str, truth_c_list, truth_c_tup, truth_c_obj, isBP, isIP, intP_c_undef, intP_c_none, intP_c_int, intP_c_bool, intP_c_str, intP_c_list, intP_c_tup, intP_c_obj, Mine.ii, ibP_c_undef, ibP_c_none, ibP_c_int, ibP_c_bool, ibP_c_str, ibP_c_list, ibP_c_tup, ibP_c_obj, ilP_c_undef, ilP_c_none, ilP_c_int, ilP_c_bool, ilP_c_str, ilP_c_list, ilP_c_tup, ilP_c_obj, slP_c_undef, slP_c_none, slP_c_int, slP_c_bool, slP_c_str, slP_c_list, slP_c_tup, slP_c_obj, tlP_c_undef, tlP_c_none, tlP_c_int, tlP_c_bool, tlP_c_str, tlP_c_list, tlP_c_tup, tlP_c_obj, lP_c_undef, lP_c_none, lP_c_int, lP_c_bool, lP_c_str, lP_c_list, lP_c_tup, lP_c_obj, tP_c_undef, tP_c_none, tP_c_int, tP_c_bool, tP_c_str, tP_c_list, tP_c_tup, tP_c_obj, Mine.l1, Mine.l2, Mine.l3, t2P, t3P, augW_c_Add, augW_c_Sub, augW_c_Mult, augW_c_FloorDiv, Mine.onN, cutP, partP, E.isNil, List.isEmpty_nil, List.isEmpty_cons, List.set, ne_eq, reduceCtorEq, not_false_eq_true, true_and, and_true, if_true, if_false, Bool.false_eq_true, Option.some.injEq, exists_eq_left', Bool.not_true, Bool.not_false]
  rw [abs_if]
  generalize wpS GA s_ilog_1b [.int X, .int M, .int K, .int (yv M X k), .int (k : Int), .undef, .undef, .undef, .undef] (onN (fun ρ'' => ∃ m, m < iR M X K - k ∧ ∃ k, k ≤ iR M X K ∧ m = iR M X K - k ∧ ρ'' = [.int X, .int M, .int K, .int (yv M X k), .int (k : Int), .undef, .undef, .undef, .undef]) Q) = pA at *
  generalize wpS GA s_ilog_1r [.int X, .int M, .int K, .int (yv M X k), .int (k : Int), .undef, .undef, .undef, .undef] Q = pB at *
  by_cases hkK : (k : Int) ≤ K
  · have e1 : decide ((k : Int) ≤ K) = true := decide_eq_true hkK
    have e2 : decide ((k : Int) > K) = false := decide_eq_false (by (first | (clear hM hM' hK hK' hR sX hM0 hk sy sy75 by1 A1 B1 e1; omega) | omega))
    rw [e1, e2]
    simp only [if_true, if_false, Bool.false_eq_true]
    have hc := conv1 (y := ((yv M X k).natAbs : Int)) (M := M) (K - (k : Int)).toNat k
    have et : (K - (k : Int)).toNat + k = K.toNat := by (first | (clear hM hM' hR sX hM0 hk sy sy75 by1 A1 B1 e1 e2 hc; omega) | omega)
    rw [et] at hc
    refine ⟨by (first | (clear hM hM' hK hK' hR sX hM0 hk sy sy75 by1 A1 B1 e1 e2 hc; omega) | omega), by1, ?_⟩
    by_cases hs : Stp12 M X K k
    · have e3 : decide (((yv M X k).natAbs : Int) * 2 ^ (K - (k : Int)).toNat ≥ M) = false := decide_eq_false fun h => hc.mp h hs
      rw [e3]
      simp only [if_false, Bool.false_eq_true]
      exact B1 hs
    · have e3 : decide (((yv M X k).natAbs : Int) * 2 ^ (K - (k : Int)).toNat ≥ M) = true := decide_eq_true (hc.mpr hs)
      rw [e3]
      simp only [if_true]
      exact A1 hs
  · have e1 : decide ((k : Int) ≤ K) = false := decide_eq_false hkK
    have e2 : decide ((k : Int) > K) = true := decide_eq_true (by (first | (clear hM hM' hK hK' hR sX hM0 hk sy sy75 by1 A1 B1 e1; omega) | omega))
    rw [e1, e2]
    simp only [if_true, if_false, Bool.false_eq_true]
    have hc := conv2 (y := ((yv M X k).natAbs : Int)) (M := M) ((k : Int) - K).toNat K.toNat
    have et : K.toNat + ((k : Int) - K).toNat = k := by (first | (clear hM hM' hR sX hM0 hk sy sy75 by1 A1 B1 e1 e2 hc; omega) | omega)
    rw [et] at hc
    refine ⟨by (first | (clear hM hM' hK hK' hR sX hM0 hk sy sy75 by1 A1 B1 e1 e2 hc; omega) | omega), ?_⟩
    by_cases hs : Stp12 M X K k
    · have e3 : decide (((yv M X k).natAbs : Int).fdiv (2 ^ ((k : Int) - K).toNat) ≥ M) = false := decide_eq_false fun h => hc.mp h hs
      rw [e3]
      simp only [if_false, Bool.false_eq_true]
      exact B1 hs
    · have e3 : decide (((yv M X k).natAbs : Int).fdiv (2 ^ ((k : Int) - K).toNat) ≥ M) = true := decide_eq_true (hc.mpr hs)
      rw [e3]
      simp only [if_true]
      exact A1 hs

theorem s_small {M y K : Int} {R : Nat} (h : (y.natAbs : Int) * 2 ^ K.toNat < M * 2 ^ R) : ((divN y (2 ^ R)).natAbs : Int) ≤ M := by
  have hp := p2pos R
  have h1 := divN_natAbs (a := y) hp
  have h2 : (y.natAbs : Int) * 1 ≤ (y.natAbs : Int) * 2 ^ K.toNat := Int.mul_le_mul_of_nonneg_left (by have := p2pos K.toNat; (first | (clear h hp h1; omega) | omega)) (by first | with_reducible assumption | with_reducible exact Int.le_of_lt (by assumption) | with_reducible exact Nat.le_of_lt (by assumption) | with_reducible exact qz1 (by assumption) | with_reducible exact qz2 (by assumption) | with_reducible exact qz3 (by assumption) | with_reducible exact qz4 (by assumption) | with_reducible exact qz5 (by assumption) | with_reducible exact qz6 (by assumption) | with_reducible exact qz7 (by assumption) | with_reducible exact qz8 (by assumption) | with_reducible exact qz9 (by assumption) | with_reducible exact qza (by assumption) | with_reducible exact qzb (by assumption) | with_reducible exact qzc | with_reducible exact qzd | with_reducible exact qze | omega)
  generalize ((divN y (2 ^ R)).natAbs : Int) = s at *
  refine Int.not_lt.mp fun hlt => ?_
  have h3 : (M + 1) * 2 ^ R ≤ s * 2 ^ R := Int.mul_le_mul_of_nonneg_right (by (first | (clear h hp h2 h1; omega) | omega)) (Int.le_of_lt hp)
  have e3 : (M + 1) * 2 ^ R = M * 2 ^ R + 2 ^ R := by (first | (clear h hp h2 h1 hlt h3; grind) | grind)
  have e4 : 2 * s * 2 ^ R = 2 * (s * 2 ^ R) := by (first | (clear h hp h2 h1 hlt h3 e3; grind) | grind)
  (first | (clear hlt; omega) | omega)
theorem w_step {M s w j : Int} {c : Int} (hM : 0 < M) (hs : (s.natAbs : Int) ≤ M) (hj : 1 ≤ j) (hw : (w.natAbs : Int) ≤ c) : ((divN M j - divN (s * w) M).natAbs : Int) ≤ c + (2 * M + 1) := by
  have h1 := first_le (x := M) (T := j) hj
  have h2 := divN_natAbs (a := s * w) hM
  have h3 : ((s * w).natAbs : Int) ≤ M * (w.natAbs : Int) := mul_natAbs_le hs (Int.le_refl _)
  generalize divN (s * w) M = q at *
  generalize divN M j = p at *
  have h4 : (q.natAbs : Int) ≤ w.natAbs := by
    refine Int.not_lt.mp fun hlt => ?_
    have h5 : (2 * (w.natAbs : Int) + 2) * M ≤ 2 * (q.natAbs : Int) * M := Int.mul_le_mul_of_nonneg_right (by (first | (clear hM hs hj hw h3 h2 h1; omega) | omega)) (by first | with_reducible assumption | with_reducible exact Int.le_of_lt (by assumption) | with_reducible exact Nat.le_of_lt (by assumption) | with_reducible exact qz1 (by assumption) | with_reducible exact qz2 (by assumption) | with_reducible exact qz3 (by assumption) | with_reducible exact qz4 (by assumption) | with_reducible exact qz5 (by assumption) | with_reducible exact qz6 (by assumption) | with_reducible exact qz7 (by assumption) | with_reducible exact qz8 (by assumption) | with_reducible exact qz9 (by assumption) | with_reducible exact qza (by assumption) | with_reducible exact qzb (by assumption) | with_reducible exact qzc | with_reducible exact qzd | with_reducible exact qze | omega)
    have e5 : (2 * (w.natAbs : Int) + 2) * M = 2 * (M * (w.natAbs : Int)) + 2 * M := by (first | (clear hM hs hj hw h3 h2 h1 hlt h5; grind) | grind)
    (first | (clear hs hj hw h1 hlt; omega) | omega)
  (first | (clear hs hj h3 h2; omega) | omega)
theorem j12 {j : Nat} (h : j ≤ 1000) : ((j : Int) + 1).natAbs < 2 ^ 12 := by omega
theorem w_sz {M w : Int} {k : Nat} (hM : 0 < M) (hM' : M < 10 ^ 13) (hk : k ≤ 1000) (hb : (w.natAbs : Int) ≤ ((k : Int) + 1) * (2 * M + 1)) : w.natAbs < 2 ^ 60 := by
  have h3 : ((k : Int) + 1) * (2 * M + 1) ≤ 1001 * (2 * M + 1) := Int.mul_le_mul_of_nonneg_right (by (first | (clear hM hM' hb; omega) | omega)) (by (first | (clear hk hb; omega) | omega))
  (first | (clear hk; omega) | omega)
theorem ilog_rows {X M K y : Int} {R : Nat} (hM : 10 ^ 6 ≤ M) (hM' : M < 10 ^ 13) (hK : 3 ≤ K) (hK' : K ≤ 10) (hR : R ≤ 14) (hst : (y.natAbs : Int) * 2 ^ K.toNat < M * 2 ^ R) (sy : y.natAbs < 2 ^ 75) :
    wpS GA s_ilog_1r [.int X, .int M, .int K, .int y, .int (R : Int), .undef, .undef, .undef, .undef] (fun o _ => o = some (.int (divN (lser M (divN y (2 ^ R)) (nN M K) (divN M ((nN M K : Int) + 1)) * y) M))) := by
  have hM0 : 0 < M := by first | with_reducible assumption | with_reducible exact Int.le_of_lt (by assumption) | with_reducible exact Nat.le_of_lt (by assumption) | with_reducible exact qz1 (by assumption) | with_reducible exact qz2 (by assumption) | with_reducible exact qz3 (by assumption) | with_reducible exact qz4 (by assumption) | with_reducible exact qz5 (by assumption) | with_reducible exact qz6 (by assumption) | with_reducible exact qz7 (by assumption) | with_reducible exact qz8 (by assumption) | with_reducible exact qz9 (by assumption) | with_reducible exact qza (by assumption) | with_reducible exact qzb (by assumption) | with_reducible exact qzc | with_reducible exact qzd | with_reducible exact qze | omega
  have sM : M.natAbs < 2 ^ 44 := szofI (by first | with_reducible assumption | with_reducible exact Int.le_of_lt (by assumption) | with_reducible exact Nat.le_of_lt (by assumption) | with_reducible exact qz1 (by assumption) | with_reducible exact qz2 (by assumption) | with_reducible exact qz3 (by assumption) | with_reducible exact qz4 (by assumption) | with_reducible exact qz5 (by assumption) | with_reducible exact qz6 (by assumption) | with_reducible exact qz7 (by assumption) | with_reducible exact qz8 (by assumption) | with_reducible exact qz9 (by assumption) | with_reducible exact qza (by assumption) | with_reducible exact qzb (by assumption) | with_reducible exact qzc | with_reducible exact qzd | with_reducible exact qze | omega) (by (first | (clear hK hK' hR hst sy hM0; omega) | omega))
  have hn := nN_eq hM0 (show 1 ≤ K by first | with_reducible assumption | with_reducible exact Int.le_of_lt (by assumption) | with_reducible exact Nat.le_of_lt (by assumption) | with_reducible exact qz1 (by assumption) | with_reducible exact qz2 (by assumption) | with_reducible exact qz3 (by assumption) | with_reducible exact qz4 (by assumption) | with_reducible exact qz5 (by assumption) | with_reducible exact qz6 (by assumption) | with_reducible exact qz7 (by assumption) | with_reducible exact qz8 (by assumption) | with_reducible exact qz9 (by assumption) | with_reducible exact qza (by assumption) | with_reducible exact qzb (by assumption) | with_reducible exact qzc | with_reducible exact qzd | with_reducible exact qze | omega)
  obtain ⟨n, hn', hn2, hn1000, lT, l3, n3, hK0, -, hfg, hstr, hsm, hc, hT1⟩ := T_facts hM0 (show 1 ≤ K by first | with_reducible assumption | with_reducible exact Int.le_of_lt (by assumption) | with_reducible exact Nat.le_of_lt (by assumption) | with_reducible exact qz1 (by assumption) | with_reducible exact qz2 (by assumption) | with_reducible exact qz3 (by assumption) | with_reducible exact qz4 (by assumption) | with_reducible exact qz5 (by assumption) | with_reducible exact qz6 (by assumption) | with_reducible exact qz7 (by assumption) | with_reducible exact qz8 (by assumption) | with_reducible exact qz9 (by assumption) | with_reducible exact qza (by assumption) | with_reducible exact qzb (by assumption) | with_reducible exact qzc | with_reducible exact qzd | with_reducible exact qze | omega) (show K ≤ 64 by (first | (clear hM hM' hR hst sy hM0 sM hn; omega) | omega)) (bigger 44 46 sM)
  have hnn : nN M K = n := hn2
  have hs := s_small hst
  have lM : M.natAbs.log2 < 9000 := lg 44 sM
  have w0 := first_le (x := M) hT1
  clear hst
  unfold s_ilog_1r
  simp only [wlit, wbo, wvar, wbin, wneg, wnot, wcmp, wcmp2, wall, wany, wite, wcall, wbi, wisI, wisB, wlst, wtup, wslc, wand, wor, wnil, wcons, snil, sopq, srais, sret, sset, sset2, saug, site, Mine.get, binW_c_Add, binW_c_Sub, binW_c_Mult, binW_c_FloorDiv, binW_c_Mod, binW_c_Pow, binW_c_LShift, binW_c_RShift, binW_c_BitAnd, cmpW_c_Eq, cmpW_c_NotEq, cmpW_c_Lt, cmpW_c_LtE, cmpW_c_Gt, cmpW_c_GtE, biW_c_abs, biW_c_max, biW_c_int, biW_c_len, biW_c_str, biW_c_divmod, biW_c_list, biW_c_nbits, truth_c_undef, truth_c_none, truth_c_int, truth_c_bool, truth_c_str, truth_c_list, truth_c_tup, truth_c_obj, isBP, isIP, intP_c_undef, intP_c_none, intP_c_int, intP_c_bool, intP_c_str, intP_c_list, intP_c_tup, intP_c_obj, Mine.ii, ibP_c_undef, ibP_c_none, ibP_c_int, ibP_c_bool, ibP_c_str, ibP_c_list, ibP_c_tup, ibP_c_obj, ilP_c_undef, ilP_c_none, ilP_c_int, ilP_c_bool, ilP_c_str, ilP_c_list, ilP_c_tup, ilP_c_obj, slP_c_undef, slP_c_none, slP_c_int, slP_c_bool, slP_c_str, slP_c_list, slP_c_tup, slP_c_obj, tlP_c_undef, tlP_c_none, tlP_c_int, tlP_c_bool, tlP_c_str, tlP_c_list, tlP_c_tup, tlP_c_obj, lP_c_undef, lP_c_none, lP_c_int, lP_c_bool, lP_c_str, lP_c_list, lP_c_tup, lP_c_obj, tP_c_undef, tP_c_none, tP_c_int, tP_c_bool, tP_c_str, tP_c_list, tP_c_tup, tP_c_obj, Mine.l1, Mine.l2, Mine.l3, t2P, t3P, augW_c_Add, augW_c_Sub, augW_c_Mult, augW_c_FloorDiv, Mine.onN, cutP, partP, E.isNil, List.isEmpty_nil, List.isEmpty_cons, List.set, ne_eq, reduceCtorEq, not_false_eq_true, true_and, and_true, if_true, if_false, Bool.false_eq_true, Option.some.injEq, exists_eq_left', Bool.not_true, Bool.not_false]
  refine ⟨hstr, hfg, IntMulOk.of_left (by decide), IntMulOk.of_left (by decide), n3, l3, ?_⟩
  show ∃ r, GA "_rshift_nearest" [.int y, .int (R : Int)] r ∧ _
  refine ⟨_, .rsh y R (by (first | (clear hM hM' hK hK' sy hM0 sM hn hn' hn2 hn1000 lT l3 n3 hK0 hfg hstr hsm hc hT1 hnn hs lM w0; omega) | omega)), ?_⟩
  show ∃ r, GA "_div_nearest" [.int M, .int (nT M K)] r ∧ _
  refine ⟨_, .div M _ hT1 lT, ?_⟩
  show wpS GA s_ilog_2 [.int X, .int M, .int K, .int y, .int (R : Int), .int (nT M K), .int (divN y (2 ^ R)), .int (divN M (nT M K)), .undef] _
  rw [← hn]
  generalize divN y (2 ^ R) = s at *
  generalize hw0 : divN M (nT M K) = w at *
  rw [hnn]
  clear hn hn2
  unfold s_ilog_2
  have ss : s.natAbs < 2 ^ 44 := by (first | (clear hK hK' hR sy hM0 sM hn' hn1000 lT l3 n3 hK0 hfg hstr hsm hc hT1 hnn lM hw0 w0; omega) | omega)
  refine forR_ok (nT M K - 1) 0 (-1) ?_ (by decide) (by decide) hsm
    (fun k ρ => ∃ w' d8, ρ = [.int X, .int M, .int K, .int y, .int (R : Int), .int (nT M K), .int s, .int w', d8] ∧ lser M s (n - k) w' = lser M s n w ∧ (w'.natAbs : Int) ≤ ((k : Int) + 1) * (2 * M + 1)) ⟨w, _, rfl, rfl, by (first | (clear hR sy hM0 sM hn' hn1000 lT l3 hK0 hfg hstr hsm hc hT1 hnn lM hs hw0 ss; omega) | omega)⟩ ?_ ?_
  · simp only [wlit, wbo, wvar, wbin, wneg, wnot, wcmp, wcmp2, wall, wany, wite, wcall, wbi, wisI, wisB, wlst, wtup, wslc, wand, wor, wnil, wcons, snil, sopq, srais, sret, sset, sset2, saug, site, Mine.get, binW_c_Add, binW_c_Sub, binW_c_Mult, binW_c_FloorDiv, binW_c_Mod, binW_c_Pow, binW_c_LShift, binW_c_RShift, binW_c_BitAnd, cmpW_c_Eq, cmpW_c_NotEq, cmpW_c_Lt, cmpW_c_LtE, cmpW_c_Gt, cmpW_c_GtE, biW_c_abs, biW_c_max, biW_c_int, biW_c_len, biW_c_str, biW_c_divmod, biW_c_list, biW_c_nbits, truth_c_undef, truth_c_none, truth_c_int, truth_c_bool, truth_c_str, truth_c_list, truth_c_tup, truth_c_obj, isBP, isIP, intP_c_undef, intP_c_none, intP_c_int, intP_c_bool, intP_c_str, intP_c_list, intP_c_tup, intP_c_obj, Mine.ii, ibP_c_undef, ibP_c_none, ibP_c_int, ibP_c_bool, ibP_c_str, ibP_c_list, ibP_c_tup, ibP_c_obj, ilP_c_undef, ilP_c_none, ilP_c_int, ilP_c_bool, ilP_c_str, ilP_c_list, ilP_c_tup, ilP_c_obj, slP_c_undef, slP_c_none, slP_c_int, slP_c_bool, slP_c_str, slP_c_list, slP_c_tup, slP_c_obj, tlP_c_undef, tlP_c_none, tlP_c_int, tlP_c_bool, tlP_c_str, tlP_c_list, tlP_c_tup, tlP_c_obj, lP_c_undef, lP_c_none, lP_c_int, lP_c_bool, lP_c_str, lP_c_list, lP_c_tup, lP_c_obj, tP_c_undef, tP_c_none, tP_c_int, tP_c_bool, tP_c_str, tP_c_list, tP_c_tup, tP_c_obj, Mine.l1, Mine.l2, Mine.l3, t2P, t3P, augW_c_Add, augW_c_Sub, augW_c_Mult, augW_c_FloorDiv, Mine.onN, cutP, partP, E.isNil, List.isEmpty_nil, List.isEmpty_cons, List.set, ne_eq, reduceCtorEq, not_false_eq_true, true_and, and_true, if_true, if_false, Bool.false_eq_true, Option.some.injEq, exists_eq_left', Bool.not_true, Bool.not_false]
    simp
  · rintro k ρ hk ⟨w', d8, rfl, he, hb⟩
    rw [hc] at hk
    obtain ⟨j, hj, e1, hnj, hj1, hj2⟩ := turnE hn' hk hn1000
    rw [hj] at he
    have hst2 := w_step (j := (j : Int) + 1) hM0 hs hj1 hb
    have sw := w_sz hM0 hM' (Nat.le_trans (Nat.le_of_lt hk) hn1000) hb
    unfold s_ilog_2b
    simp only [wlit, wbo, wvar, wbin, wneg, wnot, wcmp, wcmp2, wall, wany, wite, wcall, wbi, wisI, wisB, wlst, wtup, wslc, wand, wor, wnil, wcons, snil, sopq, srais, sret, sset, sset2, saug, site, Mine.get, binW_c_Add, binW_c_Sub, binW_c_Mult, binW_c_FloorDiv, binW_c_Mod, binW_c_Pow, binW_c_LShift, binW_c_RShift, binW_c_BitAnd, cmpW_c_Eq, cmpW_c_NotEq, cmpW_c_Lt, cmpW_c_LtE, cmpW_c_Gt, cmpW_c_GtE, biW_c_abs, biW_c_max, biW_c_int, biW_c_len, biW_c_str, biW_c_divmod, biW_c_list, biW_c_nbits, truth_c_undef, truth_c_none, truth_c_int, truth_c_bool, truth_c_str, truth_c_list, truth_c_tup, truth_c_obj, isBP, isIP, intP_c_undef, intP_c_none, intP_c_int, intP_c_bool, intP_c_str, intP_c_list, intP_c_tup, intP_c_obj, Mine.ii, ibP_c_undef, ibP_c_none, ibP_c_int, ibP_c_bool, ibP_c_str, ibP_c_list, ibP_c_tup, ibP_c_obj, ilP_c_undef, ilP_c_none, ilP_c_int, ilP_c_bool, ilP_c_str, ilP_c_list, ilP_c_tup, ilP_c_obj, slP_c_undef, slP_c_none, slP_c_int, slP_c_bool, slP_c_str, slP_c_list, slP_c_tup, slP_c_obj, tlP_c_undef, tlP_c_none, tlP_c_int, tlP_c_bool, tlP_c_str, tlP_c_list, tlP_c_tup, tlP_c_obj, lP_c_undef, lP_c_none, lP_c_int, lP_c_bool, lP_c_str, lP_c_list, lP_c_tup, lP_c_obj, tP_c_undef, tP_c_none, tP_c_int, tP_c_bool, tP_c_str, tP_c_list, tP_c_tup, tP_c_obj, Mine.l1, Mine.l2, Mine.l3, t2P, t3P, augW_c_Add, augW_c_Sub, augW_c_Mult, augW_c_FloorDiv, Mine.onN, cutP, partP, E.isNil, List.isEmpty_nil, List.isEmpty_cons, List.set, ne_eq, reduceCtorEq, not_false_eq_true, true_and, and_true, if_true, if_false, Bool.false_eq_true, Option.some.injEq, exists_eq_left', Bool.not_true, Bool.not_false]
    rw [e1, hnj]
    refine ⟨_, .div M _ hj1 (lg 12 (j12 hj2)), Sm.mul (.of _ ss) (.of _ sw), _, .div _ M hM0 lM, _, _, rfl, he, ?_⟩
    have e9 : ((k + 1 : Nat) : Int) + 1 = (k : Int) + 1 + 1 := by (first | (clear hM hM' hK hK' hR sy hM0 sM hn' hn1000 lT l3 n3 hK0 hfg hstr hsm hc hT1 hnn lM hs hw0 w0 ss hk hb he hj e1 hnj hj1 hj2 hst2 sw; omega) | omega)
    rw [e9]
    have e10 : ((k : Int) + 1 + 1) * (2 * M + 1) = ((k : Int) + 1) * (2 * M + 1) + (2 * M + 1) := by (first | (clear hM hM' hK hK' hR sy hM0 sM hn' hn1000 lT l3 n3 hK0 hfg hstr hsm hc hT1 hnn lM hs hw0 w0 ss hk hb he hj e1 hnj hj1 hj2 hst2 sw e9; grind) | grind)
    rw [e10]
    exact hst2
  · rintro ρ ⟨w', d8, rfl, he, hb⟩
    rw [hc, Nat.sub_self] at he
    rw [hc] at hb
    rw [← he]
    have sw := w_sz hM0 hM' hn1000 hb
    unfold s_ilog_2r
    simp only [wlit, wbo, wvar, wbin, wneg, wnot, wcmp, wcmp2, wall, wany, wite, wcall, wbi, wisI, wisB, wlst, wtup, wslc, wand, wor, wnil, wcons, snil, sopq, srais, sret, sset, sset2, saug, site, Mine.get, binW_c_Add, binW_c_Sub, binW_c_Mult, binW_c_FloorDiv, binW_c_Mod, binW_c_Pow, binW_c_LShift, binW_c_RShift, binW_c_BitAnd, cmpW_c_Eq, cmpW_c_NotEq, cmpW_c_Lt, cmpW_c_LtE, cmpW_c_Gt, cmpW_c_GtE, biW_c_abs, biW_c_max, biW_c_int, biW_c_len, biW_c_str, biW_c_divmod, biW_c_list, biW_c_nbits, truth_c_undef, truth_c_none, truth_c_int, truth_c_bool, truth_c_str, truth_c_list, truth_c_tup, truth_c_obj, isBP, isIP, intP_c_undef, intP_c_none, intP_c_int, intP_c_bool, intP_c_str, intP_c_list, intP_c_tup, intP_c_obj, Mine.ii, ibP_c_undef, ibP_c_none, ibP_c_int, ibP_c_bool, ibP_c_str, ibP_c_list, ibP_c_tup, ibP_c_obj, ilP_c_undef, ilP_c_none, ilP_c_int, ilP_c_bool, ilP_c_str, ilP_c_list, ilP_c_tup, ilP_c_obj, slP_c_undef, slP_c_none, slP_c_int, slP_c_bool, slP_c_str, slP_c_list, slP_c_tup, slP_c_obj, tlP_c_undef, tlP_c_none, tlP_c_int, tlP_c_bool, tlP_c_str, tlP_c_list, tlP_c_tup, tlP_c_obj, lP_c_undef, lP_c_none, lP_c_int, lP_c_bool, lP_c_str, lP_c_list, lP_c_tup, lP_c_obj, tP_c_undef, tP_c_none, tP_c_int, tP_c_bool, tP_c_str, tP_c_list, tP_c_tup, tP_c_obj, Mine.l1, Mine.l2, Mine.l3, t2P, t3P, augW_c_Add, augW_c_Sub, augW_c_Mult, augW_c_FloorDiv, Mine.onN, cutP, partP, E.isNil, List.isEmpty_nil, List.isEmpty_cons, List.set, ne_eq, reduceCtorEq, not_false_eq_true, true_and, and_true, if_true, if_false, Bool.false_eq_true, Option.some.injEq, exists_eq_left', Bool.not_true, Bool.not_false]
    exact ⟨Sm.mul (.of _ sw) (.of _ sy), _, .div _ M hM0 lM, rfl⟩
theorem ilog_body {X M K : Int} (hM : 10 ^ 6 ≤ M) (hM' : M < 10 ^ 13) (hK : 3 ≤ K) (hK' : K ≤ 10) (hR : iR M X K ≤ 14) (hst : Stp12 M X K (iR M X K)) (hns : ∀ i < iR M X K, ¬ Stp12 M X K i) (hp : ∀ k < iR M X K, 0 < M * (M + divN (yv M X k) (2 ^ k))) (sX : (X - M).natAbs < 2 ^ 61) :
    wpS GA s_ilog [.int X, .int M, .int K, .undef, .undef, .undef, .undef, .undef, .undef] (fun o _ => o = some (.int (ilog X M K))) := by
  have sy := yv_sz (show 0 < M by first | with_reducible assumption | with_reducible exact Int.le_of_lt (by assumption) | with_reducible exact Nat.le_of_lt (by assumption) | with_reducible exact qz1 (by assumption) | with_reducible exact qz2 (by assumption) | with_reducible exact qz3 (by assumption) | with_reducible exact qz4 (by assumption) | with_reducible exact qz5 (by assumption) | with_reducible exact qz6 (by assumption) | with_reducible exact qz7 (by assumption) | with_reducible exact qz8 (by assumption) | with_reducible exact qz9 (by assumption) | with_reducible exact qza (by assumption) | with_reducible exact qzb (by assumption) | with_reducible exact qzc | with_reducible exact qzd | with_reducible exact qze | omega) sX hp _ (Nat.le_refl _)
  have sy75 : (yv M X (iR M X K)).natAbs < 2 ^ 75 := Nat.lt_of_lt_of_le sy (Nat.pow_le_pow_right (by decide) (by (first | (clear hM hM' hK hK' hst hns hp sX sy; omega) | omega)))
  unfold s_ilog
  simp only [wlit, wbo, wvar, wbin, wneg, wnot, wcmp, wcmp2, wall, wany, wite, wcall, wbi, wisI, wisB, wlst, wtup, wslc, wand, wor, wnil, wcons, snil, sopq, srais, sret, sset, sset2, saug, site, Mine.get, binW_c_Add, binW_c_Sub, binW_c_Mult, binW_c_FloorDiv, binW_c_Mod, binW_c_Pow, binW_c_LShift, binW_c_RShift, binW_c_BitAnd, cmpW_c_Eq, cmpW_c_NotEq, cmpW_c_Lt, cmpW_c_LtE, cmpW_c_Gt, cmpW_c_GtE, biW_c_abs, biW_c_max, biW_c_int, biW_c_len, biW_c_str, biW_c_divmod, biW_c_list, biW_c_nbits, truth_c_undef, truth_c_none, truth_c_int, truth_c_bool, truth_c_str, truth_c_list, truth_c_tup, truth_c_obj, isBP, isIP, intP_c_undef, intP_c_none, intP_c_int, intP_c_bool, intP_c_str, intP_c_list, intP_c_tup, intP_c_obj, Mine.ii, ibP_c_undef, ibP_c_none, ibP_c_int, ibP_c_bool, ibP_c_str, ibP_c_list, ibP_c_tup, ibP_c_obj, ilP_c_undef, ilP_c_none, ilP_c_int, ilP_c_bool, ilP_c_str, ilP_c_list, ilP_c_tup, ilP_c_obj, slP_c_undef, slP_c_none, slP_c_int, slP_c_bool, slP_c_str, slP_c_list, slP_c_tup, slP_c_obj, tlP_c_undef, tlP_c_none, tlP_c_int, tlP_c_bool, tlP_c_str, tlP_c_list, tlP_c_tup, tlP_c_obj, lP_c_undef, lP_c_none, lP_c_int, lP_c_bool, lP_c_str, lP_c_list, lP_c_tup, lP_c_obj, tP_c_undef, tP_c_none, tP_c_int, tP_c_bool, tP_c_str, tP_c_list, tP_c_tup, tP_c_obj, Mine.l1, Mine.l2, Mine.l3, t2P, t3P, augW_c_Add, augW_c_Sub, augW_c_Mult, augW_c_FloorDiv, Mine.onN, cutP, partP, E.isNil, List.isEmpty_nil, List.isEmpty_cons, List.set, ne_eq, reduceCtorEq, not_false_eq_true, true_and, and_true, if_true, if_false, Bool.false_eq_true, Option.some.injEq, exists_eq_left', Bool.not_true, Bool.not_false]
  exact ilog_loop hM hM' hK hK' hR hst hns hp sX (ilog_rows hM hM' hK hK' hR hst sy75)

section
variable {d : Rat} (hd : 0 < d)
include hd
/-- powers of two above exp: half a unit at a time -/
theorem ex_half {p h : Int} {k : Nat} (hh : (h : Rat) * d = 1 / 2) (hp : p ≤ (k : Int) * h) : ex d p ≤ 2 ^ k := by
  have h3 := ex_le hd h
  rw [hh] at h3
  have h4 := ex_pos hd h
  refine Rat.le_trans (ex_mono hd hp) ?_
  have e : ∀ k : Nat, ex d ((k : Int) * h) = ex d h ^ k := fun k => by
    induction k with
    | zero => rw [show ((0 : Nat) : Int) * h = 0 by simp, ex_zero, Rat.pow_zero]
    | succ k ih => rw [show ((k + 1 : Nat) : Int) * h = (k : Int) * h + h by rw [Int.natCast_add]; (first | (clear hd hh hp h3 h4 ih; grind) | grind), ex_add hd, ih, Rat.pow_succ]
  rw [e]
  exact pow_mono (Rat.le_of_lt h4) (by (first | (clear hd hh hp h4 e; grind) | grind)) k
end
/-! law 12: what the walk of _ilog needs -/
structure PreI (M X K : Int) : Prop where
  hR : iR M X K ≤ 14
  hst : Stp12 M X K (iR M X K)
  hns : ∀ i < iR M X K, ¬ Stp12 M X K i
  hp : ∀ k < iR M X K, 0 < M * (M + divN (yv M X k) (2 ^ k))
theorem pre_of {d t tt l0 : Rat} {Q M X K : Int} (h : Rg d t tt Q) (hM : 10 ^ 6 ≤ M) (hK : 3 ≤ K) (hK' : K ≤ 10) (h0 : 0 ≤ l0) (h14 : l0 ≤ 14) (hX : Wi ((X : Rat) - (M : Rat) * ex d (qk Q 0)) (l0 * ex d (qk Q 0))) : PreI M X K := by
  obtain ⟨a, b, c⟩ := iR_facts (Nat.le_refl 14) (stop14 h hM hK hK' h0 h14 hX)
  exact ⟨b, a, c, fun k hk => (yv_err h hM h0 h14 hX k (by (first | (clear h hM hK hK' h0 h14 hX a c; omega) | omega))).2 (by (first | (clear h hM hK hK' h0 h14 hX a c; omega) | omega))⟩
theorem ex_256 {M x W : Int} {d : Rat} (h : S10 M d W) (hx : x ≤ 4 * M) : ex d (qk (W * x) 0) ≤ 256 := by
  have hW := h.hW
  have hh : ((262144 * W * M : Int) : Rat) * d = 1 / 2 := by
    have := h.h1
    rw [Rat.intCast_mul, Rat.intCast_mul, show ((262144 : Int) : Rat) = 262144 from rfl]
    (first | (clear h hx hW; grind) | grind)
  have h9 := ex_half (k := 8) h.hd hh (p := qk (W * x) 0) (by
    rw [qk0]
    have h1 : W * x ≤ W * (4 * M) := Int.mul_le_mul_of_nonneg_left hx (by (first | (clear h hx hh; omega) | omega))
    have e2 : ((8 : Nat) : Int) * (262144 * W * M) = 524288 * (W * (4 * M)) := by
      show (8 : Int) * (262144 * W * M) = _; (first | (clear h hx hW hh h1; grind) | grind)
    (first | (clear h hx hW hh; omega) | omega))
  have e8 : (2 : Rat) ^ 8 = 256 := rfl
  rw [e8] at h9
  exact h9
theorem sz_num {i m a E : Rat} (hm : 0 ≤ m) (hm2 : m ≤ 10000000000000) (ha : 0 ≤ a) (ha2 : a ≤ 14) (hE : 0 < E) (hE2 : E ≤ 256) (h : Wi (i - m * E) (a * E)) : Wi i 3000000000000000 := by
  obtain ⟨h1, h2⟩ := h
  have q1 := rmul hm (show (0 : Rat) ≤ 256 by decide) hm2 hE2
  have q2 := rmul ha (show (0 : Rat) ≤ 256 by decide) ha2 hE2
  have q3 := Rat.mul_nonneg hm (Rat.le_of_lt hE)
  constructor <;> (first | (clear hm hm2 ha ha2 hE hE2; grind) | grind)
theorem iexp12_use {x M L W : Int} {d t tt : Rat} (h : S10 M d W) (hM : 10 ^ 6 ≤ M) (hM' : M < 10 ^ 13) (hL : 3 ≤ L) (hL2 : L ≤ 10) (hx : x ≤ 4 * M) (hg : Rg d t tt (W * x)) :
    (iexp x M L).natAbs < 2 ^ 52 ∧ nR x M L ≤ 13 ∧ ∀ K, 3 ≤ K → K ≤ 10 → PreI M (iexp x M L) K := by
  obtain ⟨htt0, htt4, -⟩ := hg.tt0
  obtain ⟨a, a0, a1, a2, r1, r2, w⟩ := iexp12 h hM hM' hL hL2 hg
  have hsH := sH_le14 hg (Nat.le_trans r1 r2)
  have hsH0 := sH_nonneg h.hd (W * x) (nR x M L)
  have l0 : 0 ≤ a + sH d (W * x) (nR x M L) + 2 / 1000 := by (first | (clear h hM hM' hL hL2 hx hg htt0 htt4 a1 a2 r1 r2 w hsH; grind) | grind)
  have l14 : a + sH d (W * x) (nR x M L) + 2 / 1000 ≤ 14 := by (first | (clear h hM hM' hL hL2 hx hg htt0 a0 a1 r1 r2 w hsH0 l0; grind) | grind)
  have hMr : (M : Rat) ≤ 10000000000000 := icast_le (show M ≤ 10000000000000 by (first | (clear h hL hL2 hx hg htt0 htt4 a0 a1 a2 r1 r2 w hsH hsH0 l0 l14; omega) | omega))
  have hMr0 : (0 : Rat) ≤ (M : Rat) := icast_le (a := 0) (by (first | (clear h hL hL2 hx hg htt0 htt4 a0 a1 a2 r1 r2 w hsH hsH0 l0 l14 hMr; omega) | omega))
  have hs := sz_num hMr0 hMr l0 l14 (ex_pos h.hd _) (ex_256 h hx) w
  refine ⟨?_, Nat.le_trans r1 r2, fun K hK hK' => pre_of hg hM hK hK' l0 l14 w⟩
  have h1 := natAbs_wi hs
  have h2 : ((iexp x M L).natAbs : Int) ≤ 3000000000000000 := Rat.intCast_le_intCast.mp h1
  (first | (clear h hM hM' hL hL2 hx hg htt0 htt4 a0 a1 a2 r1 r2 w hsH hsH0 l0 l14 hMr hMr0 hs h1; omega) | omega)
theorem use1 {x M L : Int} (hM : 10 ^ 6 ≤ M) (hM' : M < 10 ^ 13) (hL : 3 ≤ L) (hL2 : L ≤ 10) (hlo : -(2 * M) ≤ x) (hhi : x ≤ 4 * M) :
    (iexp x M L).natAbs < 2 ^ 52 ∧ nR x M L ≤ 13 ∧ ∀ K, 3 ≤ K → K ≤ 10 → PreI M (iexp x M L) K := by
  obtain ⟨d, W, h⟩ := S10_ex (show 0 < M by first | with_reducible assumption | with_reducible exact Int.le_of_lt (by assumption) | with_reducible exact Nat.le_of_lt (by assumption) | with_reducible exact qz1 (by assumption) | with_reducible exact qz2 (by assumption) | with_reducible exact qz3 (by assumption) | with_reducible exact qz4 (by assumption) | with_reducible exact qz5 (by assumption) | with_reducible exact qz6 (by assumption) | with_reducible exact qz7 (by assumption) | with_reducible exact qz8 (by assumption) | with_reducible exact qz9 (by assumption) | with_reducible exact qza (by assumption) | with_reducible exact qzb (by assumption) | with_reducible exact qzc | with_reducible exact qzd | with_reducible exact qze | omega)
  obtain ⟨t, tt, hg⟩ := rg_of h (by first | with_reducible assumption | with_reducible exact Int.le_of_lt (by assumption) | with_reducible exact Nat.le_of_lt (by assumption) | with_reducible exact qz1 (by assumption) | with_reducible exact qz2 (by assumption) | with_reducible exact qz3 (by assumption) | with_reducible exact qz4 (by assumption) | with_reducible exact qz5 (by assumption) | with_reducible exact qz6 (by assumption) | with_reducible exact qz7 (by assumption) | with_reducible exact qz8 (by assumption) | with_reducible exact qz9 (by assumption) | with_reducible exact qza (by assumption) | with_reducible exact qzb (by assumption) | with_reducible exact qzc | with_reducible exact qzd | with_reducible exact qze | omega) hlo hhi
  exact iexp12_use h hM hM' hL hL2 hhi hg
theorem use2 {w M K : Int} (hM : 10 ^ 6 ≤ M) (hK : 3 ≤ K) (hK' : K ≤ 10) (hw1 : M - 6 ≤ 6 * w) (hw2 : 6 * w ≤ 301 * M) : PreI M w K := by
  obtain ⟨d, W, h⟩ := S10_ex (show 0 < M by first | with_reducible assumption | with_reducible exact Int.le_of_lt (by assumption) | with_reducible exact Nat.le_of_lt (by assumption) | with_reducible exact qz1 (by assumption) | with_reducible exact qz2 (by assumption) | with_reducible exact qz3 (by assumption) | with_reducible exact qz4 (by assumption) | with_reducible exact qz5 (by assumption) | with_reducible exact qz6 (by assumption) | with_reducible exact qz7 (by assumption) | with_reducible exact qz8 (by assumption) | with_reducible exact qz9 (by assumption) | with_reducible exact qza (by assumption) | with_reducible exact qzb (by assumption) | with_reducible exact qzc | with_reducible exact qzd | with_reducible exact qze | omega)
  obtain ⟨q, t, tt, hg, lo, hi, u1, u2⟩ := ref_w h hM hw1 hw2
  exact pre_of hg hM hK hK' (by first | with_reducible assumption | with_reducible exact Rat.le_of_lt (by assumption) | decide +kernel | with_reducible exact qr1 (by assumption) | with_reducible exact qr2 (by assumption) | with_reducible exact qr3 (by assumption) | with_reducible exact qr4 (by assumption) | with_reducible exact qr5 (by assumption) | with_reducible exact qr6 (by assumption) | with_reducible exact qr7 (by assumption) | with_reducible exact qr8 (by assumption) | with_reducible exact qr9 (by assumption) | grind) (by first | with_reducible assumption | with_reducible exact Rat.le_of_lt (by assumption) | decide +kernel | with_reducible exact qr1 (by assumption) | with_reducible exact qr2 (by assumption) | with_reducible exact qr3 (by assumption) | with_reducible exact qr4 (by assumption) | with_reducible exact qr5 (by assumption) | with_reducible exact qr6 (by assumption) | with_reducible exact qr7 (by assumption) | with_reducible exact qr8 (by assumption) | with_reducible exact qr9 (by assumption) | grind) (l0_w u1 u2 (ex_pos h.hd _))


section tup
variable {prog : Program} {w : World} {A : Around} {E : Value → Shared → Prop} {s : Shared}

end tup


/-- data without a list within -/
inductive NoL : D → Prop where
  | none : NoL .none
  | int (i : Int) : NoL (.int i)
  | bool (b : Bool) : NoL (.bool b)
  | str (x : Str) : NoL (.str x)
  | tup {ds : List D} (h : ∀ d ∈ ds, NoL d) : NoL (.tup ds)
section comp
variable {prog : Program} {w : World}

end comp


section own
variable {prog : Program} {w : World} {hB h₀ : Heap} {mg mb : Str → Option Value} {us : Us} {N : List Str} {sc : Scope} {Γ : Str → List D → D → Prop} {n : Nat} {name : Str} {L : Addr} {a : Option Addr × Option Addr} {cd : Value} {cs : List (Str × Addr)}

/-- two lists put together: a new list -/
theorem add_new {A : Around} {s : Shared} {l1 l2 : Addr} {vs us : List Value} {Q : Value → Shared → Prop} (hl : s.heap.IsList l1 vs.toArray) (hl2 : s.heap.IsList l2 us.toArray) (hz : vs.length + us.length ≤ 2 ^ 20)
    (h : ∀ h', Kp s.heap h' → s.heap.get? s.heap.objs.size = none → PlainL h' s.heap.objs.size (vs ++ us).toArray → Q (.ref s.heap.objs.size) { s with heap := h' }) :
    wpAny (model prog w) A (binaryOp .Add (.ref l1) (.ref l2)) Q Fls s := by
  obtain ⟨⟨c1, d1, t1, s1⟩, ho, hc, n, hd⟩ := hl
  obtain ⟨⟨c2, d2, t2, s2⟩, ho2, hc2, n2, hd2⟩ := hl2
  dsimp only at hc hd hc2 hd2
  subst hc hd hc2 hd2
  refine concat_meets ⟨_, ho, rfl⟩ ⟨_, ho2, rfl⟩ noFill_list_add seq_list_add PySem.F.slot_list_add PySem.F.entry_list_add (PySem.F.args_list_add_2 _ _)
    (list_addW l1 l2 vs.toArray us.toArray n n2 d1 d2 s1 s2 (by simp only [List.size_toArray]; exact size_le hz)) ⟨ho, ho2, ?_⟩
  refine h _ (fun _ _ e => Heap.get?_push_of_some _ e) (none_at (Nat.le_refl _)) ?_
  exact ⟨_, 0, Heap.get?_push_size _ rfl, rfl, rfl, by simp⟩

/-- a law's end, by the engine -/
theorem law_tail (C : Cx prog w hB h₀ mg mb us N sc Γ n name L a cd cs) (hL : hB.objs.size ≤ L) {A : Around} {s s₀ : Shared} {ρ : List D} {body : List Stmt} {c : S} (hA : AOk n A) (hK : us.k A) (S : St h₀ L N ρ s) (hchk : chkS us N sc c body = true)
    (hsp : wpS Γ c ρ (fun o _ => o = some (.bool true))) (hs : ∃ h' tk, s = { s₀ with heap := h', toks := tk }) :
    wpAny (model prog w) A (execs body (eOf name sc L a cd cs)) (fun f s' => f = .ret (.bool true) ∧ ∃ m h' tk, s' = { s₀ with heap := h', toks := tk } ∧ Fr hB L h' m) Fls s := by
  rw [rw5] at hsp
  refine wpAny_mono (soundS C c body hchk A s _ _ ⟨hA, hK⟩ S hsp) (fun f s' h' => ?_) fun _ _ x => x
  obtain ⟨⟨h₂, tk, rfl, _⟩, o, ρ', ⟨m', F', _⟩, hf, rfl⟩ := h'
  obtain ⟨h1, tk1, rfl⟩ := hs
  cases f with
  | ret v =>
    obtain rfl := RV.inv_bool hf
    exact ⟨rfl, m', h₂, tk, rfl, ⟨F'.ns, fun b o e => F'.keep b o (C.base b o e).1 (C.base b o e).2, hL⟩⟩
  | next => exact hf.elim
  | brk => exact hf.elim
  | cont => exact hf.elim
end own

section
variable {prog : Program} {w : World} {A : Around} {E : Value → Shared → Prop} {s : Shared}
theorem draw_list {it t : Addr} {items : Array Value} (hne : t ≠ it) : ∀ (n i : Nat) (s : Shared) (Q : List Value → Shared → Prop), s.heap.IsListIter it t i → s.heap.IsList t items → i + n ≤ items.size →
    (∀ h', h'.IsListIter it t (i + n) → Heap.SameBut it s.heap h' → Q ((items.toList.drop i).take n) { s with heap := h' }) → wpAny (model prog w) A (draw (.ref it) n) Q E s
  | 0, i, s, Q, hit, _, _, hQ => by
    show wpAny _ _ (pure []) Q E s
    exact wpAny_pure (by simpa using hQ s.heap hit (Heap.SameBut.refl ..))
  | n + 1, i, s, Q, hit, ht, hle, hQ => by
    have hlt : i < items.size := by (first | (clear hne hit ht hQ; omega) | omega)
    show wpAny _ _ (pyNext (.ref it) >>= _) Q E s
    refine wpAny_bind (wpAny_pyNext_list_item hit ht (x := items[i]) (by simp [hlt]) fun h₁ hit₁ hs₁ => ?_)
    refine wpAny_bind (wpAny_holding (draw_list hne n (i + 1) _ _ hit₁ (ht.extBut hs₁.extBut hne) (by (first | (clear hne hit ht hQ hlt hit₁ hs₁; omega) | omega)) fun h₂ hit₂ hs₂ => wpAny_pure ?_))
    have hd : items.toList.drop i = items[i] :: items.toList.drop (i + 1) := by simp [List.drop_eq_getElem_cons, hlt]
    have := hQ h₂ (by rw [show i + (n + 1) = i + 1 + n by (first | (clear hne hit ht hle hQ hit₁ hs₁ hit₂ hs₂ hd; omega) | omega)]; exact hit₂) (hs₁.trans hs₂)
    rw [hd, List.take_succ_cons] at this
    exact this
theorem unpackItems_list {t : Addr} {items : Array Value} {Q : List Value → Shared → Prop} (hh : A.handled = none) (ht : s.heap.IsList t items)
    (hQ : ∀ h', Heap.ExtBut s.heap.objs.size s.heap h' → Q items.toList { s with heap := h' }) : wpAny (model prog w) A (unpackItems (.ref t) items.size none) Q E s := by
  have hlt : t ≠ s.heap.objs.size := by obtain ⟨o, ho, _⟩ := ht; exact Nat.ne_of_lt (Heap.lt_size ho)
  unfold unpackItems
  refine wpAny_bind ?_
  · unfold notIterableAtAll
    refine wpAny_bind (wpAny_specialOf ht.typeIs slot_list_iter.lookup ?_)
    refine wpAny_pure ?_
    simp only [Bool.false_eq_true, if_false]
    refine wpAny_bind (wpAny_holding (wpAny_pyIter_list ht ?_))
    refine wpAny_bind (wpAny_holding (draw_list hlt items.size 0 _ _ ⟨_, Heap.get?_push_size _ rfl, rfl, rfl⟩ (ht.push _) (by (first | (clear hh ht hQ hlt; omega) | omega)) fun h₁ hit₁ hs₁ => ?_))
    have hall : List.take items.size (List.drop 0 items.toList) = items.toList := by
      rw [List.drop_zero]; exact List.take_of_length_le (by simp)
    rw [hall]
    rw [if_neg (by simp)]
    have ht₁ : h₁.IsList t items := (ht.push _).extBut hs₁.extBut hlt
    refine wpAny_bind (wpAny_holding (wpAny_pyNext_list_end hh hit₁ ht₁ (by simp) fun h₂ he₂ => ?_))
    simp only [Option.isSome_none, Bool.false_eq_true, if_false]
    refine wpAny_pure (hQ h₂ fun b o hb e => he₂ b o hb (hs₁.extBut b o hb (Heap.get?_push_of_some _ e)))
theorem assign_Tuple_list {env : Env} {elts : List Expr} {x1} {pos : Pos} {t : Addr} {items : Array Value} {Q : Unit → Shared → Prop} (hh : A.handled = none) (ht : s.heap.IsList t items)
    (hn : (assignEach elts env).length = items.size) (hstar : (assignEach elts env).findIdx? (·.1) = none)
    (h : ∀ h', Heap.ExtBut s.heap.objs.size s.heap h' → wpAny (model prog w) A (assignInOrder ((assignEach elts env).map (·.2)) items.toList) Q E { s with heap := h' }) :
    wpAny (model prog w) A (assign (.Tuple elts x1 pos) env (.ref t)) Q E s := by
  rw [assign_Tuple]
  refine wpAny_bind (wpAny_standAt ?_)
  unfold unpack
  rw [hn, hstar]
  exact wpAny_bind (wpAny_holding (unpackItems_list hh ht h))
end
/-! a, b, c, d = eL + eR -/
noncomputable def isUnp4 (us : Us) (N : List Str) (sc : Scope) (x y z u : Str) (eL eR : E) (st : Stmt) : Bool :=
  (dsAsg1 st).any fun t => noComp t.2 && (dsTup t.1).any (fun es => es.length == 4 && es.head?.any (fun a => dsN a == some x) && es.tail.head?.any (fun a => dsN a == some y) && es.tail.tail.head?.any (fun a => dsN a == some z) && es.tail.tail.tail.head?.any (fun a => dsN a == some u)) &&
    (dsBin t.2).any fun b => b.2.1 == .Add && chkE us N sc eL b.1 && chkE us N sc eR b.2.2
section
variable {prog : Program} {w : World} {hB h₀ : Heap} {mg mb : Str → Option Value} {us : Us} {N : List Str} {sc : Scope} {Γ : Str → List D → D → Prop} {n : Nat} {name : Str} {L : Addr} {a : Option Addr × Option Addr} {cd : Value} {cs : List (Str × Addr)}
theorem unp4_ok (C : Cx prog w hB h₀ mg mb us N sc Γ n name L a cd cs) {A : Around} {s : Shared} {ρ : List D} {i j k l : Nat} {x y z u : Str} {eL eR : E} {st : Stmt} {l1 l2 : List Int} {c1 c2 c3 c4 : Int} (hA : AOk n A) (S : St h₀ L N ρ s)
    (hx : N[i]? = some x) (hy : N[j]? = some y) (hz : N[k]? = some z) (hu : N[l]? = some u) (hc : isUnp4 us N sc x y z u eL eR st = true)
    (wL : wp Γ eL ρ (fun d => d = .list (l1.map .int))) (wR : wp Γ eR ρ (fun d => d = .list (l2.map .int))) (he : l1 ++ l2 = [c1, c2, c3, c4]) :
    wpAny (model prog w) A (exec st (eOf name sc L a cd cs)) (fun f s' => f = .next ∧ Tr L s s' ∧ St h₀ L N ((((ρ.set i (.int c1)).set j (.int c2)).set k (.int c3)).set l (.int c4)) s') Fls s := by
  unfold isUnp4 at hc
  simp only [Option.any_eq_true, Bool.and_eq_true, beq_iff_eq] at hc
  obtain ⟨t, ht, ⟨hnc, es, hes, ⟨⟨⟨hl4, e1, h1, n1⟩, e2, h2, n2⟩, e3, h3, n3⟩, e4, h4, n4⟩, b, hb, ⟨hop, cL⟩, cR⟩ := hc
  obtain ⟨p, rfl⟩ := iAsg1 ht
  obtain ⟨tg, v⟩ := t
  dsimp only at *
  obtain ⟨tk, tp, rfl⟩ := iTup hes
  have hes4 : es = [e1, e2, e3, e4] := by
    match es, hl4, h1, h2, h3, h4 with
    | [b1, b2, b3, b4], _, h1, h2, h3, h4 =>
      simp at h1 h2 h3 h4
      rw [h1, h2, h3, h4]
  subst hes4
  obtain ⟨q1, rfl⟩ := iN n1
  obtain ⟨q2, rfl⟩ := iN n2
  obtain ⟨q3, rfl⟩ := iN n3
  obtain ⟨q4, rfl⟩ := iN n4
  obtain ⟨pb, rfl⟩ := iBin hb
  rw [hop]
  rw [hop] at hnc
  rw [rw1] at wL wR
  refine Assign_Tuple (wpAny_BinOp (wpAny_mono ((sound C eL).val _ cL A s _ _ hA S wL) (fun v1 s₃ h₃ => ?_) fun _ _ x => x)) (noComp_sole hnc) rfl
  obtain ⟨k3, d, rv1, rfl⟩ := h₃
  refine wpAny_mono ((sound C eR).val _ cR A s₃ _ _ hA (S.keeps k3) wR) (fun v2 s₄ h₄ => ?_) fun _ _ x => x
  obtain ⟨k4, d, rv2, rfl⟩ := h₄
  obtain ⟨a1, vs1, rfl, il1, hv1⟩ := (rv1.keep (kSeq k4)).inv_list
  obtain ⟨a2, vs2, rfl, il2, hv2⟩ := rv2.inv_list
  have z1 := hv1.1
  have z2 := hv2.1
  rw [List.length_map] at z1 z2
  have z3 : l1.length + l2.length = 4 := by rw [← List.length_append, he]; rfl
  refine add_new il1 il2 (by (first | (clear C hA S hx hy hz hu wL wR he cR hop cL n1 n2 n3 n4 hl4 h1 h2 h3 h4 hes hnc hb ht k3 k4 rv1 il1 hv1 rv2 il2 hv2; omega) | omega)) fun h₅ k5 fr5 pl5 => ?_
  have S₄ := (S.keeps k3).keeps k4
  have kk5 : Keeps s₄ { s₄ with heap := h₅ } := ⟨h₅, s₄.toks, rfl, k5⟩
  have S₅ := S₄.keeps kk5
  have hrow : RVs h₅ (vs1 ++ vs2) ((l1 ++ l2).map .int) := by
    rw [List.map_append]
    exact (hv1.append hv2).keep (SeqK.of k5)
  rw [he] at hrow
  obtain ⟨v1, vs, ev, r1, hv⟩ := hrow.inv_cons
  obtain ⟨v2, vs, rfl, r2, hv⟩ := hv.inv_cons
  obtain ⟨v3, vs, rfl, r3, hv⟩ := hv.inv_cons
  obtain ⟨v4, vs, rfl, r4, hv⟩ := hv.inv_cons
  obtain rfl := hv.inv_nil
  rw [ev] at pl5
  refine assign_Tuple_list hA.1 pl5.isList rfl rfl fun h' hx' => ?_
  have k6 := extBut_keeps hx'
  have S6 := S₅.keeps k6
  refine assignInOrder_cons (PyProof.Rows.assign_Name (sto_ok C S6 hx (r1.keep (kSeq k6)) fun s₇ S₇ t₇ => ?_))
  refine assignInOrder_cons (PyProof.Rows.assign_Name (sto_ok C S₇ hy ((r2.keep (kSeq k6)).keep (st_seq S6 t₇)) fun s₈ S₈ t₈ => ?_))
  refine assignInOrder_cons (PyProof.Rows.assign_Name (sto_ok C S₈ hz (((r3.keep (kSeq k6)).keep (st_seq S6 t₇)).keep (st_seq S₇ t₈)) fun s₉ S₉ t₉ => ?_))
  refine assignInOrder_cons (PyProof.Rows.assign_Name (sto_ok C S₉ hu ((((r4.keep (kSeq k6)).keep (st_seq S6 t₇)).keep (st_seq S₇ t₈)).keep (st_seq S₈ t₉)) fun sA SA tA => ?_))
  exact assignInOrder_nil ⟨rfl, ((((((kTr k3).trans (kTr k4)).trans ((kTr kk5).trans (kTr k6))).trans t₇).trans t₈).trans t₉).trans tA, SA⟩
end

noncomputable def n_law : List Str := ["script", "a", "b", "c", "d", "M", "L", "K", "x", "w", "there", "back", "log", "again", "told"]
noncomputable def u_law : List B := [.list, .len, (.fn "_iexp"), (.fn "_ilog"), (.fn "_law_bound"), .abs, .bool, .int, .isinstance]
noncomputable def s_law_2b : S :=
  (.ite (.any (.cons (.isB (.var 14)) (.cons (.not (.isI (.var 14))) .nil)))
    (.ret (.bo false))
    .nil
  .nil)
noncomputable def s_law_2r : S :=
  (.ite (.cmp .Gt (.bin .Mult (.bin .Pow (.lit 10) (.lit 6)) (.bi .abs (.cons (.bin .Sub (.var 11) (.var 8)) .nil))) (.call "_law_bound" (.cons (.var 8) (.cons (.var 5) (.cons (.var 6) (.cons (.var 7) .nil))))))
    (.ret (.bo false))
    .nil
  (.ret (.cmp .LtE (.bin .Mult (.bin .Mult (.bin .Pow (.lit 10) (.lit 6)) (.var 5)) (.bi .abs (.cons (.bin .Sub (.var 13) (.var 9)) .nil))) (.bin .Mult (.var 9) (.call "_law_bound" (.cons (.var 12) (.cons (.var 5) (.cons (.var 6) (.cons (.var 7) .nil)))))))))
noncomputable def s_law_2 : S := .forL 14 (.lst (.cons (.var 10) (.cons (.var 11) (.cons (.var 12) (.cons (.var 13) .nil))))) s_law_2b s_law_2r
noncomputable def s_law_1j : S :=
  (.set 9 (.bin .Add (.bin .FloorDiv (.var 5) (.lit 6)) (.bin .Mod (.bin .Mult (.bi .abs (.cons (.var 4) .nil)) (.bin .Add (.bin .FloorDiv (.var 5) (.lit 7)) (.lit 1))) (.bin .Mult (.ite (.cmp .GtE (.var 4) (.lit 0)) (.lit 50) (.lit 1)) (.var 5))))
  (.set 10 (.call "_iexp" (.cons (.var 8) (.cons (.var 5) (.cons (.var 6) .nil))))
  (.set 11 (.call "_ilog" (.cons (.var 10) (.cons (.var 5) (.cons (.var 7) .nil))))
  (.set 12 (.call "_ilog" (.cons (.var 9) (.cons (.var 5) (.cons (.var 7) .nil))))
  (.set 13 (.call "_iexp" (.cons (.var 12) (.cons (.var 5) (.cons (.var 6) .nil))))
  s_law_2)))))
noncomputable def s_law_3t : S :=
  (.set 8 (.bin .Mod (.bin .Mult (.bi .abs (.cons (.var 3) .nil)) (.bin .Add (.bin .FloorDiv (.var 5) (.lit 7)) (.lit 1))) (.bin .Mult (.ite (.cmp .GtE (.var 3) (.lit 0)) (.lit 4) (.lit 2)) (.var 5)))
  (.ite (.cmp .Lt (.var 3) (.lit 0))
    (.set 8 (.neg (.var 8))
    .nil)
    .nil
  s_law_1j))
noncomputable def s_law_0 : S :=
  (.set 5 (.bin .Add (.bin .Pow (.lit 10) (.lit 6)) (.bin .Mod (.bi .abs (.cons (.var 1) .nil)) (.bin .Pow (.lit 10) (.lit 12))))
  (.set2 6 7 (.tup (.cons (.bin .Add (.lit 3) (.bin .Mod (.bi .abs (.cons (.var 2) .nil)) (.lit 8))) (.cons (.bin .Add (.lit 3) (.bin .Mod (.bin .FloorDiv (.bi .abs (.cons (.var 2) .nil)) (.lit 8)) (.lit 8))) .nil)))
  s_law_3t))
noncomputable def s_law : S := .opq "abcd" s_law_0

noncomputable def eL12 : E := .bi .list (.cons (.slc (.var 0) .nil (.lit 4)) .nil)
noncomputable def eR12 : E := .slc (.lst (.cons (.lit 0) (.cons (.lit 0) (.cons (.lit 7) (.cons (.neg (.lit 3)) .nil))))) (.bi .len (.cons (.slc (.var 0) .nil (.lit 4)) .nil)) .nil
noncomputable def drawn12 (ns : List Int) : List Int := ns.take 4 ++ ([0, 0, 7, -3] : List Int).drop (ns.take 4).length
theorem drawn12_ex (ns : List Int) : ∃ a b c d, drawn12 ns = [a, b, c, d] := by
  unfold drawn12
  match ns with
  | [] => exact ⟨_, _, _, _, rfl⟩
  | [a] => exact ⟨_, _, _, _, rfl⟩
  | [a, b] => exact ⟨_, _, _, _, rfl⟩
  | [a, b, c] => exact ⟨_, _, _, _, rfl⟩
  | a :: b :: c :: d :: r => exact ⟨a, b, c, d, by simp⟩
inductive G12 : Str → List D → D → Prop where
  | iexp (x M L : Int) (hM : 10 ^ 6 ≤ M) (hM' : M < 10 ^ 13) (hL : 3 ≤ L) (hL2 : L ≤ 10) (hx : (x.natAbs : Int) ≤ 4 * M) (hR : nR x M L ≤ 13) : G12 "_iexp" [.int x, .int M, .int L] (.int (iexp x M L))
  | ilog (X M K : Int) (hM : 10 ^ 6 ≤ M) (hM' : M < 10 ^ 13) (hK : 3 ≤ K) (hK' : K ≤ 10) (hp : PreI M X K) (sX : (X - M).natAbs < 2 ^ 61) : G12 "_ilog" [.int X, .int M, .int K] (.int (ilog X M K))
  | bound (x M L K : Int) (hM : 10 ^ 6 ≤ M) (hM' : M < 10 ^ 13) (hL : 3 ≤ L) (hL2 : L ≤ 10) (hK : 3 ≤ K) (hK' : K ≤ 10) (hx : (x.natAbs : Int) ≤ 4 * M) : G12 "_law_bound" [.int x, .int M, .int L, .int K] (.int (bnd12 x M L K))
  | abcd (ρ : List D) (ns : List Int) (hl : ns.length ≤ 63) (h : ρ[0]? = some (.list (ns.map .int))) (a b c d : Int) (he : drawn12 ns = [a, b, c, d]) : G12 "abcd" ρ (.list ((((ρ.set 1 (.int a)).set 2 (.int b)).set 3 (.int c)).set 4 (.int d)))
theorem iter12 {Γ : Str → List D → D → Prop} (ns : List Int) (hl : ns.length ≤ 63) (r : List D) : wp Γ eL12 (.list (ns.map .int) :: r) (fun d => d = .list ((ns.take 4).map .int)) ∧ wp Γ eR12 (.list (ns.map .int) :: r) (fun d => d = .list ((([0, 0, 7, -3] : List Int).drop (ns.take 4).length).map .int)) := by
  have e : cut (ns.map D.int) none (some 4) = (ns.take 4).map D.int := by
    rw [show (4 : Int) = ((4 : Nat) : Int) from rfl, cut_to, List.map_take]
  constructor
  · unfold eL12
    simp only [wlit, wbo, wvar, wbin, wneg, wnot, wcmp, wcmp2, wall, wany, wite, wcall, wbi, wisI, wisB, wlst, wtup, wslc, wand, wor, wnil, wcons, snil, sopq, srais, sret, sset, sset2, saug, site, Mine.get, binW_c_Add, binW_c_Sub, binW_c_Mult, binW_c_FloorDiv, binW_c_Mod, binW_c_Pow, binW_c_LShift, binW_c_RShift, binW_c_BitAnd, cmpW_c_Eq, cmpW_c_NotEq, cmpW_c_Lt, cmpW_c_LtE, cmpW_c_Gt, cmpW_c_GtE, biW_c_abs, biW_c_max, biW_c_int, biW_c_len, biW_c_str, biW_c_divmod, biW_c_list, biW_c_nbits, truth_c_undef, truth_c_none, truth_c_int, truth_c_bool, truth_c_str, truth_c_list, truth_c_tup, truth_c_obj, isBP, isIP, intP_c_undef, intP_c_none, intP_c_int, intP_c_bool, intP_c_str, intP_c_list, intP_c_tup, intP_c_obj, Mine.ii, ibP_c_undef, ibP_c_none, ibP_c_int, ibP_c_bool, ibP_c_str, ibP_c_list, ibP_c_tup, ibP_c_obj, ilP_c_undef, ilP_c_none, ilP_c_int, ilP_c_bool, ilP_c_str, ilP_c_list, ilP_c_tup, ilP_c_obj, slP_c_undef, slP_c_none, slP_c_int, slP_c_bool, slP_c_str, slP_c_list, slP_c_tup, slP_c_obj, tlP_c_undef, tlP_c_none, tlP_c_int, tlP_c_bool, tlP_c_str, tlP_c_list, tlP_c_tup, tlP_c_obj, lP_c_undef, lP_c_none, lP_c_int, lP_c_bool, lP_c_str, lP_c_list, lP_c_tup, lP_c_obj, tP_c_undef, tP_c_none, tP_c_int, tP_c_bool, tP_c_str, tP_c_list, tP_c_tup, tP_c_obj, Mine.l1, Mine.l2, Mine.l3, t2P, t3P, augW_c_Add, augW_c_Sub, augW_c_Mult, augW_c_FloorDiv, Mine.onN, cutP, partP, E.isNil, List.isEmpty_nil, List.isEmpty_cons, List.set, ne_eq, reduceCtorEq, not_false_eq_true, true_and, and_true, if_true, if_false, Bool.false_eq_true, Option.some.injEq, exists_eq_left', Bool.not_true, Bool.not_false]
    rw [e]
    exact ⟨by simp; (first | (clear e; omega) | omega), by simp; (first | (clear e; omega) | omega), rfl⟩
  · unfold eR12
    simp only [wlit, wbo, wvar, wbin, wneg, wnot, wcmp, wcmp2, wall, wany, wite, wcall, wbi, wisI, wisB, wlst, wtup, wslc, wand, wor, wnil, wcons, snil, sopq, srais, sret, sset, sset2, saug, site, Mine.get, binW_c_Add, binW_c_Sub, binW_c_Mult, binW_c_FloorDiv, binW_c_Mod, binW_c_Pow, binW_c_LShift, binW_c_RShift, binW_c_BitAnd, cmpW_c_Eq, cmpW_c_NotEq, cmpW_c_Lt, cmpW_c_LtE, cmpW_c_Gt, cmpW_c_GtE, biW_c_abs, biW_c_max, biW_c_int, biW_c_len, biW_c_str, biW_c_divmod, biW_c_list, biW_c_nbits, truth_c_undef, truth_c_none, truth_c_int, truth_c_bool, truth_c_str, truth_c_list, truth_c_tup, truth_c_obj, isBP, isIP, intP_c_undef, intP_c_none, intP_c_int, intP_c_bool, intP_c_str, intP_c_list, intP_c_tup, intP_c_obj, Mine.ii, ibP_c_undef, ibP_c_none, ibP_c_int, ibP_c_bool, ibP_c_str, ibP_c_list, ibP_c_tup, ibP_c_obj, ilP_c_undef, ilP_c_none, ilP_c_int, ilP_c_bool, ilP_c_str, ilP_c_list, ilP_c_tup, ilP_c_obj, slP_c_undef, slP_c_none, slP_c_int, slP_c_bool, slP_c_str, slP_c_list, slP_c_tup, slP_c_obj, tlP_c_undef, tlP_c_none, tlP_c_int, tlP_c_bool, tlP_c_str, tlP_c_list, tlP_c_tup, tlP_c_obj, lP_c_undef, lP_c_none, lP_c_int, lP_c_bool, lP_c_str, lP_c_list, lP_c_tup, lP_c_obj, tP_c_undef, tP_c_none, tP_c_int, tP_c_bool, tP_c_str, tP_c_list, tP_c_tup, tP_c_obj, Mine.l1, Mine.l2, Mine.l3, t2P, t3P, augW_c_Add, augW_c_Sub, augW_c_Mult, augW_c_FloorDiv, Mine.onN, cutP, partP, E.isNil, List.isEmpty_nil, List.isEmpty_cons, List.set, ne_eq, reduceCtorEq, not_false_eq_true, true_and, and_true, if_true, if_false, Bool.false_eq_true, Option.some.injEq, exists_eq_left', Bool.not_true, Bool.not_false]
    rw [e]
    refine ⟨by simp, by simp; (first | (clear e; omega) | omega), by simp; (first | (clear e; omega) | omega), by simp, ?_⟩
    rw [List.length_map, cut_from, List.map_drop]; rfl
theorem int_of_get {l : List Int} {j : Nat} {y : D} (h : (l.map D.int)[j]? = some y) : ∃ i, y = .int i := by
  rw [List.getElem?_map] at h
  cases e : l[j]? with
  | none => rw [e] at h; cases h
  | some i => rw [e] at h; exact ⟨i, (Option.some.inj h).symm⟩
/-- the last lines -/
theorem l12_end {d0 d1 d2 d3 d4 : D} {M L K x w : Int} (hM : 10 ^ 6 ≤ M) (hM' : M < 10 ^ 13) (hL : 3 ≤ L) (hL2 : L ≤ 10) (hK : 3 ≤ K) (hK' : K ≤ 10) (hlo : -(2 * M) ≤ x) (hhi : x ≤ 4 * M) (hw1 : M - 6 ≤ 6 * w) (hw2 : 6 * w ≤ 301 * M) :
    wpS G12 s_law_2 [d0, d1, d2, d3, d4, .int M, .int L, .int K, .int x, .int w, .int (iexp x M L), .int (ilog (iexp x M L) M K), .int (ilog w M K), .int (iexp (ilog w M K) M L), .undef] (fun o _ => o = some (.bool true)) := by
  have c1 := claim1 hM hM' hL hL2 hK hK' hlo hhi
  obtain ⟨r1, r2, c2⟩ := claim2 hM hM' hL hL2 hK hK' hw1 hw2
  have k1 := G12.bound x M L K hM hM' hL hL2 hK hK' (by (first | (clear hM hM' hL hL2 hK hK' hw1 hw2 c1 r1 r2 c2; omega) | omega))
  have k2 := G12.bound (ilog w M K) M L K hM hM' hL hL2 hK hK' (by (first | (clear hM hM' hL hL2 hK hK' hlo hhi hw1 hw2 c1 c2 k1; omega) | omega))
  have sM : M.natAbs < 2 ^ 44 := szofI (by (first | (clear hL hL2 hK hK' hlo hhi hw1 hw2 c1 r1 r2 c2 k1 k2; omega) | omega)) (by (first | (clear hL hL2 hK hK' hlo hhi hw1 hw2 c1 r1 r2 c2 k1 k2; omega) | omega))
  have sw : w.natAbs < 2 ^ 50 := szofI (by (first | (clear hL hL2 hK hK' hlo hhi c1 r1 r2 c2 k1 k2 sM; omega) | omega)) (by (first | (clear hL hL2 hK hK' hlo hhi hw1 c1 r1 r2 c2 k1 k2 sM; omega) | omega))
  have s6 : (10 ^ 6 * M).natAbs < 2 ^ 64 := szmul (i := 20) (by decide) sM
  have b6 := b10_le 6 (by decide) (by decide)
  have m1 : IntMulOk w (bnd12 (ilog w M K) M L K) := IntMulOk.of_left (Nat.le_trans (intBits_le sw) (by decide))
  have m2 : IntMulOk (10 ^ 6 * M) ((iexp (ilog w M K) M L - w).natAbs : Int) := IntMulOk.of_left (Nat.le_trans (intBits_le s6) (by decide))
  generalize iexp (ilog w M K) M L = v4 at *
  generalize ilog (iexp x M L) M K = v2 at *
  generalize iexp x M L = v1 at *
  generalize ilog w M K = v3 at *
  unfold s_law_2
  refine forL_ok (([v1, v2, v3, v4] : List Int).map .int) ?_ (fun _ ρ => ∃ d7, ρ = [d0, d1, d2, d3, d4, .int M, .int L, .int K, .int x, .int w, .int v1, .int v2, .int v3, .int v4, d7]) ⟨_, rfl⟩ ?_ ?_
  · simp only [wlit, wbo, wvar, wbin, wneg, wnot, wcmp, wcmp2, wall, wany, wite, wcall, wbi, wisI, wisB, wlst, wtup, wslc, wand, wor, wnil, wcons, snil, sopq, srais, sret, sset, sset2, saug, site, Mine.get, binW_c_Add, binW_c_Sub, binW_c_Mult, binW_c_FloorDiv, binW_c_Mod, binW_c_Pow, binW_c_LShift, binW_c_RShift, binW_c_BitAnd, cmpW_c_Eq, cmpW_c_NotEq, cmpW_c_Lt, cmpW_c_LtE, cmpW_c_Gt, cmpW_c_GtE, biW_c_abs, biW_c_max, biW_c_int, biW_c_len, biW_c_str, biW_c_divmod, biW_c_list, biW_c_nbits, truth_c_undef, truth_c_none, truth_c_int, truth_c_bool, truth_c_str, truth_c_list, truth_c_tup, truth_c_obj, isBP, isIP, intP_c_undef, intP_c_none, intP_c_int, intP_c_bool, intP_c_str, intP_c_list, intP_c_tup, intP_c_obj, Mine.ii, ibP_c_undef, ibP_c_none, ibP_c_int, ibP_c_bool, ibP_c_str, ibP_c_list, ibP_c_tup, ibP_c_obj, ilP_c_undef, ilP_c_none, ilP_c_int, ilP_c_bool, ilP_c_str, ilP_c_list, ilP_c_tup, ilP_c_obj, slP_c_undef, slP_c_none, slP_c_int, slP_c_bool, slP_c_str, slP_c_list, slP_c_tup, slP_c_obj, tlP_c_undef, tlP_c_none, tlP_c_int, tlP_c_bool, tlP_c_str, tlP_c_list, tlP_c_tup, tlP_c_obj, lP_c_undef, lP_c_none, lP_c_int, lP_c_bool, lP_c_str, lP_c_list, lP_c_tup, lP_c_obj, tP_c_undef, tP_c_none, tP_c_int, tP_c_bool, tP_c_str, tP_c_list, tP_c_tup, tP_c_obj, Mine.l1, Mine.l2, Mine.l3, t2P, t3P, augW_c_Add, augW_c_Sub, augW_c_Mult, augW_c_FloorDiv, Mine.onN, cutP, partP, E.isNil, List.isEmpty_nil, List.isEmpty_cons, List.set, ne_eq, reduceCtorEq, not_false_eq_true, true_and, and_true, if_true, if_false, Bool.false_eq_true, Option.some.injEq, exists_eq_left', Bool.not_true, Bool.not_false]
    simp
  · rintro j y ρ hx ⟨d7, rfl⟩
    obtain ⟨i, rfl⟩ := int_of_get hx
    unfold s_law_2b
    simp only [wlit, wbo, wvar, wbin, wneg, wnot, wcmp, wcmp2, wall, wany, wite, wcall, wbi, wisI, wisB, wlst, wtup, wslc, wand, wor, wnil, wcons, snil, sopq, srais, sret, sset, sset2, saug, site, Mine.get, binW_c_Add, binW_c_Sub, binW_c_Mult, binW_c_FloorDiv, binW_c_Mod, binW_c_Pow, binW_c_LShift, binW_c_RShift, binW_c_BitAnd, cmpW_c_Eq, cmpW_c_NotEq, cmpW_c_Lt, cmpW_c_LtE, cmpW_c_Gt, cmpW_c_GtE, biW_c_abs, biW_c_max, biW_c_int, biW_c_len, biW_c_str, biW_c_divmod, biW_c_list, biW_c_nbits, truth_c_undef, truth_c_none, truth_c_int, truth_c_bool, truth_c_str, truth_c_list, truth_c_tup, truth_c_obj, isBP, isIP, intP_c_undef, intP_c_none, intP_c_int, intP_c_bool, intP_c_str, intP_c_list, intP_c_tup, intP_c_obj, Mine.ii, ibP_c_undef, ibP_c_none, ibP_c_int, ibP_c_bool, ibP_c_str, ibP_c_list, ibP_c_tup, ibP_c_obj, ilP_c_undef, ilP_c_none, ilP_c_int, ilP_c_bool, ilP_c_str, ilP_c_list, ilP_c_tup, ilP_c_obj, slP_c_undef, slP_c_none, slP_c_int, slP_c_bool, slP_c_str, slP_c_list, slP_c_tup, slP_c_obj, tlP_c_undef, tlP_c_none, tlP_c_int, tlP_c_bool, tlP_c_str, tlP_c_list, tlP_c_tup, tlP_c_obj, lP_c_undef, lP_c_none, lP_c_int, lP_c_bool, lP_c_str, lP_c_list, lP_c_tup, lP_c_obj, tP_c_undef, tP_c_none, tP_c_int, tP_c_bool, tP_c_str, tP_c_list, tP_c_tup, tP_c_obj, Mine.l1, Mine.l2, Mine.l3, t2P, t3P, augW_c_Add, augW_c_Sub, augW_c_Mult, augW_c_FloorDiv, Mine.onN, cutP, partP, E.isNil, List.isEmpty_nil, List.isEmpty_cons, List.set, ne_eq, reduceCtorEq, not_false_eq_true, true_and, and_true, if_true, if_false, Bool.false_eq_true, Option.some.injEq, exists_eq_left', Bool.not_true, Bool.not_false]
    exact ⟨_, rfl⟩
  · rintro ρ ⟨d7, rfl⟩
    unfold s_law_2r
    simp only [wlit, wbo, wvar, wbin, wneg, wnot, wcmp, wcmp2, wall, wany, wite, wcall, wbi, wisI, wisB, wlst, wtup, wslc, wand, wor, wnil, wcons, snil, sopq, srais, sret, sset, sset2, saug, site, Mine.get, binW_c_Add, binW_c_Sub, binW_c_Mult, binW_c_FloorDiv, binW_c_Mod, binW_c_Pow, binW_c_LShift, binW_c_RShift, binW_c_BitAnd, cmpW_c_Eq, cmpW_c_NotEq, cmpW_c_Lt, cmpW_c_LtE, cmpW_c_Gt, cmpW_c_GtE, biW_c_abs, biW_c_max, biW_c_int, biW_c_len, biW_c_str, biW_c_divmod, biW_c_list, biW_c_nbits, truth_c_undef, truth_c_none, truth_c_int, truth_c_bool, truth_c_str, truth_c_list, truth_c_tup, truth_c_obj, isBP, isIP, intP_c_undef, intP_c_none, intP_c_int, intP_c_bool, intP_c_str, intP_c_list, intP_c_tup, intP_c_obj, Mine.ii, ibP_c_undef, ibP_c_none, ibP_c_int, ibP_c_bool, ibP_c_str, ibP_c_list, ibP_c_tup, ibP_c_obj, ilP_c_undef, ilP_c_none, ilP_c_int, ilP_c_bool, ilP_c_str, ilP_c_list, ilP_c_tup, ilP_c_obj, slP_c_undef, slP_c_none, slP_c_int, slP_c_bool, slP_c_str, slP_c_list, slP_c_tup, slP_c_obj, tlP_c_undef, tlP_c_none, tlP_c_int, tlP_c_bool, tlP_c_str, tlP_c_list, tlP_c_tup, tlP_c_obj, lP_c_undef, lP_c_none, lP_c_int, lP_c_bool, lP_c_str, lP_c_list, lP_c_tup, lP_c_obj, tP_c_undef, tP_c_none, tP_c_int, tP_c_bool, tP_c_str, tP_c_list, tP_c_tup, tP_c_obj, Mine.l1, Mine.l2, Mine.l3, t2P, t3P, augW_c_Add, augW_c_Sub, augW_c_Mult, augW_c_FloorDiv, Mine.onN, cutP, partP, E.isNil, List.isEmpty_nil, List.isEmpty_cons, List.set, ne_eq, reduceCtorEq, not_false_eq_true, true_and, and_true, if_true, if_false, Bool.false_eq_true, Option.some.injEq, exists_eq_left', Bool.not_true, Bool.not_false]
    rw [abs_if, abs_if, e6]
    have e1 : decide (10 ^ 6 * ((v2 - x).natAbs : Int) > bnd12 x M L K) = false := decide_eq_false (by (first | (clear hM hM' hL hL2 hK hK' hlo hhi hw1 hw2 k1 sM sw s6 b6 m2 r1 r2 k2 m1 c2; omega) | omega))
    have e2 : decide (10 ^ 6 * M * ((v4 - w).natAbs : Int) ≤ w * bnd12 v3 M L K) = true := decide_eq_true c2
    refine ⟨by decide, b6, .of_left (by decide), _, k1, ?_⟩
    first | dsimp only | simp only [ii, intP_c_undef, intP_c_none, intP_c_int, intP_c_bool, intP_c_str, intP_c_list, intP_c_tup, intP_c_obj]
    rw [e1]
    simp only [Bool.false_eq_true, if_false]
    refine ⟨by decide, b6, .of_left (by decide), m2, _, k2, ?_⟩
    first | dsimp only | simp only [ii, intP_c_undef, intP_c_none, intP_c_int, intP_c_bool, intP_c_str, intP_c_list, intP_c_tup, intP_c_obj]
    rw [e2]
    exact ⟨m1, rfl⟩
theorem l12_calls {d0 d1 d2 d3 d4 : D} {M L K x w : Int} (hM : 10 ^ 6 ≤ M) (hM' : M < 10 ^ 13) (hL : 3 ≤ L) (hL2 : L ≤ 10) (hK : 3 ≤ K) (hK' : K ≤ 10) (hlo : -(2 * M) ≤ x) (hhi : x ≤ 4 * M) (hw1 : M - 6 ≤ 6 * w) (hw2 : 6 * w ≤ 301 * M) :
    G12 "_iexp" [.int x, .int M, .int L] (.int (iexp x M L)) ∧ G12 "_ilog" [.int (iexp x M L), .int M, .int K] (.int (ilog (iexp x M L) M K)) ∧ G12 "_ilog" [.int w, .int M, .int K] (.int (ilog w M K)) ∧ G12 "_iexp" [.int (ilog w M K), .int M, .int L] (.int (iexp (ilog w M K) M L)) ∧
    wpS G12 s_law_2 [d0, d1, d2, d3, d4, .int M, .int L, .int K, .int x, .int w, .int (iexp x M L), .int (ilog (iexp x M L) M K), .int (ilog w M K), .int (iexp (ilog w M K) M L), .undef] (fun o _ => o = some (.bool true)) := by
  obtain ⟨z1, n1, p1⟩ := use1 hM hM' hL hL2 hlo hhi
  obtain ⟨g1, g2, -⟩ := claim2 hM hM' hL hL2 hK hK' hw1 hw2
  obtain ⟨-, n2, -⟩ := use1 hM hM' hL hL2 g1 g2
  have p2 := use2 hM hK hK' hw1 hw2
  have q1 := G12.iexp x M L hM hM' hL hL2 (by (first | (clear hM hM' hL hL2 hK hK' hw1 hw2 z1 n1 p1 g1 g2 n2 p2; omega) | omega)) n1
  have q2 := G12.ilog (iexp x M L) M K hM hM' hK hK' (p1 K hK hK') (by (first | (clear hL hL2 hK hK' hlo hhi hw1 hw2 n1 p1 g1 g2 n2 p2 q1; omega) | omega))
  have q3 := G12.ilog w M K hM hM' hK hK' p2 (by (first | (clear hL hL2 hK hK' hlo hhi z1 n1 p1 g1 g2 n2 p2 q1 q2; omega) | omega))
  have q4 := G12.iexp (ilog w M K) M L hM hM' hL hL2 (by (first | (clear hM hM' hL hL2 hK hK' hlo hhi hw1 hw2 z1 n1 p1 n2 p2 q1 q2 q3; omega) | omega)) n2
  have en := l12_end (d0 := d0) (d1 := d1) (d2 := d2) (d3 := d3) (d4 := d4) hM hM' hL hL2 hK hK' hlo hhi hw1 hw2
  exact ⟨q1, q2, q3, q4, en⟩

noncomputable def W12 (M d : Int) : Int := M / 6 + (d.natAbs : Int) * (M / 7 + 1) % ((if d ≥ 0 then 50 else 1) * M)
noncomputable def X12 (M c : Int) : Int := (c.natAbs : Int) * (M / 7 + 1) % ((if c ≥ 0 then 4 else 2) * M)
theorem W12_range {M d : Int} (hM : 10 ^ 6 ≤ M) : M - 6 ≤ 6 * W12 M d ∧ 6 * W12 M d ≤ 301 * M := by
  unfold W12
  split
  · have f2 := Int.emod_nonneg ((d.natAbs : Int) * (M / 7 + 1)) (show 50 * M ≠ 0 by omega)
    have f3 := Int.emod_lt_of_pos ((d.natAbs : Int) * (M / 7 + 1)) (show 0 < 50 * M by (first | (clear f2; omega) | omega))
    (first | (clear hM; omega) | omega)
  · have f2 := Int.emod_nonneg ((d.natAbs : Int) * (M / 7 + 1)) (show 1 * M ≠ 0 by omega)
    have f3 := Int.emod_lt_of_pos ((d.natAbs : Int) * (M / 7 + 1)) (show 0 < 1 * M by (first | (clear f2; omega) | omega))
    (first | (clear hM; omega) | omega)
theorem X12_range {M c : Int} (hM : 10 ^ 6 ≤ M) : 0 ≤ X12 M c ∧ X12 M c ≤ 4 * M ∧ (c < 0 → X12 M c ≤ 2 * M) := by
  unfold X12
  split
  · have f2 := Int.emod_nonneg ((c.natAbs : Int) * (M / 7 + 1)) (show 4 * M ≠ 0 by omega)
    have f3 := Int.emod_lt_of_pos ((c.natAbs : Int) * (M / 7 + 1)) (show 0 < 4 * M by (first | (clear f2; omega) | omega))
    (first | (clear hM; omega) | omega)
  · have f2 := Int.emod_nonneg ((c.natAbs : Int) * (M / 7 + 1)) (show 2 * M ≠ 0 by omega)
    have f3 := Int.emod_lt_of_pos ((c.natAbs : Int) * (M / 7 + 1)) (show 0 < 2 * M by (first | (clear f2; omega) | omega))
    (first | (clear hM; omega) | omega)
theorem mul7 {M c : Int} (hM : 10 ^ 6 ≤ M) (hM' : M < 10 ^ 13) : IntMulOk (c.natAbs : Int) (M / 7 + 1) := by
  have hs : (M / 7 + 1).natAbs < 2 ^ 50 := by omega
  exact IntMulOk.of_right (Nat.le_trans (intBits_le hs) (by decide))
theorem nzM {M : Int} (hM : 10 ^ 6 ≤ M) {k : Int} (hk : 1 ≤ k) : k * M ≠ 0 ∧ 0 ≤ k * M := by
  have := Int.mul_le_mul_of_nonneg_right hk (show 0 ≤ M by (first | (clear hk; omega) | omega))
  (first | (clear hk; omega) | omega)
theorem sel12 {c M : Int} {p q : Int} {P : Int → Prop} (h : P (if c ≥ 0 then p else q)) : (if decide (c ≥ 0) = true then P p else P q) := by
  by_cases hc : c ≥ 0
  · rw [if_pos hc] at h; rw [if_pos (decide_eq_true hc)]; exact h
  · rw [if_neg hc] at h; rw [if_neg (by simpa using hc)]; exact h
theorem w12 {d0 d1 d2 d3 d8 d9 : D} {M L K : D} {m d : Int} {r : List D} (hM : 10 ^ 6 ≤ m) (hM' : m < 10 ^ 13) :
    wp G12 (.bin .Add (.bin .FloorDiv (.var 5) (.lit 6)) (.bin .Mod (.bin .Mult (.bi .abs (.cons (.var 4) .nil)) (.bin .Add (.bin .FloorDiv (.var 5) (.lit 7)) (.lit 1))) (.bin .Mult (.ite (.cmp .GtE (.var 4) (.lit 0)) (.lit 50) (.lit 1)) (.var 5)))) (d0 :: d1 :: d2 :: d3 :: .int d :: .int m :: r) (fun v => v = .int (W12 m d)) := by
  have e6 : m.fdiv 6 = m / 6 := Int.fdiv_eq_ediv_of_nonneg _ (by decide)
  have e7 : m.fdiv 7 = m / 7 := Int.fdiv_eq_ediv_of_nonneg _ (by decide)
  simp only [wlit, wbo, wvar, wbin, wneg, wnot, wcmp, wcmp2, wall, wany, wite, wcall, wbi, wisI, wisB, wlst, wtup, wslc, wand, wor, wnil, wcons, snil, sopq, srais, sret, sset, sset2, saug, site, Mine.get, binW_c_Add, binW_c_Sub, binW_c_Mult, binW_c_FloorDiv, binW_c_Mod, binW_c_Pow, binW_c_LShift, binW_c_RShift, binW_c_BitAnd, cmpW_c_Eq, cmpW_c_NotEq, cmpW_c_Lt, cmpW_c_LtE, cmpW_c_Gt, cmpW_c_GtE, biW_c_abs, biW_c_max, biW_c_int, biW_c_len, biW_c_str, biW_c_divmod, biW_c_list, biW_c_nbits, truth_c_undef, truth_c_none, truth_c_int, truth_c_bool, truth_c_str, truth_c_list, truth_c_tup, truth_c_obj, isBP, isIP, intP_c_undef, intP_c_none, intP_c_int, intP_c_bool, intP_c_str, intP_c_list, intP_c_tup, intP_c_obj, Mine.ii, ibP_c_undef, ibP_c_none, ibP_c_int, ibP_c_bool, ibP_c_str, ibP_c_list, ibP_c_tup, ibP_c_obj, ilP_c_undef, ilP_c_none, ilP_c_int, ilP_c_bool, ilP_c_str, ilP_c_list, ilP_c_tup, ilP_c_obj, slP_c_undef, slP_c_none, slP_c_int, slP_c_bool, slP_c_str, slP_c_list, slP_c_tup, slP_c_obj, tlP_c_undef, tlP_c_none, tlP_c_int, tlP_c_bool, tlP_c_str, tlP_c_list, tlP_c_tup, tlP_c_obj, lP_c_undef, lP_c_none, lP_c_int, lP_c_bool, lP_c_str, lP_c_list, lP_c_tup, lP_c_obj, tP_c_undef, tP_c_none, tP_c_int, tP_c_bool, tP_c_str, tP_c_list, tP_c_tup, tP_c_obj, Mine.l1, Mine.l2, Mine.l3, t2P, t3P, augW_c_Add, augW_c_Sub, augW_c_Mult, augW_c_FloorDiv, Mine.onN, cutP, partP, E.isNil, List.isEmpty_nil, List.isEmpty_cons, List.set, ne_eq, reduceCtorEq, not_false_eq_true, true_and, and_true, if_true, if_false, Bool.false_eq_true, Option.some.injEq, exists_eq_left', Bool.not_true, Bool.not_false]
  rw [e6, e7, abs_if]
  refine ⟨by decide, by decide, by decide, by decide, mul7 hM hM', ?_⟩
  refine sel12 (M := m) (P := fun k => IntMulOk k m ∧ ¬ k * m = 0 ∧ D.int (m / 6 + ((d.natAbs : Int) * (m / 7 + 1)).fmod (k * m)) = D.int (W12 m d)) ?_
  unfold W12
  have hk : (1 : Int) ≤ (if d ≥ 0 then 50 else 1) ∧ IntMulOk (if d ≥ 0 then 50 else 1) m := by split <;> exact ⟨by decide, .of_left (by decide)⟩
  generalize (if d ≥ 0 then (50 : Int) else 1) = k at *
  refine ⟨hk.2, (nzM hM hk.1).1, ?_⟩
  rw [Int.fmod_eq_emod_of_nonneg _ (nzM hM hk.1).2]
theorem x12 {d0 d1 d2 d4 : D} {m c : Int} {r : List D} (hM : 10 ^ 6 ≤ m) (hM' : m < 10 ^ 13) :
    wp G12 (.bin .Mod (.bin .Mult (.bi .abs (.cons (.var 3) .nil)) (.bin .Add (.bin .FloorDiv (.var 5) (.lit 7)) (.lit 1))) (.bin .Mult (.ite (.cmp .GtE (.var 3) (.lit 0)) (.lit 4) (.lit 2)) (.var 5))) (d0 :: d1 :: d2 :: .int c :: d4 :: .int m :: r) (fun v => v = .int (X12 m c)) := by
  have e7 : m.fdiv 7 = m / 7 := Int.fdiv_eq_ediv_of_nonneg _ (by decide)
  simp only [wlit, wbo, wvar, wbin, wneg, wnot, wcmp, wcmp2, wall, wany, wite, wcall, wbi, wisI, wisB, wlst, wtup, wslc, wand, wor, wnil, wcons, snil, sopq, srais, sret, sset, sset2, saug, site, Mine.get, binW_c_Add, binW_c_Sub, binW_c_Mult, binW_c_FloorDiv, binW_c_Mod, binW_c_Pow, binW_c_LShift, binW_c_RShift, binW_c_BitAnd, cmpW_c_Eq, cmpW_c_NotEq, cmpW_c_Lt, cmpW_c_LtE, cmpW_c_Gt, cmpW_c_GtE, biW_c_abs, biW_c_max, biW_c_int, biW_c_len, biW_c_str, biW_c_divmod, biW_c_list, biW_c_nbits, truth_c_undef, truth_c_none, truth_c_int, truth_c_bool, truth_c_str, truth_c_list, truth_c_tup, truth_c_obj, isBP, isIP, intP_c_undef, intP_c_none, intP_c_int, intP_c_bool, intP_c_str, intP_c_list, intP_c_tup, intP_c_obj, Mine.ii, ibP_c_undef, ibP_c_none, ibP_c_int, ibP_c_bool, ibP_c_str, ibP_c_list, ibP_c_tup, ibP_c_obj, ilP_c_undef, ilP_c_none, ilP_c_int, ilP_c_bool, ilP_c_str, ilP_c_list, ilP_c_tup, ilP_c_obj, slP_c_undef, slP_c_none, slP_c_int, slP_c_bool, slP_c_str, slP_c_list, slP_c_tup, slP_c_obj, tlP_c_undef, tlP_c_none, tlP_c_int, tlP_c_bool, tlP_c_str, tlP_c_list, tlP_c_tup, tlP_c_obj, lP_c_undef, lP_c_none, lP_c_int, lP_c_bool, lP_c_str, lP_c_list, lP_c_tup, lP_c_obj, tP_c_undef, tP_c_none, tP_c_int, tP_c_bool, tP_c_str, tP_c_list, tP_c_tup, tP_c_obj, Mine.l1, Mine.l2, Mine.l3, t2P, t3P, augW_c_Add, augW_c_Sub, augW_c_Mult, augW_c_FloorDiv, Mine.onN, cutP, partP, E.isNil, List.isEmpty_nil, List.isEmpty_cons, List.set, ne_eq, reduceCtorEq, not_false_eq_true, true_and, and_true, if_true, if_false, Bool.false_eq_true, Option.some.injEq, exists_eq_left', Bool.not_true, Bool.not_false]
  rw [e7, abs_if]
  refine ⟨by decide, by decide, mul7 hM hM', ?_⟩
  refine sel12 (M := m) (P := fun k => IntMulOk k m ∧ ¬ k * m = 0 ∧ D.int (((c.natAbs : Int) * (m / 7 + 1)).fmod (k * m)) = D.int (X12 m c)) ?_
  unfold X12
  have hk : (1 : Int) ≤ (if c ≥ 0 then 4 else 2) ∧ IntMulOk (if c ≥ 0 then 4 else 2) m := by split <;> exact ⟨by decide, .of_left (by decide)⟩
  generalize (if c ≥ 0 then (4 : Int) else 2) = k at *
  refine ⟨hk.2, (nzM hM hk.1).1, ?_⟩
  rw [Int.fmod_eq_emod_of_nonneg _ (nzM hM hk.1).2]
theorem l12_w {d0 d1 d2 d3 : D} {M L K x d : Int} (hM : 10 ^ 6 ≤ M) (hM' : M < 10 ^ 13) (hL : 3 ≤ L) (hL2 : L ≤ 10) (hK : 3 ≤ K) (hK' : K ≤ 10) (hlo : -(2 * M) ≤ x) (hhi : x ≤ 4 * M) :
    wpS G12 s_law_1j [d0, d1, d2, d3, .int d, .int M, .int L, .int K, .int x, .undef, .undef, .undef, .undef, .undef, .undef] (fun o _ => o = some (.bool true)) := by
  obtain ⟨w1, w2⟩ := W12_range (d := d) hM
  obtain ⟨q1, q2, q3, q4, en⟩ := l12_calls (d0 := d0) (d1 := d1) (d2 := d2) (d3 := d3) (d4 := .int d) (w := W12 M d) hM hM' hL hL2 hK hK' hlo hhi w1 w2
  unfold s_law_1j
  rw [sset]
  refine wp_mono' (w12 (L := .undef) (M := .undef) (K := .undef) (d8 := .undef) (d9 := .undef) hM hM') fun r hr => ?_
  subst hr
  generalize W12 M d = w at *
  clear hM hM' hL hL2 hK hK' hlo hhi w1 w2
  simp only [wlit, wbo, wvar, wbin, wneg, wnot, wcmp, wcmp2, wall, wany, wite, wcall, wbi, wisI, wisB, wlst, wtup, wslc, wand, wor, wnil, wcons, snil, sopq, srais, sret, sset, sset2, saug, site, Mine.get, binW_c_Add, binW_c_Sub, binW_c_Mult, binW_c_FloorDiv, binW_c_Mod, binW_c_Pow, binW_c_LShift, binW_c_RShift, binW_c_BitAnd, cmpW_c_Eq, cmpW_c_NotEq, cmpW_c_Lt, cmpW_c_LtE, cmpW_c_Gt, cmpW_c_GtE, biW_c_abs, biW_c_max, biW_c_int, biW_c_len, biW_c_str, biW_c_divmod, biW_c_list, biW_c_nbits, truth_c_undef, truth_c_none, truth_c_int, truth_c_bool, truth_c_str, truth_c_list, truth_c_tup, truth_c_obj, isBP, isIP, intP_c_undef, intP_c_none, intP_c_int, intP_c_bool, intP_c_str, intP_c_list, intP_c_tup, intP_c_obj, Mine.ii, ibP_c_undef, ibP_c_none, ibP_c_int, ibP_c_bool, ibP_c_str, ibP_c_list, ibP_c_tup, ibP_c_obj, ilP_c_undef, ilP_c_none, ilP_c_int, ilP_c_bool, ilP_c_str, ilP_c_list, ilP_c_tup, ilP_c_obj, slP_c_undef, slP_c_none, slP_c_int, slP_c_bool, slP_c_str, slP_c_list, slP_c_tup, slP_c_obj, tlP_c_undef, tlP_c_none, tlP_c_int, tlP_c_bool, tlP_c_str, tlP_c_list, tlP_c_tup, tlP_c_obj, lP_c_undef, lP_c_none, lP_c_int, lP_c_bool, lP_c_str, lP_c_list, lP_c_tup, lP_c_obj, tP_c_undef, tP_c_none, tP_c_int, tP_c_bool, tP_c_str, tP_c_list, tP_c_tup, tP_c_obj, Mine.l1, Mine.l2, Mine.l3, t2P, t3P, augW_c_Add, augW_c_Sub, augW_c_Mult, augW_c_FloorDiv, Mine.onN, cutP, partP, E.isNil, List.isEmpty_nil, List.isEmpty_cons, List.set, ne_eq, reduceCtorEq, not_false_eq_true, true_and, and_true, if_true, if_false, Bool.false_eq_true, Option.some.injEq, exists_eq_left', Bool.not_true, Bool.not_false]
  exact ⟨_, q1, nofun, _, q2, _, q3, nofun, _, q4, en⟩
theorem l12_x {d0 d1 d2 : D} {M L K c d : Int} (hM : 10 ^ 6 ≤ M) (hM' : M < 10 ^ 13) (hL : 3 ≤ L) (hL2 : L ≤ 10) (hK : 3 ≤ K) (hK' : K ≤ 10) :
    wpS G12 s_law_3t [d0, d1, d2, .int c, .int d, .int M, .int L, .int K, .undef, .undef, .undef, .undef, .undef, .undef, .undef] (fun o _ => o = some (.bool true)) := by
  obtain ⟨x1, x2, x3⟩ := X12_range (c := c) hM
  have lw := fun (x : Int) h1 h2 => l12_w (d0 := d0) (d1 := d1) (d2 := d2) (d3 := .int c) (d := d) (x := x) hM hM' hL hL2 hK hK' h1 h2
  unfold s_law_3t
  rw [sset]
  refine wp_mono' (x12 hM hM') fun r hr => ?_
  subst hr
  generalize X12 M c = x at *
  simp only [wlit, wbo, wvar, wbin, wneg, wnot, wcmp, wcmp2, wall, wany, wite, wcall, wbi, wisI, wisB, wlst, wtup, wslc, wand, wor, wnil, wcons, snil, sopq, srais, sret, sset, sset2, saug, site, Mine.get, binW_c_Add, binW_c_Sub, binW_c_Mult, binW_c_FloorDiv, binW_c_Mod, binW_c_Pow, binW_c_LShift, binW_c_RShift, binW_c_BitAnd, cmpW_c_Eq, cmpW_c_NotEq, cmpW_c_Lt, cmpW_c_LtE, cmpW_c_Gt, cmpW_c_GtE, biW_c_abs, biW_c_max, biW_c_int, biW_c_len, biW_c_str, biW_c_divmod, biW_c_list, biW_c_nbits, truth_c_undef, truth_c_none, truth_c_int, truth_c_bool, truth_c_str, truth_c_list, truth_c_tup, truth_c_obj, isBP, isIP, intP_c_undef, intP_c_none, intP_c_int, intP_c_bool, intP_c_str, intP_c_list, intP_c_tup, intP_c_obj, Mine.ii, ibP_c_undef, ibP_c_none, ibP_c_int, ibP_c_bool, ibP_c_str, ibP_c_list, ibP_c_tup, ibP_c_obj, ilP_c_undef, ilP_c_none, ilP_c_int, ilP_c_bool, ilP_c_str, ilP_c_list, ilP_c_tup, ilP_c_obj, slP_c_undef, slP_c_none, slP_c_int, slP_c_bool, slP_c_str, slP_c_list, slP_c_tup, slP_c_obj, tlP_c_undef, tlP_c_none, tlP_c_int, tlP_c_bool, tlP_c_str, tlP_c_list, tlP_c_tup, tlP_c_obj, lP_c_undef, lP_c_none, lP_c_int, lP_c_bool, lP_c_str, lP_c_list, lP_c_tup, lP_c_obj, tP_c_undef, tP_c_none, tP_c_int, tP_c_bool, tP_c_str, tP_c_list, tP_c_tup, tP_c_obj, Mine.l1, Mine.l2, Mine.l3, t2P, t3P, augW_c_Add, augW_c_Sub, augW_c_Mult, augW_c_FloorDiv, Mine.onN, cutP, partP, E.isNil, List.isEmpty_nil, List.isEmpty_cons, List.set, ne_eq, reduceCtorEq, not_false_eq_true, true_and, and_true, if_true, if_false, Bool.false_eq_true, Option.some.injEq, exists_eq_left', Bool.not_true, Bool.not_false]
  by_cases hc : c < 0
  · rw [if_pos (decide_eq_true hc)]
    exact lw _ (by have := x3 hc; (first | (clear hM hM' hL hL2 hK hK' lw x1 x2 x3 hc; omega) | omega)) (by (first | (clear hM hM' hL hL2 hK hK' lw x3 hc; omega) | omega))
  · rw [if_neg (by simpa using hc)]
    exact lw _ (by (first | (clear hM hM' hL hL2 hK hK' lw x3 hc; omega) | omega)) x2
theorem l12_law (ns : List Int) (hl : ns.length ≤ 63) : wpS G12 s_law (.list (ns.map .int) :: List.replicate 14 .undef) (fun o _ => o = some (.bool true)) := by
  obtain ⟨a, b, c, d, he⟩ := drawn12_ex ns
  have e6 : (10 : Int) ^ (6 : Int).toNat = 10 ^ 6 := rfl
  have e12 : (10 : Int) ^ (12 : Int).toNat = 10 ^ 12 := rfl
  have e8 : ∀ z : Int, z.fmod 8 = z % 8 := fun z => Int.fmod_eq_emod_of_nonneg _ (by decide)
  have d8 : ∀ z : Int, z.fdiv 8 = z / 8 := fun z => Int.fdiv_eq_ediv_of_nonneg _ (by decide)
  have em : ∀ z : Int, z.fmod (10 ^ 12) = z % (10 ^ 12) := fun z => Int.fmod_eq_emod_of_nonneg _ (by decide)
  unfold s_law
  simp only [sopq]
  refine ⟨_, .abcd _ ns hl rfl a b c d he, ?_⟩
  have q1 := Int.emod_nonneg (a.natAbs : Int) (show (10 : Int) ^ 12 ≠ 0 by decide)
  have q2 := Int.emod_lt_of_pos (a.natAbs : Int) (show (0 : Int) < 10 ^ 12 by decide)
  have q3 := Int.emod_nonneg (b.natAbs : Int) (show (8 : Int) ≠ 0 by decide)
  have q4 := Int.emod_lt_of_pos (b.natAbs : Int) (show (0 : Int) < 8 by decide)
  have q5 := Int.emod_nonneg ((b.natAbs : Int) / 8) (show (8 : Int) ≠ 0 by decide)
  have q6 := Int.emod_lt_of_pos ((b.natAbs : Int) / 8) (show (0 : Int) < 8 by decide)
  have hx := l12_x (d0 := .list (ns.map .int)) (d1 := .int a) (d2 := .int b) (c := c) (d := d) (M := 10 ^ 6 + (a.natAbs : Int) % 10 ^ 12) (L := 3 + (b.natAbs : Int) % 8) (K := 3 + (b.natAbs : Int) / 8 % 8) (by (first | (clear hl he e6 e12 e8 d8 em q2 q3 q4 q5 q6; omega) | omega)) (by (first | (clear hl he e6 e12 e8 d8 em q2 q3 q4 q5 q6; omega) | omega)) (by (first | (clear hl he e6 e12 e8 d8 em q1 q2 q4 q5 q6; omega) | omega)) (by (first | (clear hl he e6 e12 e8 d8 em q1 q2 q4 q5 q6; omega) | omega)) (by (first | (clear hl he e6 e12 e8 d8 em q1 q2 q3 q4 q6; omega) | omega)) (by (first | (clear hl he e6 e12 e8 d8 em q1 q2 q3 q4 q6; omega) | omega))
  have b6 := b10_le 6 (by decide) (by decide)
  have b12 := b10_le 12 (by decide) (by decide)
  unfold s_law_0
  simp only [wlit, wbo, wvar, wbin, wneg, wnot, wcmp, wcmp2, wall, wany, wite, wcall, wbi, wisI, wisB, wlst, wtup, wslc, wand, wor, wnil, wcons, snil, sopq, srais, sret, sset, sset2, saug, site, Mine.get, binW_c_Add, binW_c_Sub, binW_c_Mult, binW_c_FloorDiv, binW_c_Mod, binW_c_Pow, binW_c_LShift, binW_c_RShift, binW_c_BitAnd, cmpW_c_Eq, cmpW_c_NotEq, cmpW_c_Lt, cmpW_c_LtE, cmpW_c_Gt, cmpW_c_GtE, biW_c_abs, biW_c_max, biW_c_int, biW_c_len, biW_c_str, biW_c_divmod, biW_c_list, biW_c_nbits, truth_c_undef, truth_c_none, truth_c_int, truth_c_bool, truth_c_str, truth_c_list, truth_c_tup, truth_c_obj, isBP, isIP, intP_c_undef, intP_c_none, intP_c_int, intP_c_bool, intP_c_str, intP_c_list, intP_c_tup, intP_c_obj, Mine.ii, ibP_c_undef, ibP_c_none, ibP_c_int, ibP_c_bool, ibP_c_str, ibP_c_list, ibP_c_tup, ibP_c_obj, ilP_c_undef, ilP_c_none, ilP_c_int, ilP_c_bool, ilP_c_str, ilP_c_list, ilP_c_tup, ilP_c_obj, slP_c_undef, slP_c_none, slP_c_int, slP_c_bool, slP_c_str, slP_c_list, slP_c_tup, slP_c_obj, tlP_c_undef, tlP_c_none, tlP_c_int, tlP_c_bool, tlP_c_str, tlP_c_list, tlP_c_tup, tlP_c_obj, lP_c_undef, lP_c_none, lP_c_int, lP_c_bool, lP_c_str, lP_c_list, lP_c_tup, lP_c_obj, tP_c_undef, tP_c_none, tP_c_int, tP_c_bool, tP_c_str, tP_c_list, tP_c_tup, tP_c_obj, Mine.l1, Mine.l2, Mine.l3, t2P, t3P, augW_c_Add, augW_c_Sub, augW_c_Mult, augW_c_FloorDiv, Mine.onN, cutP, partP, E.isNil, List.isEmpty_nil, List.isEmpty_cons, List.set, ne_eq, reduceCtorEq, not_false_eq_true, true_and, and_true, if_true, if_false, Bool.false_eq_true, Option.some.injEq, exists_eq_left', Bool.not_true, Bool.not_false]
  simp only [List.replicate]
  simp only [wlit, wbo, wvar, wbin, wneg, wnot, wcmp, wcmp2, wall, wany, wite, wcall, wbi, wisI, wisB, wlst, wtup, wslc, wand, wor, wnil, wcons, snil, sopq, srais, sret, sset, sset2, saug, site, Mine.get, binW_c_Add, binW_c_Sub, binW_c_Mult, binW_c_FloorDiv, binW_c_Mod, binW_c_Pow, binW_c_LShift, binW_c_RShift, binW_c_BitAnd, cmpW_c_Eq, cmpW_c_NotEq, cmpW_c_Lt, cmpW_c_LtE, cmpW_c_Gt, cmpW_c_GtE, biW_c_abs, biW_c_max, biW_c_int, biW_c_len, biW_c_str, biW_c_divmod, biW_c_list, biW_c_nbits, truth_c_undef, truth_c_none, truth_c_int, truth_c_bool, truth_c_str, truth_c_list, truth_c_tup, truth_c_obj, isBP, isIP, intP_c_undef, intP_c_none, intP_c_int, intP_c_bool, intP_c_str, intP_c_list, intP_c_tup, intP_c_obj, Mine.ii, ibP_c_undef, ibP_c_none, ibP_c_int, ibP_c_bool, ibP_c_str, ibP_c_list, ibP_c_tup, ibP_c_obj, ilP_c_undef, ilP_c_none, ilP_c_int, ilP_c_bool, ilP_c_str, ilP_c_list, ilP_c_tup, ilP_c_obj, slP_c_undef, slP_c_none, slP_c_int, slP_c_bool, slP_c_str, slP_c_list, slP_c_tup, slP_c_obj, tlP_c_undef, tlP_c_none, tlP_c_int, tlP_c_bool, tlP_c_str, tlP_c_list, tlP_c_tup, tlP_c_obj, lP_c_undef, lP_c_none, lP_c_int, lP_c_bool, lP_c_str, lP_c_list, lP_c_tup, lP_c_obj, tP_c_undef, tP_c_none, tP_c_int, tP_c_bool, tP_c_str, tP_c_list, tP_c_tup, tP_c_obj, Mine.l1, Mine.l2, Mine.l3, t2P, t3P, augW_c_Add, augW_c_Sub, augW_c_Mult, augW_c_FloorDiv, Mine.onN, cutP, partP, E.isNil, List.isEmpty_nil, List.isEmpty_cons, List.set, ne_eq, reduceCtorEq, not_false_eq_true, true_and, and_true, if_true, if_false, Bool.false_eq_true, Option.some.injEq, exists_eq_left', Bool.not_true, Bool.not_false]
  rw [e6, e12, abs_if, abs_if, em, e8, d8, e8]
  exact ⟨by decide, b6, by decide, b12, by decide, by decide, by decide, by decide, by decide, by show (2 : Nat) ≤ 2 ^ 20; decide, hx⟩

noncomputable def us0 : Us := pl u_law
noncomputable def us12 (sc : Scope) : Us := ⟨u_law, fun _ _ => false, fun _ _ => false, fun x st => x == "abcd" && isUnp4 us0 n_law sc "a" "b" "c" "d" eL12 eR12 st, fun _ => True⟩
theorem law12 {prog : Program} {w : World} {hB h₁ : Heap} {mg mb : Str → Option Value} {sc : Scope} {n : Nat} {name : Str} {L a : Addr} {cd : Value} {A : Around} {l : Addr} {vs : List Value} {ns : List Int}
    {body : List Stmt} {s : Shared} (W : Wd hB mg mb u_law) (G : ∀ (f : Str) ds r, f ≠ "abcd" → G12 f ds r → CallsTo prog w hB mg n f ds r)
    (hk : (sc.kind == .function && n_law.all (fun x => sc.names.lookup x == some .local && x != "__debug__")) = true) (hchk : chkS (us12 sc) n_law sc s_law body = true)
    (F : Fr hB L h₁ (fun y => List.lookup y [(("script" : Str), Value.ref l)].reverse)) (hl : hB.IsList l vs.toArray) (hi : IntsAre vs ns) (hA : AOk n A) (hs : s.heap = h₁) (hlen : ns.length ≤ 63) :
    wpAny (model prog w) A (execs body (envOf name sc L a cd)) (fun f s' => f = .ret (.bool true) ∧ ∃ m h' tk, s' = { s with heap := h', toks := tk } ∧ Fr hB L h' m) Fls s := by
  subst hs
  simp only [Bool.and_eq_true, beq_iff_eq, List.all_eq_true, bne_iff_ne, ne_eq] at hk
  obtain ⟨h2, h3⟩ := hk
  have hL : ∀ b o, hB.get? b = some o → b ≠ L := fun b o e => Nat.ne_of_lt (Nat.lt_of_lt_of_le (Heap.lt_size e) F.above)
  have hloc : ∀ x ∈ n_law, sc.names.lookup x = some .local ∧ (x == ("__debug__" : Str)) = false := fun y hy => ⟨(h3 y hy).1, beq_eq_false_iff_ne.mpr (h3 y hy).2⟩
  have C0 : Cx prog w hB hB mg mb us0 n_law sc (fun _ _ _ => False) n (name ++ ".<locals>.") L (some a, some L) cd [] := ⟨W, fun _ _ _ _ h => h.elim, h2, hloc, by decide, fun b o e => ⟨hL b o e, e⟩, fun _ _ _ _ h => h.elim, fun _ _ _ _ h => h.elim, fun _ _ _ _ h => h.elim⟩
  have C : Cx prog w hB hB mg mb (us12 sc) n_law sc G12 n (name ++ ".<locals>.") L (some a, some L) cd [] := by
    refine ⟨W, fun f ds r hf h => G f ds r (fun e => ?_) h, h2, hloc, by decide, fun b o e => ⟨hL b o e, e⟩, fun _ _ _ _ _ _ h => (by cases h), fun _ _ _ _ _ h => (by cases h), fun x ρ ρ' st hr ho A s hA _ S => ?_⟩
    · subst e; exact absurd (show u_law.contains (.fn "abcd") = true from hf) (by decide)
    · simp only [us12, Bool.and_eq_true, beq_iff_eq] at ho
      obtain ⟨rfl, ho⟩ := ho
      generalize hx : ("abcd" : Str) = x1 at hr
      generalize hrr : D.list ρ' = rr at hr
      cases hr with
      | iexp => exact absurd hx (by decide)
      | ilog => exact absurd hx (by decide)
      | bound => exact absurd hx (by decide)
      | abcd _ ns' hl' h0 c1 c2 c3 c4 he =>
        cases hrr
        match ρ, h0 with
        | d0 :: r, h0 =>
          obtain rfl : d0 = .list (ns'.map .int) := by simpa using h0
          obtain ⟨wL, wR⟩ := iter12 (Γ := fun _ _ _ => False) ns' hl' r
          exact unp4_ok C0 (i := 1) (j := 2) (k := 3) (l := 4) hA S rfl rfl rfl rfl ho wL wR he
  have hr : RV s.heap (.ref l) (.list (ns.map .int)) := by
    have r := ints_rv (h := s.heap) hi
    obtain ⟨o, ho, hc, k, hd⟩ := hl
    exact .list ⟨o, F.keep _ _ ho, hc, k, hd⟩ r.1 r.2
  have S₁ : St hB L n_law (.list (ns.map .int) :: List.replicate 14 .undef) s := by
    refine ⟨_, ⟨F.ns, fun b o _ e => F.keep b o e⟩, fun i y d e1 e2 e3 => ?_⟩
    cases i with
    | zero =>
      simp [n_law] at e1 e2
      subst e1; subst e2
      exact ⟨_, by simp [List.lookup], hr⟩
    | succ i =>
      simp only [List.getElem?_cons_succ, List.getElem?_replicate] at e2
      split at e2
      · exact absurd (Option.some.inj e2).symm e3
      · cases e2
  exact law_tail C F.above hA trivial S₁ hchk (l12_law ns hlen) ⟨_, _, rfl⟩
set_option maxHeartbeats 8000000 in
open_top hd for PySem.Challenge.rw_dm0265_12
noncomputable abbrev KK (w : World) : Frag := hd.heap_39 w.params
noncomputable def fdOf (w : World) (f : Str) : FuncData := ((fnAt (KK w) f).getD (0, default)).2
noncomputable def adOf (w : World) (f : Str) : Addr := ((fnAt (KK w) f).getD (0, default)).1
theorem f_div (w : World) : fnAt (KK w) "_div_nearest" = some (adOf w "_div_nearest", fdOf w "_div_nearest") := by kernel_rfl
theorem c_div (w : World) : chkFn u_divnearest n_divnearest p_divnearest s_divnearest (fdOf w "_div_nearest") = true := by kernel_rfl
theorem b_div (w : World) (a b : Value) : bindArgs (fdOf w "_div_nearest") ⟨[a, b], []⟩ = pure [(("a" : Str), a), (("b" : Str), b)] := by kernel_rfl
theorem f_sqrt (w : World) : fnAt (KK w) "_sqrt_nearest" = some (adOf w "_sqrt_nearest", fdOf w "_sqrt_nearest") := by kernel_rfl
theorem c_sqrt (w : World) : chkFn u_sqrtnearest n_sqrtnearest p_sqrtnearest s_sqrtnearest (fdOf w "_sqrt_nearest") = true := by kernel_rfl
theorem b_sqrt (w : World) (a b : Value) : bindArgs (fdOf w "_sqrt_nearest") ⟨[a, b], []⟩ = pure [(("n" : Str), a), (("a" : Str), b)] := by kernel_rfl
theorem f_rsh (w : World) : fnAt (KK w) "_rshift_nearest" = some (adOf w "_rshift_nearest", fdOf w "_rshift_nearest") := by kernel_rfl
theorem c_rsh (w : World) : chkFn u_rshiftnearest n_rshiftnearest p_rshiftnearest s_rshiftnearest (fdOf w "_rshift_nearest") = true := by kernel_rfl
theorem b_rsh (w : World) (a b : Value) : bindArgs (fdOf w "_rshift_nearest") ⟨[a, b], []⟩ = pure [(("x" : Str), a), (("shift" : Str), b)] := by kernel_rfl
theorem f_trn (w : World) : fnAt (KK w) "_law_turns" = some (adOf w "_law_turns", fdOf w "_law_turns") := by kernel_rfl
theorem c_trn (w : World) : chkFn u_lawturns n_lawturns p_lawturns s_lawturns (fdOf w "_law_turns") = true := by kernel_rfl
theorem b_trn (w : World) (a b c : Value) : bindArgs (fdOf w "_law_turns") ⟨[a, b, c], []⟩ = pure [(("x" : Str), a), (("M" : Str), b), (("L" : Str), c)] := by kernel_rfl
theorem f_bnd (w : World) : fnAt (KK w) "_law_bound" = some (adOf w "_law_bound", fdOf w "_law_bound") := by kernel_rfl
theorem c_bnd (w : World) : chkFn u_lawbound n_lawbound p_lawbound s_lawbound (fdOf w "_law_bound") = true := by kernel_rfl
theorem b_bnd (w : World) (a b c d : Value) : bindArgs (fdOf w "_law_bound") ⟨[a, b, c, d], []⟩ = pure [(("x" : Str), a), (("M" : Str), b), (("L" : Str), c), (("K" : Str), d)] := by kernel_rfl
theorem f_iexp (w : World) : fnAt (KK w) "_iexp" = some (adOf w "_iexp", fdOf w "_iexp") := by kernel_rfl
theorem c_iexp (w : World) : chkFn u_iexp n_iexp p_iexp s_iexp (fdOf w "_iexp") = true := by kernel_rfl
theorem b_iexp (w : World) (a b c : Value) (S : Setting) : peek (KK w) S (bindArgs (fdOf w "_iexp") ⟨[a, b, c], []⟩) = some [(("x" : Str), a), (("M" : Str), b), (("L" : Str), c)] := by kernel_rfl
theorem bt_iexp {w : World} {hB : Heap} (KX : (KK w).In hB) (s : Shared) (vs : List Value) (hk : Kp hB s.heap) (hl : vs.length = p_iexp.length) : BindsTo s (fdOf w "_iexp") ⟨vs, []⟩ (p_iexp.zip vs) := by
  match vs, hl with
  | [a, b, c], _ => exact kp_binds (KX.keeps hk) (b_iexp w a b c)
theorem f_ilog (w : World) : fnAt (KK w) "_ilog" = some (adOf w "_ilog", fdOf w "_ilog") := by kernel_rfl
theorem c_ilog (w : World) : chkFn u_ilog n_ilog p_ilog s_ilog (fdOf w "_ilog") = true := by kernel_rfl
theorem b_ilog (w : World) (a b c : Value) (S : Setting) : peek (KK w) S (bindArgs (fdOf w "_ilog") ⟨[a, b, c], []⟩) = some [(("x" : Str), a), (("M" : Str), b), (("L" : Str), c)] := by kernel_rfl
theorem bt_ilog {w : World} {hB : Heap} (KX : (KK w).In hB) (s : Shared) (vs : List Value) (hk : Kp hB s.heap) (hl : vs.length = p_ilog.length) : BindsTo s (fdOf w "_ilog") ⟨vs, []⟩ (p_ilog.zip vs) := by
  match vs, hl with
  | [a, b, c], _ => exact kp_binds (KX.keeps hk) (b_ilog w a b c)
theorem us_ok (w : World) : u_law.all (chkB (KK w)) = true := by kernel_rfl
theorem us_div (w : World) : u_divnearest.all (chkB (KK w)) = true := by kernel_rfl
theorem us_iexp (w : World) : u_iexp.all (chkB (KK w)) = true := by kernel_rfl
theorem us_ilog (w : World) : u_ilog.all (chkB (KK w)) = true := by kernel_rfl
theorem us_nil (w : World) : ([] : List B).all (chkB (KK w)) = true := by kernel_rfl
theorem us_trn (w : World) : u_lawturns.all (chkB (KK w)) = true := by kernel_rfl
theorem us_bnd (w : World) : u_lawbound.all (chkB (KK w)) = true := by kernel_rfl
section
variable {prog : Program} {w : World} {hB : Heap} {p : Program} {loose : List Str} {mean : ExcName → Option Value} {mg mb : Str → Option Value}
theorem tri_zip {names : List Str} {fd : FuncData} {x y z : Str} (hn : names = [x, y, z]) (hb : ∀ a b c, bindArgs fd ⟨[a, b, c], []⟩ = pure [(x, a), (y, b), (z, c)]) (s : Shared) (vs : List Value) (hl : vs.length = names.length) : BindsTo s fd ⟨vs, []⟩ (names.zip vs) := by
  subst hn
  match vs, hl with
  | [a, b, c], _ => exact BindsTo.of_eq (hb a b c)
theorem quad_zip {names : List Str} {fd : FuncData} {x y z u : Str} (hn : names = [x, y, z, u]) (hb : ∀ a b c d, bindArgs fd ⟨[a, b, c, d], []⟩ = pure [(x, a), (y, b), (z, c), (u, d)]) (s : Shared) (vs : List Value) (hl : vs.length = names.length) : BindsTo s fd ⟨vs, []⟩ (names.zip vs) := by
  subst hn
  match vs, hl with
  | [a, b, c, d], _ => exact BindsTo.of_eq (hb a b c d)
theorem gd_ok (KX : (KK w).In hB) (T : Top p loose mean mg mb hB) (f : Str) (ds : List D) (r : D) (h : GD f ds r) : CallsTo prog w hB mg 1 f ds r := by
  cases h with
  | div a b hb hs => exact callsTo_ok KX (wd_of KX T (us_div w)) (f_div w) (c_div w) (Γ := fun _ _ _ => False) (fun _ _ _ h => h.elim) (fun s vs _ hl => two_zip rfl (b_div w) s vs hl) rfl (div_body a b hb hs)
theorem ga_ok (KX : (KK w).In hB) (T : Top p loose mean mg mb hB) (f : Str) (ds : List D) (r : D) (h : GA f ds r) : CallsTo prog w hB mg 1 f ds r := by
  cases h with
  | div a b hb hs => exact callsTo_ok KX (wd_of KX T (us_div w)) (f_div w) (c_div w) (Γ := fun _ _ _ => False) (fun _ _ _ h => h.elim) (fun s vs _ hl => two_zip rfl (b_div w) s vs hl) rfl (div_body a b hb hs)
  | sqrt m a hn ha hn' ha' => exact callsTo_ok KX (wd_of KX T (us_nil w)) (f_sqrt w) (c_sqrt w) (Γ := fun _ _ _ => False) (fun _ _ _ h => h.elim) (fun s vs _ hl => two_zip rfl (b_sqrt w) s vs hl) rfl (sqrt_body m a hn ha hn' ha')
  | rsh x k hk => exact callsTo_ok KX (wd_of KX T (us_nil w)) (f_rsh w) (c_rsh w) (Γ := fun _ _ _ => False) (fun _ _ _ h => h.elim) (fun s vs _ hl => two_zip rfl (b_rsh w) s vs hl) rfl (rsh_body x k hk)
theorem gt_ok (KX : (KK w).In hB) (T : Top p loose mean mg mb hB) (f : Str) (ds : List D) (r : D) (h : GT f ds r) : CallsTo prog w hB mg 1 f ds r := by
  cases h with
  | turns x M L hM sM sx hL hL2 ht => exact callsTo_ok KX (wd_of KX T (us_trn w)) (f_trn w) (c_trn w) (Γ := fun _ _ _ => False) (fun _ _ _ h => h.elim) (fun s vs _ hl => tri_zip rfl (b_trn w) s vs hl) rfl (turns_body x M L hM sM sx hL hL2 ht)
theorem g_ok (KX : (KK w).In hB) (T : Top p loose mean mg mb hB) (f : Str) (ds : List D) (r : D) (hf : f ≠ "abcd") (h : G12 f ds r) : CallsTo prog w hB mg 2 f ds r := by
  cases h with
  | iexp x M L hM hM' hL hL2 hx hR => exact callsTo_ok KX (wd_of KX T (us_iexp w)) (f_iexp w) (c_iexp w) (Γ := GD) (gd_ok KX T) (bt_iexp KX) rfl (iexp_body3 x M L (by first | with_reducible assumption | with_reducible exact Int.le_of_lt (by assumption) | with_reducible exact Nat.le_of_lt (by assumption) | with_reducible exact qz1 (by assumption) | with_reducible exact qz2 (by assumption) | with_reducible exact qz3 (by assumption) | with_reducible exact qz4 (by assumption) | with_reducible exact qz5 (by assumption) | with_reducible exact qz6 (by assumption) | with_reducible exact qz7 (by assumption) | with_reducible exact qz8 (by assumption) | with_reducible exact qz9 (by assumption) | with_reducible exact qza (by assumption) | with_reducible exact qzb (by assumption) | with_reducible exact qzc | with_reducible exact qzd | with_reducible exact qze | omega) (szofI (by (first | (clear KX T hL hL2 hx hR hf; omega) | omega)) (by (first | (clear KX T hL hL2 hx hR hf; omega) | omega))) (by (first | (clear KX T hL hL2 hR hf; omega) | omega)) (by first | with_reducible assumption | with_reducible exact Int.le_of_lt (by assumption) | with_reducible exact Nat.le_of_lt (by assumption) | with_reducible exact qz1 (by assumption) | with_reducible exact qz2 (by assumption) | with_reducible exact qz3 (by assumption) | with_reducible exact qz4 (by assumption) | with_reducible exact qz5 (by assumption) | with_reducible exact qz6 (by assumption) | with_reducible exact qz7 (by assumption) | with_reducible exact qz8 (by assumption) | with_reducible exact qz9 (by assumption) | with_reducible exact qza (by assumption) | with_reducible exact qzb (by assumption) | with_reducible exact qzc | with_reducible exact qzd | with_reducible exact qze | omega) (by (first | (clear KX T hM hM' hx hR hf; omega) | omega)) hR)
  | ilog X M K hM hM' hK hK' hp sX => exact callsTo_ok KX (wd_of KX T (us_ilog w)) (f_ilog w) (c_ilog w) (Γ := GA) (ga_ok KX T) (bt_ilog KX) rfl (ilog_body hM hM' hK hK' hp.hR hp.hst hp.hns hp.hp sX)
  | bound x M L K hM hM' hL hL2 hK hK' hx => exact callsTo_ok KX (wd_of KX T (us_bnd w)) (f_bnd w) (c_bnd w) (Γ := GT) (gt_ok KX T) (fun s vs _ hl => quad_zip rfl (b_bnd w) s vs hl) rfl (bnd12_body x M L K hM hM' hL hL2 hK hK' hx)
  | abcd => exact absurd rfl hf
end
end Mine
open Mine in
set_option maxHeartbeats 8000000 in
theorem PySem.Challenge.cw_dm0265_12_holds : PySem.Challenge.rw_dm0265_12.Holds :=
  hd (by
  k_go0; (all_goals try k_fold)
  rename Top _ _ _ _ _ _ => T'
  rename Frag.In _ _ => KX'
  rename Fr _ _ _ _ => F'
  rename IntsAre _ _ => hI'
  rename ¬ ((63 : Int) < _) => hL'
  refine wpAny_mono (law12 (n := 2) (wd_of KX' T' (us_ok _)) (g_ok KX' T') (by kernel_rfl) (by kernel_rfl) F' (by assumption) hI' ((aok_law _).le (by decide)) rfl (by (first | (clear KX' hI' F'; omega) | omega))) (fun f s' h => ?_) (fun _ _ x => x.elim)
  obtain ⟨rfl, m, h', tk, rfl, F2⟩ := h
  dsimp only
  wrow_close)

