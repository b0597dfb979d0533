import PyProof.Rows.All
import Wide.All
import OpenK.AllK
import Wide.FinOn
import PySem.Challenge.RW_dm0265_10
open PySem PySem.W PyProof.Rows PySem.Spec PySem.Calls
set_option Elab.async false
set_option maxRecDepth 100000
set_option autoImplicit false
set_option linter.all false
namespace Mine
theorem qz1 {M : Int} (h : 10 ^ 9 ≤ M) : 0 < M := by omega
theorem qz3 {M : Int} (h : 1000 ≤ M) : 0 < M := by omega
theorem qz4 {M : Int} (h : 10 ^ 9 ≤ M) : 1000 ≤ M := by omega
theorem qz5 {L : Int} (h : 3 ≤ L) : 1 ≤ L := by omega
theorem qz6 {L : Int} (h : L ≤ 10) : L ≤ 12 := by omega
theorem qz7 {L : Int} (h : 1 ≤ L) : 0 ≤ L := by omega
theorem qz9 {L : Int} (h : 10 ^ 9 ≤ L) : 0 ≤ L := by omega
theorem qza {L : Int} (h : 0 < L) : L ≠ 0 := by omega
theorem qzc {n : Nat} : (0 : Int) < (n : Int) + 1 := by omega
theorem qzd {n : Nat} : (0 : Int) ≤ (n : Int) := by omega
/-! the discrete exponential: powers of 1 + d for a tiny d -/
theorem rmul {a b c d : Rat} (ha : 0 ≤ a) (hd : 0 ≤ d) (h1 : a ≤ b) (h2 : c ≤ d) : a * c ≤ b * d :=
  Rat.le_trans (Rat.mul_le_mul_of_nonneg_left h2 ha) (Rat.mul_le_mul_of_nonneg_right h1 hd)
noncomputable def ex (d : Rat) (p : Int) : Rat := (1 + d) ^ p
section
variable {d : Rat} (hd : 0 < d)
include hd
theorem ex_ne : (1 + d) ≠ 0 := by grind
theorem ex_pos (p : Int) : 0 < ex d p := Rat.zpow_pos (by first | with_reducible assumption | with_reducible exact Rat.le_of_lt (by assumption) | grind)
omit hd in
theorem ex_zero : ex d 0 = 1 := Rat.zpow_zero _
theorem ex_add (p q : Int) : ex d (p + q) = ex d p * ex d q := Rat.zpow_add (ex_ne hd) p q
theorem ex_succ (p : Int) : ex d (p + 1) = ex d p * (1 + d) := Rat.zpow_add_one (ex_ne hd) p
theorem ex_neg (p : Int) : ex d p * ex d (-p) = 1 := by rw [← ex_add hd, Int.add_right_neg, ex_zero]
theorem ex_two (p : Int) : ex d (2 * p) = ex d p * ex d p := by rw [← ex_add hd]; congr 1; (first | (clear hd; omega) | omega)
theorem ex_ge_nat (n : Nat) : 1 + (n : Rat) * d ≤ ex d (n : Int) := by
  induction n with
  | zero => rw [show ((0 : Nat) : Int) = 0 from rfl, ex_zero]; (first | (clear hd; grind) | grind)
  | succ n ih =>
    rw [show ((n + 1 : Nat) : Int) = (n : Int) + 1 by (first | (clear hd ih; omega) | omega), ex_succ hd, show ((n + 1 : Nat) : Rat) = (n : Rat) + 1 by norm_cast]
    have h1 := Rat.mul_le_mul_of_nonneg_right ih (show 0 ≤ 1 + d by (first | (clear ih; grind) | grind))
    have h2 : 0 ≤ (n : Rat) * d * d := Rat.mul_nonneg (Rat.mul_nonneg Rat.natCast_nonneg (by first | with_reducible assumption | with_reducible exact Rat.le_of_lt (by assumption) | grind)) (by first | with_reducible assumption | with_reducible exact Rat.le_of_lt (by assumption) | grind)
    (first | (clear hd ih; grind) | grind)
theorem ex_neg_nat (n : Nat) : 1 - (n : Rat) * d ≤ ex d (-(n : Int)) := by
  induction n with
  | zero => rw [show (-((0 : Nat) : Int)) = 0 from rfl, ex_zero]; (first | (clear hd; grind) | grind)
  | succ n ih =>
    have e := ex_succ hd (-((n + 1 : Nat) : Int))
    rw [show -((n + 1 : Nat) : Int) + 1 = -(n : Int) by (first | (clear hd ih e; omega) | omega)] at e
    have e1 : ex d (-(n : Int)) ≤ 1 := by
      have h1 := ex_ge_nat hd n
      have h2 := ex_neg hd (n : Int)
      have h3 := ex_pos hd (-(n : Int))
      have h4 : 0 ≤ (n : Rat) * d := Rat.mul_nonneg Rat.natCast_nonneg (by first | with_reducible assumption | with_reducible exact Rat.le_of_lt (by assumption) | grind)
      have h5 := Rat.mul_le_mul_of_nonneg_right (show 1 ≤ ex d (n : Int) by (first | (clear hd ih e h2 h3; grind) | grind)) (show 0 ≤ ex d (-(n : Int)) by (first | (clear hd ih e h1 h2 h4; grind) | grind))
      (first | (clear hd ih e h1 h3 h4; grind) | grind)
    have h6 : ex d (-((n + 1 : Nat) : Int)) ≤ ex d (-(n : Int)) := by
      have h3 := ex_pos hd (-((n + 1 : Nat) : Int))
      have := Rat.mul_nonneg (show 0 ≤ ex d (-((n + 1 : Nat) : Int)) by (first | (clear hd ih e e1; grind) | grind)) (show 0 ≤ d by (first | (clear ih e e1 h3; grind) | grind))
      (first | (clear hd ih e1 h3; grind) | grind)
    have h7 := Rat.mul_le_mul_of_nonneg_right (show ex d (-((n + 1 : Nat) : Int)) ≤ 1 by (first | (clear hd ih e; grind) | grind)) (show 0 ≤ d by (first | (clear ih e e1 h6; grind) | grind))
    rw [show ((n + 1 : Nat) : Rat) = (n : Rat) + 1 by norm_cast]
    (first | (clear hd e1 h6; grind) | grind)
/-- 1 + x is at most exp x -/
theorem ex_ge (p : Int) : 1 + (p : Rat) * d ≤ ex d p := by
  by_cases h : 0 ≤ p
  · obtain ⟨n, rfl⟩ := Int.eq_ofNat_of_zero_le h
    exact ex_ge_nat hd n
  · obtain ⟨n, hn⟩ := Int.eq_ofNat_of_zero_le (show 0 ≤ -p by first | with_reducible assumption | with_reducible exact Int.le_of_lt (by assumption) | with_reducible exact Nat.le_of_lt (by assumption) | with_reducible exact qz1 (by assumption) | with_reducible exact qz2 (by assumption) | with_reducible exact qz3 (by assumption) | with_reducible exact qz4 (by assumption) | with_reducible exact qz5 (by assumption) | with_reducible exact qz6 (by assumption) | with_reducible exact qz7 (by assumption) | with_reducible exact qz8 (by assumption) | with_reducible exact qz9 (by assumption) | with_reducible exact qza (by assumption) | with_reducible exact qzb (by assumption) | with_reducible exact qzc | with_reducible exact qzd | with_reducible exact qze | (first | (clear hd; omega) | omega))
    have : p = -(n : Int) := by (first | (clear hd h; omega) | omega)
    subst this
    have := ex_neg_nat hd n
    rw [Rat.intCast_neg, Rat.intCast_natCast]
    (first | (clear hd h hn; grind) | grind)
/-- exp x is at most 1 / (1 - x) -/
theorem ex_le (p : Int) : (1 - (p : Rat) * d) * ex d p ≤ 1 := by
  have h1 := ex_ge hd (-p)
  have h2 := ex_pos hd p
  rw [Rat.intCast_neg] at h1
  have h3 := Rat.mul_le_mul_of_nonneg_right h1 (Rat.le_of_lt h2)
  have h4 := ex_neg hd p
  (first | (clear hd h1 h2; grind) | grind)
theorem ex_mono {p q : Int} (h : p ≤ q) : ex d p ≤ ex d q := by
  have e : q = p + (q - p) := by (first | (clear hd h; omega) | omega)
  rw [e, ex_add hd]
  have h1 := ex_ge hd (q - p)
  have h2 := ex_pos hd p
  have h3 : 0 ≤ ((q - p : Int) : Rat) := Rat.intCast_nonneg.mpr (by first | with_reducible assumption | with_reducible exact Int.le_of_lt (by assumption) | with_reducible exact Nat.le_of_lt (by assumption) | with_reducible exact qz1 (by assumption) | with_reducible exact qz2 (by assumption) | with_reducible exact qz3 (by assumption) | with_reducible exact qz4 (by assumption) | with_reducible exact qz5 (by assumption) | with_reducible exact qz6 (by assumption) | with_reducible exact qz7 (by assumption) | with_reducible exact qz8 (by assumption) | with_reducible exact qz9 (by assumption) | with_reducible exact qza (by assumption) | with_reducible exact qzb (by assumption) | with_reducible exact qzc | with_reducible exact qzd | with_reducible exact qze | (first | (clear hd e h1 h2; omega) | omega))
  have h4 := Rat.mul_nonneg h3 (Rat.le_of_lt hd)
  have := Rat.mul_le_mul_of_nonneg_left (show 1 ≤ ex d (q - p) by (first | (clear hd h e h2 h3; grind) | grind)) (Rat.le_of_lt h2)
  (first | (clear hd h e h1 h2 h3 h4; grind) | grind)
theorem ex_one_le {p : Int} (h : 0 ≤ p) : 1 ≤ ex d p := by
  have := ex_mono hd h
  rwa [ex_zero] at this
theorem ex_le_one {p : Int} (h : p ≤ 0) : ex d p ≤ 1 := by
  have := ex_mono hd h
  rwa [ex_zero] at this
end

/-! the rows of exp -/
noncomputable def tm : Nat → Rat → Rat
  | 0, _ => 1
  | n + 1, x => tm n x * x / ((n : Rat) + 1)
noncomputable def sm : Nat → Rat → Rat
  | 0, _ => 1
  | n + 1, x => sm n x + tm (n + 1) x
theorem npos (n : Nat) : (0 : Rat) < (n : Rat) + 1 := by
  have : (0 : Rat) ≤ (n : Rat) := Rat.natCast_nonneg
  grind
theorem tm_succ (n : Nat) (x : Rat) : ((n : Rat) + 1) * tm (n + 1) x = tm n x * x := by
  have := npos n
  show ((n : Rat) + 1) * (tm n x * x / ((n : Rat) + 1)) = _
  (first | (clear this; grind) | grind)
theorem tm_nonneg {x : Rat} (hx : 0 ≤ x) (n : Nat) : 0 ≤ tm n x := by
  induction n with
  | zero => show (0 : Rat) ≤ 1; decide
  | succ n ih =>
    have h1 := tm_succ n x
    have h2 := Rat.mul_nonneg ih hx
    have h3 := npos n
    refine Rat.not_lt.mp fun hlt => ?_
    have := Rat.mul_lt_mul_of_pos_left hlt h3
    (first | (clear hx ih h3 hlt; grind) | grind)
theorem sm_ge_one {x : Rat} (hx : 0 ≤ x) (n : Nat) : 1 ≤ sm n x := by
  induction n with
  | zero => exact Rat.le_refl
  | succ n ih =>
    have := tm_nonneg hx (n + 1)
    show 1 ≤ sm n x + tm (n + 1) x
    (first | (clear hx; grind) | grind)
theorem div_le' {a b c : Rat} (hc : 0 < c) (h : c * a ≤ c * b) : a ≤ b := Rat.le_of_mul_le_mul_left h hc
/-- a row's growth, from below -/
theorem tm_lo {x d : Rat} (hx : 0 ≤ x) (hd : 0 ≤ d) (n : Nat) : tm (n + 1) x + d * tm n x ≤ tm (n + 1) (x + d) := by
  induction n with
  | zero =>
    show 1 * x / (((0 : Nat) : Rat) + 1) + d * 1 ≤ 1 * (x + d) / (((0 : Nat) : Rat) + 1)
    rw [show ((0 : Nat) : Rat) = 0 from rfl]
    (first | (clear hx hd; grind) | grind)
  | succ n ih =>
    have h1 := tm_succ (n + 1) x
    have h2 := tm_succ (n + 1) (x + d)
    have h3 := tm_succ n x
    have h4 := Rat.mul_le_mul_of_nonneg_right ih (show 0 ≤ x + d by (first | (clear ih h1 h2 h3; grind) | grind))
    have h5 := Rat.mul_nonneg (Rat.mul_nonneg hd hd) (tm_nonneg hx n)
    have h6 := npos (n + 1)
    rw [show ((n + 1 : Nat) : Rat) = (n : Rat) + 1 by norm_cast] at *
    refine div_le' h6 ?_
    generalize tm (n + 1 + 1) (x + d) = a at *
    generalize tm (n + 1 + 1) x = b at *
    generalize tm (n + 1) (x + d) = a' at *
    generalize tm (n + 1) x = b' at *
    generalize tm n x = c at *
    have h7 : d * (((n : Rat) + 1) * b') = d * (c * x) := by rw [h3]
    (first | (clear hx hd h6 h3 ih; grind) | grind)
/-- and from above -/
theorem tm_hi {x d : Rat} (hx : 0 ≤ x) (hd : 0 ≤ d) (n : Nat) : tm (n + 1) (x + d) ≤ tm (n + 1) x + d * tm n (x + d) := by
  induction n with
  | zero =>
    show 1 * (x + d) / (((0 : Nat) : Rat) + 1) ≤ 1 * x / (((0 : Nat) : Rat) + 1) + d * 1
    rw [show ((0 : Nat) : Rat) = 0 from rfl]
    (first | (clear hx hd; grind) | grind)
  | succ n ih =>
    have h1 := tm_succ (n + 1) x
    have h2 := tm_succ (n + 1) (x + d)
    have h3 := tm_succ n (x + d)
    have h4 := Rat.mul_le_mul_of_nonneg_right ih hx
    have h5 := Rat.mul_nonneg (Rat.mul_nonneg hd hd) (tm_nonneg (show 0 ≤ x + d by (first | (clear ih h1 h2 h3 h4; grind) | grind)) n)
    have h6 := npos (n + 1)
    rw [show ((n + 1 : Nat) : Rat) = (n : Rat) + 1 by norm_cast] at *
    refine div_le' h6 ?_
    generalize tm (n + 1 + 1) (x + d) = a at *
    generalize tm (n + 1 + 1) x = b at *
    generalize tm (n + 1) (x + d) = a' at *
    generalize tm (n + 1) x = b' at *
    generalize tm n (x + d) = c at *
    have h7 : d * (((n : Rat) + 1) * a') = d * (c * (x + d)) := by rw [h3]
    (first | (clear hx hd h6 h3 ih; grind) | grind)
theorem tm_mono {x y : Rat} (hx : 0 ≤ x) (h : x ≤ y) (n : Nat) : tm n x ≤ tm n y := by
  cases n with
  | zero => exact Rat.le_refl
  | succ n =>
    have := tm_lo hx (show 0 ≤ y - x by (first | (clear hx; grind) | grind)) n
    have h2 := Rat.mul_nonneg (show 0 ≤ y - x by (first | (clear hx this; grind) | grind)) (tm_nonneg hx n)
    rw [show x + (y - x) = y by (first | (clear hx h this h2; grind) | grind)] at this
    (first | (clear hx h; grind) | grind)
theorem sm_mono {x y : Rat} (hx : 0 ≤ x) (h : x ≤ y) (n : Nat) : sm n x ≤ sm n y := by
  induction n with
  | zero => exact Rat.le_refl
  | succ n ih =>
    have := tm_mono hx h (n + 1)
    show sm n x + tm (n + 1) x ≤ sm n y + tm (n + 1) y
    (first | (clear hx h; grind) | grind)

theorem sm_succ (T : Nat) (x : Rat) : sm (T + 1) x = sm T x + tm (T + 1) x := rfl
theorem tm_one (x : Rat) : tm 1 x = x := by
  show 1 * x / (((0 : Nat) : Rat) + 1) = x
  rw [show ((0 : Nat) : Rat) = 0 from rfl]
  grind
theorem tm_zero (n : Nat) : tm (n + 1) 0 = 0 := by
  show tm n 0 * 0 / ((n : Rat) + 1) = 0
  rw [Rat.mul_zero, Rat.div_def, Rat.zero_mul]
theorem sm_zero (n : Nat) : sm n 0 = 1 := by
  induction n with
  | zero => rfl
  | succ n ih => rw [sm_succ, ih, tm_zero]; (first | (clear ih; grind) | grind)
theorem sm_lo {x d : Rat} (hx : 0 ≤ x) (hd : 0 ≤ d) (T : Nat) : sm (T + 1) x + d * sm T x ≤ sm (T + 1) (x + d) := by
  induction T with
  | zero => have := tm_lo hx hd 0; show 1 + tm 1 x + d * 1 ≤ 1 + tm 1 (x + d); have e : tm 0 x = 1 := rfl; rw [e] at this; (first | (clear hx hd e; grind) | grind)
  | succ T ih =>
    have := tm_lo hx hd (T + 1)
    rw [sm_succ (T + 1), sm_succ (T + 1)]
    have e : d * sm (T + 1) x = d * sm T x + d * tm (T + 1) x := by rw [sm_succ]; (first | (clear hx hd ih this; grind) | grind)
    (first | (clear hx hd; grind) | grind)
theorem sm_hi {x d : Rat} (hx : 0 ≤ x) (hd : 0 ≤ d) (T : Nat) : sm (T + 1) (x + d) ≤ sm (T + 1) x + d * sm T (x + d) := by
  induction T with
  | zero => have := tm_hi hx hd 0; show 1 + tm 1 (x + d) ≤ 1 + tm 1 x + d * 1; have e : tm 0 (x + d) = 1 := rfl; rw [e] at this; (first | (clear hx hd e; grind) | grind)
  | succ T ih =>
    have := tm_hi hx hd (T + 1)
    rw [sm_succ (T + 1), sm_succ (T + 1)]
    have e : d * sm (T + 1) (x + d) = d * sm T (x + d) + d * tm (T + 1) (x + d) := by rw [sm_succ]; (first | (clear hx hd ih this; grind) | grind)
    (first | (clear hx hd; grind) | grind)
theorem sm_hi' {x d : Rat} (hx : 0 ≤ x) (hd : 0 ≤ d) (T : Nat) : sm T (x + d) * (1 - d) ≤ sm T x := by
  cases T with
  | zero => show 1 * (1 - d) ≤ 1; (first | (clear hx; grind) | grind)
  | succ T =>
    have h1 := sm_hi hx hd T
    have h2 := tm_nonneg (show 0 ≤ x + d by (first | (clear h1; grind) | grind)) (T + 1)
    have h3 := Rat.mul_nonneg hd h2
    have e := sm_succ T (x + d)
    have e2 : d * sm (T + 1) (x + d) = d * sm T (x + d) + d * tm (T + 1) (x + d) := by rw [e]; (first | (clear hx hd h1 h2 h3 e; grind) | grind)
    (first | (clear hx hd h2 e; grind) | grind)
theorem cast_succ (n : Nat) : ((n + 1 : Nat) : Rat) = (n : Rat) + 1 := by norm_cast
section
variable {d : Rat} (hd : 0 < d)
include hd
/-- the rows and what they leave out, from above -/
theorem ex_up (T p : Nat) : ex d p ≤ sm T ((p : Rat) * d) + tm (T + 1) ((p : Rat) * d) * ex d p := by
  induction T generalizing p with
  | zero =>
    have := ex_le hd (p : Int)
    rw [Rat.intCast_natCast] at this
    rw [tm_one]
    show ex d p ≤ 1 + _
    (first | (clear hd; grind) | grind)
  | succ T ih =>
    induction p with
    | zero =>
      rw [show (((0 : Nat) : Int)) = 0 from rfl, ex_zero]
      have h1 := sm_ge_one (x := ((0 : Nat) : Rat) * d) (by rw [show ((0 : Nat) : Rat) = 0 from rfl]; (first | (clear hd ih; grind) | grind)) (T + 1)
      have h2 := tm_nonneg (x := ((0 : Nat) : Rat) * d) (by rw [show ((0 : Nat) : Rat) = 0 from rfl]; (first | (clear hd ih h1; grind) | grind)) (T + 1 + 1)
      (first | (clear hd ih; grind) | grind)
    | succ p ihp =>
      have hx : 0 ≤ (p : Rat) * d := Rat.mul_nonneg Rat.natCast_nonneg (Rat.le_of_lt hd)
      have e1 : ex d ((p + 1 : Nat) : Int) = ex d p * (1 + d) := by rw [show ((p + 1 : Nat) : Int) = (p : Int) + 1 by (first | (clear hd ih ihp hx; omega) | omega), ex_succ hd]
      have e2 : ((p + 1 : Nat) : Rat) * d = (p : Rat) * d + d := by rw [cast_succ]; (first | (clear hd ih ihp hx e1; grind) | grind)
      have h1 := ih p
      have h2 := sm_lo hx (Rat.le_of_lt hd) T
      have h3 := tm_lo hx (Rat.le_of_lt hd) (T + 1)
      have h4 := ex_pos hd p
      have h5 := tm_nonneg (show 0 ≤ (p : Rat) * d + d by (first | (clear ih ihp e1 e2 h1 h2 h3 h4; grind) | grind)) (T + 1 + 1)
      rw [e1, e2]
      generalize (p : Rat) * d = x at *
      generalize sm (T + 1) (x + d) = s' at *
      generalize tm (T + 1 + 1) (x + d) = t' at *
      generalize tm (T + 1 + 1) x = t2 at *
      generalize tm (T + 1) x = t1 at *
      generalize sm (T + 1) x = s1 at *
      generalize sm T x = s0 at *
      generalize ex d p = e at *
      have h6 := Rat.mul_le_mul_of_nonneg_right h3 (Rat.le_of_lt h4)
      have h7 := Rat.mul_le_mul_of_nonneg_left h1 (Rat.le_of_lt hd)
      have h8 := Rat.mul_nonneg (Rat.mul_nonneg h5 (Rat.le_of_lt h4)) (Rat.le_of_lt hd)
      (first | (clear hd ih hx e2 h5 h3 e1 h4 h1; grind) | grind)
/-- and from below -/
theorem ex_dn (T p : Nat) (h : (p : Rat) * d * d ≤ 1) : sm T ((p : Rat) * d) * (1 - (p : Rat) * d * d) ≤ ex d p := by
  induction p with
  | zero =>
    rw [show (((0 : Nat) : Int)) = 0 from rfl, ex_zero, show ((0 : Nat) : Rat) * d = 0 by rw [show ((0 : Nat) : Rat) = 0 from rfl]; (first | (clear hd h; grind) | grind)]
    rw [sm_zero]
    (first | (clear hd h; grind) | grind)
  | succ p ih =>
    have hx : 0 ≤ (p : Rat) * d := Rat.mul_nonneg Rat.natCast_nonneg (Rat.le_of_lt hd)
    have e1 : ex d ((p + 1 : Nat) : Int) = ex d p * (1 + d) := by rw [show ((p + 1 : Nat) : Int) = (p : Int) + 1 by (first | (clear hd ih h hx; omega) | omega), ex_succ hd]
    have e2 : ((p + 1 : Nat) : Rat) * d = (p : Rat) * d + d := by rw [cast_succ]; (first | (clear hd ih h hx e1; grind) | grind)
    rw [e2] at h
    have hdd : 0 < d * d := Rat.mul_pos hd hd
    have h1 := ih (by first | with_reducible assumption | with_reducible exact Rat.le_of_lt (by assumption) | (first | (clear hd ih hx e1 e2; grind) | grind))
    have h2 := sm_hi' hx (Rat.le_of_lt hd) T
    have h3 := sm_ge_one (show 0 ≤ (p : Rat) * d + d by (first | (clear ih h e1 e2 hdd h1 h2; grind) | grind)) T
    have h4 : 0 ≤ 1 - (p : Rat) * d * d := by (first | (clear hd ih hx e1 e2 h1 h2 h3; grind) | grind)
    rw [e1, e2]
    have h0 : 0 ≤ (p : Rat) * d * d := Rat.mul_nonneg hx (Rat.le_of_lt hd)
    generalize (p : Rat) * d = x at *
    generalize sm T (x + d) = s' at *
    generalize sm T x = s at *
    generalize ex d p = e at *
    have h5 := Rat.mul_le_mul_of_nonneg_right h2 h4
    have h6 := Rat.mul_le_mul_of_nonneg_right (Rat.le_trans h5 h1) (show 0 ≤ 1 + d by (first | (clear hdd h hx e2 h4 h0 h3 h2 e1 ih h1 h5; grind) | grind))
    have h7 := Rat.mul_nonneg (Rat.mul_nonneg (show 0 ≤ s' by (first | (clear hd hdd h hx e2 h4 h0 h2 e1 ih h1 h5 h6; grind) | grind)) h0) (Rat.le_of_lt hdd)
    (first | (clear hd hdd h hx e2 h4 h0 h3 h2 e1 ih h1 h5; grind) | grind)
end

/-! below nought -/
noncomputable def sg : Nat → Rat
  | 0 => 1
  | n + 1 => - sg n
theorem sg_cases (n : Nat) : sg n = 1 ∨ sg n = -1 := by
  induction n with
  | zero => exact .inl rfl
  | succ n ih => rcases ih with h | h <;> simp [sg, h]
theorem tm_neg (n : Nat) (x : Rat) : tm n (-x) = sg n * tm n x := by
  induction n with
  | zero => show (1 : Rat) = 1 * 1; grind
  | succ n ih =>
    show tm n (-x) * (-x) / ((n : Rat) + 1) = - sg n * (tm n x * x / ((n : Rat) + 1))
    rw [ih]
    have := npos n
    (first | (clear ih this; grind) | grind)
theorem tm_turn {x d : Rat} (hx : 0 ≤ x) (hd : 0 ≤ d) (n : Nat) :
    -(d * d * tm n (x + d)) ≤ tm (n + 2) (-(x + d)) - tm (n + 2) (-x) + d * tm (n + 1) (-x) ∧ tm (n + 2) (-(x + d)) - tm (n + 2) (-x) + d * tm (n + 1) (-x) ≤ d * d * tm n (x + d) := by
  rw [tm_neg, tm_neg, tm_neg]
  have h1 := tm_lo hx hd (n + 1)
  have h2 := tm_hi hx hd (n + 1)
  have h3 := Rat.mul_le_mul_of_nonneg_left (tm_hi hx hd n) hd
  have e : sg (n + 2) = sg n := by show - - sg n = sg n; (first | (clear hx hd h1 h2 h3; grind) | grind)
  have e1 : sg (n + 1) = - sg n := rfl
  rw [e, e1]
  have h4 := Rat.mul_nonneg (Rat.mul_nonneg hd hd) (tm_nonneg (show 0 ≤ x + d by (first | (clear h1 h2 h3 e e1; grind) | grind)) n)
  generalize tm (n + 1 + 1) (x + d) = a at *
  generalize tm (n + 1) (x + d) = b at *
  generalize tm n (x + d) = c at *
  have e3 : tm (n + 2) x = tm (n + 1 + 1) x := rfl
  have e4 : tm (n + 2) (x + d) = tm (n + 1 + 1) (x + d) := rfl
  rcases sg_cases n with h | h <;> rw [h] <;> constructor <;> (first | (clear hx hd e e1 h4 e3 e4 h; grind) | grind)
theorem sm_turn {x d : Rat} (hx : 0 ≤ x) (hd : 0 ≤ d) (T : Nat) :
    -(d * d * sm T (x + d)) ≤ sm (T + 2) (-(x + d)) - sm (T + 2) (-x) + d * sm (T + 1) (-x) ∧ sm (T + 2) (-(x + d)) - sm (T + 2) (-x) + d * sm (T + 1) (-x) ≤ d * d * sm T (x + d) := by
  induction T with
  | zero =>
    have h1 := tm_turn hx hd 0
    have e : ∀ y, sm (0 + 1) y = 1 + y := fun y => by show 1 + tm 1 y = 1 + y; rw [tm_one]
    have e2 : ∀ y, sm (0 + 2) y = 1 + y + tm (0 + 2) y := fun y => by rw [← e y]; rfl
    have e0 : ∀ y, sm 0 y = 1 := fun y => rfl
    have e3 : tm 0 (x + d) = 1 := rfl
    rw [e2, e2, e, e0]
    rw [tm_one, e3] at h1
    constructor <;> (first | (clear hx hd e e2 e0 e3; grind) | grind)
  | succ T ih =>
    have h1 := tm_turn hx hd (T + 1)
    rw [sm_succ (T + 1 + 1), sm_succ (T + 1 + 1)]
    have e : d * sm (T + 1 + 1) (-x) = d * sm (T + 1) (-x) + d * tm (T + 1 + 1) (-x) := by rw [sm_succ]; (first | (clear hx hd ih h1; grind) | grind)
    have e2 : d * d * sm (T + 1) (x + d) = d * d * sm T (x + d) + d * d * tm (T + 1) (x + d) := by rw [sm_succ]; (first | (clear hx hd ih h1 e; grind) | grind)
    rw [e, e2]
    constructor <;> (first | (clear hx hd e e2; grind) | grind)
theorem sm_one_le (T : Nat) : sm T 1 ≤ 3 := by
  cases T with
  | zero => show (1 : Rat) ≤ 3; decide
  | succ T =>
    have key : sm (T + 1) 1 + tm (T + 1) 1 ≤ 3 := by
      induction T with
      | zero => rw [sm_succ, tm_one]; show (1 : Rat) + 1 + 1 ≤ 3; grind
      | succ T ih =>
        have h1 := tm_succ (T + 1) 1
        have h2 := tm_nonneg (show (0 : Rat) ≤ 1 by decide) (T + 1 + 1)
        have h3 : (0 : Rat) ≤ (T : Rat) := Rat.natCast_nonneg
        have h4 := Rat.mul_nonneg h3 h2
        rw [cast_succ] at h1
        rw [sm_succ (T + 1)]
        (first | (clear h2 h3; grind) | grind)
    have := tm_nonneg (show (0 : Rat) ≤ 1 by decide) (T + 1)
    grind
theorem sm_turn3 {x d : Rat} (hx : 0 ≤ x) (hd : 0 ≤ d) (h : x + d ≤ 1) (T : Nat) :
    -(3 * d * d) ≤ sm (T + 1) (-(x + d)) - sm (T + 1) (-x) + d * sm T (-x) ∧ sm (T + 1) (-(x + d)) - sm (T + 1) (-x) + d * sm T (-x) ≤ 3 * d * d := by
  have hdd := Rat.mul_nonneg hd hd
  cases T with
  | zero =>
    have e : ∀ y, sm (0 + 1) y = 1 + y := fun y => by show 1 + tm 1 y = 1 + y; rw [tm_one]
    have e0 : ∀ y, sm 0 y = 1 := fun y => rfl
    rw [e, e, e0]
    constructor <;> (first | (clear hx hd h e e0; grind) | grind)
  | succ T =>
    have h1 := sm_turn hx hd T
    have h2 := Rat.mul_le_mul_of_nonneg_left (Rat.le_trans (sm_mono (show 0 ≤ x + d by (first | (clear h hdd h1; grind) | grind)) h T) (sm_one_le T)) hdd
    constructor <;> (first | (clear hx hd h hdd; grind) | grind)
section
variable {d : Rat} (hd : 0 < d)
include hd
/-- below nought the rows turn about exp -/
theorem ex_alt (T p : Nat) (h : (p : Rat) * d ≤ 1) :
    -(tm (T + 1) ((p : Rat) * d) + 4 * (T : Rat) * d * ((p : Rat) * d)) ≤ ex d (-(p : Int)) - sm T (-((p : Rat) * d)) ∧ ex d (-(p : Int)) - sm T (-((p : Rat) * d)) ≤ tm (T + 1) ((p : Rat) * d) + 4 * (T : Rat) * d * ((p : Rat) * d) := by
  induction T generalizing p with
  | zero =>
    have h1 := ex_neg_nat hd p
    have h2 := ex_le_one hd (show -(p : Int) ≤ 0 by (first | (clear hd h h1; omega) | omega))
    have hx : 0 ≤ (p : Rat) * d := Rat.mul_nonneg Rat.natCast_nonneg (Rat.le_of_lt hd)
    have e0 : sm 0 (-((p : Rat) * d)) = 1 := rfl
    rw [tm_one, e0, show ((0 : Nat) : Rat) = 0 from rfl]
    constructor <;> (first | (clear hd h e0; grind) | grind)
  | succ T ih =>
    induction p with
    | zero =>
      have e : ((0 : Nat) : Rat) * d = 0 := by rw [show ((0 : Nat) : Rat) = 0 from rfl]; (first | (clear hd ih h; grind) | grind)
      rw [e, show (-((0 : Nat) : Int)) = 0 from rfl, ex_zero, show -(0 : Rat) = 0 from rfl]
      rw [sm_zero, tm_zero]
      constructor <;> (first | (clear hd ih h e; grind) | grind)
    | succ p ihp =>
      have hx : 0 ≤ (p : Rat) * d := Rat.mul_nonneg Rat.natCast_nonneg (Rat.le_of_lt hd)
      have e1 : ex d (-(p : Int)) = ex d (-((p + 1 : Nat) : Int)) * (1 + d) := by rw [← ex_succ hd]; congr 1; (first | (clear hd ih ihp h hx; omega) | omega)
      have e2 : ((p + 1 : Nat) : Rat) * d = (p : Rat) * d + d := by rw [cast_succ]; (first | (clear hd ih ihp h hx e1; grind) | grind)
      rw [e2] at h ⊢
      have h0 := ihp (by first | with_reducible assumption | with_reducible exact Rat.le_of_lt (by assumption) | (first | (clear ih ihp hx e1 e2; grind) | grind))
      have h1 := ih p (by first | with_reducible assumption | with_reducible exact Rat.le_of_lt (by assumption) | (first | (clear ih ihp hx e1 e2 h0; grind) | grind))
      have h2 := sm_turn3 hx (Rat.le_of_lt hd) h T
      have h3 := tm_lo hx (Rat.le_of_lt hd) (T + 1)
      have h4 := ex_pos hd (-((p + 1 : Nat) : Int))
      have h5 := ex_le_one hd (show -((p + 1 : Nat) : Int) ≤ 0 by (first | (clear hd ih ihp h hx e1 e2 h0 h1 h2 h3 h4; omega) | omega))
      have hT : (0 : Rat) ≤ (T : Rat) := Rat.natCast_nonneg
      rw [e1] at h0 h1
      rw [cast_succ] at *
      generalize (p : Rat) * d = x at *
      generalize ex d (-((p + 1 : Nat) : Int)) = e at *
      generalize sm (T + 1) (-(x + d)) = s' at *
      generalize sm (T + 1) (-x) = s1 at *
      generalize sm T (-x) = s0 at *
      generalize tm (T + 1 + 1) (x + d) = t' at *
      generalize tm (T + 1 + 1) x = t2 at *
      generalize tm (T + 1) x = t1 at *
      generalize (T : Rat) = T at *
      have hdd : 0 ≤ d * d := Rat.mul_nonneg (Rat.le_of_lt hd) (Rat.le_of_lt hd)
      have h6 := Rat.mul_le_mul_of_nonneg_left h1.1 (Rat.le_of_lt hd)
      have h7 := Rat.mul_le_mul_of_nonneg_left h1.2 (Rat.le_of_lt hd)
      have h8 := Rat.mul_le_mul_of_nonneg_left h5 hdd
      have h9 := Rat.mul_nonneg hdd (Rat.le_of_lt h4)
      have h10 := Rat.mul_le_mul_of_nonneg_left (show x ≤ 1 by (first | (clear hx e2 e1 h4 h5 h2 h3 ih hT ihp h0 h1 hdd h6 h7 h8 h9; grind) | grind)) (Rat.mul_nonneg hT hdd)
      constructor <;> (first | (clear hd h hx e2 e1 h4 h5 ih hT ihp h1; grind) | grind)
end


/-- plain data -/
inductive D where
  | undef | none
  | int (i : Int) | bool (b : Bool) | str (x : Str)
  | list (l : List D) | tup (l : List D) | obj (a : Addr)

/-- the value v is the datum d in the heap h -/
inductive RV (h : Heap) : Value → D → Prop where
  | none : RV h .none .none
  | int (i : Int) (t : Tok) : RV h (.int i t) (.int i)
  | bool (b : Bool) : RV h (.bool b) (.bool b)
  | str (x : Str) (t : Tok) : RV h (.str x t) (.str x)
  | obj (a : Addr) : RV h (.ref a) (.obj a)
  | list {a : Addr} {vs : List Value} {ds : List D} (hl : h.IsList a vs.toArray) (hn : vs.length = ds.length)
      (hi : ∀ (i : Nat) (v : Value) (d : D), vs[i]? = some v → ds[i]? = some d → RV h v d) : RV h (.ref a) (.list ds)
  | tup {a : Addr} {vs : List Value} {ds : List D} (hl : h.IsTuple a vs.toArray) (hn : vs.length = ds.length)
      (hi : ∀ (i : Nat) (v : Value) (d : D), vs[i]? = some v → ds[i]? = some d → RV h v d) : RV h (.ref a) (.tup ds)

noncomputable def SeqK (h h' : Heap) : Prop := ∀ b o items n, h.get? b = some o → o.data = .seq items n → h'.get? b = some o
theorem SeqK.of {h h' : Heap} (hk : ∀ b o, h.get? b = some o → h'.get? b = some o) : SeqK h h' := fun b o _ _ e _ => hk b o e

theorem RV.keep {h h' : Heap} (hk : SeqK h h') {v : Value} {d : D} (r : RV h v d) : RV h' v d := by
  induction r with
  | none => exact .none
  | int i t => exact .int i t
  | bool b => exact .bool b
  | str x t => exact .str x t
  | obj a => exact .obj a
  | list hl hn _ ih =>
    obtain ⟨o, ho, hc, n, hd⟩ := hl
    exact .list ⟨o, hk _ o _ n ho hd, hc, n, hd⟩ hn ih
  | tup hl hn _ ih =>
    obtain ⟨o, ho, hc, n, hd⟩ := hl
    exact .tup ⟨o, hk _ o _ n ho hd, hc, n, hd⟩ hn ih

/-- values in a row -/
noncomputable def RVs (h : Heap) (vs : List Value) (ds : List D) : Prop := vs.length = ds.length ∧ ∀ (i : Nat) (v : Value) (d : D), vs[i]? = some v → ds[i]? = some d → RV h v d
theorem RVs.nil {h : Heap} : RVs h [] [] := ⟨rfl, fun i v d e => by simp at e⟩
theorem RVs.cons {h : Heap} {v : Value} {d : D} {vs : List Value} {ds : List D} (r : RV h v d) (rs : RVs h vs ds) : RVs h (v :: vs) (d :: ds) := by
  refine ⟨by simp [rs.1], fun i v' d' e1 e2 => ?_⟩
  cases i with
  | zero => simp at e1 e2; subst e1; subst e2; exact r
  | succ i => simp at e1 e2; exact rs.2 i v' d' e1 e2
theorem RVs.keep {h h' : Heap} (hk : SeqK h h') {vs : List Value} {ds : List D} (r : RVs h vs ds) : RVs h' vs ds := ⟨r.1, fun i v d e1 e2 => (r.2 i v d e1 e2).keep hk⟩
theorem RVs.inv_nil {h : Heap} {vs : List Value} (r : RVs h vs []) : vs = [] := List.length_eq_zero_iff.mp (by simpa using r.1)
theorem RVs.inv_cons {h : Heap} {vs : List Value} {d : D} {ds : List D} (r : RVs h vs (d :: ds)) : ∃ v vs', vs = v :: vs' ∧ RV h v d ∧ RVs h vs' ds := by
  cases vs with
  | nil => simp [RVs] at r
  | cons v vs => exact ⟨v, vs, rfl, r.2 0 v d rfl rfl, by simpa using r.1, fun i v' d' e1 e2 => r.2 (i + 1) v' d' (by simpa using e1) (by simpa using e2)⟩

theorem RV.inv_int {h : Heap} {v : Value} {i : Int} (r : RV h v (.int i)) : ∃ t, v = .int i t := by cases r; exact ⟨_, rfl⟩
theorem RV.inv_bool {h : Heap} {v : Value} {b : Bool} (r : RV h v (.bool b)) : v = .bool b := by cases r; rfl
theorem RV.inv_str {h : Heap} {v : Value} {x : Str} (r : RV h v (.str x)) : ∃ t, v = .str x t := by cases r; exact ⟨_, rfl⟩
theorem RV.inv_none {h : Heap} {v : Value} (r : RV h v .none) : v = .none := by cases r; rfl
theorem RV.inv_list {h : Heap} {v : Value} {ds : List D} (r : RV h v (.list ds)) : ∃ a vs, v = .ref a ∧ h.IsList a vs.toArray ∧ RVs h vs ds := by
  cases r with | list hl hn hi => exact ⟨_, _, rfl, hl, hn, hi⟩
theorem RV.inv_tup {h : Heap} {v : Value} {ds : List D} (r : RV h v (.tup ds)) : ∃ a vs, v = .ref a ∧ h.IsTuple a vs.toArray ∧ RVs h vs ds := by
  cases r with | tup hl hn hi => exact ⟨_, _, rfl, hl, hn, hi⟩
theorem RV.inv_obj {h : Heap} {v : Value} {a : Addr} (r : RV h v (.obj a)) : v = .ref a := by cases r; rfl
theorem kRefl (s : Shared) : Keeps s s := ⟨s.heap, s.toks, rfl, fun _ _ e => e⟩
theorem kTrans {s s' s'' : Shared} (a : Keeps s s') (b : Keeps s' s'') : Keeps s s'' := by
  obtain ⟨h', tk, rfl, hk⟩ := a
  obtain ⟨h'', tk', rfl, hk'⟩ := b
  exact ⟨h'', tk', rfl, fun b o e => hk' b o (hk b o e)⟩
theorem kTok (s : Shared) (tk : Nat) : Keeps s { s with toks := tk } := ⟨s.heap, tk, rfl, fun _ _ e => e⟩
theorem kSeq {s s' : Shared} (a : Keeps s s') : SeqK s.heap s'.heap := by
  obtain ⟨h', tk, rfl, hk⟩ := a
  exact .of hk
theorem kAll {s s' : Shared} (a : Keeps s s') : ∀ b o, s.heap.get? b = some o → s'.heap.get? b = some o := by
  obtain ⟨h', tk, rfl, hk⟩ := a
  exact hk

/-- the slots' data in the frame -/
noncomputable def Rep (N : List Str) (ρ : List D) (h : Heap) (m : Str → Option Value) : Prop :=
  ∀ (i : Nat) (x : Str) (d : D), N[i]? = some x → ρ[i]? = some d → d ≠ .undef → ∃ v, m x = some v ∧ RV h v d
/-- a frame: the own names, and all else as it was -/
structure Fm (h₀ : Heap) (L : Addr) (h : Heap) (m : Str → Option Value) : Prop where
  ns : h.Ns L m
  keep : ∀ b o, b ≠ L → h₀.get? b = some o → h.get? b = some o
theorem Fm.grownK {h₀ h h' : Heap} {L : Addr} {m : Str → Option Value} (F : Fm h₀ L h m) (hk : ∀ b o, h.get? b = some o → h'.get? b = some o) : Fm h₀ L h' m :=
  ⟨F.ns.keeps hk, fun b o hb e => hk b o (F.keep b o hb e)⟩
theorem Fm.set {h₀ h h' : Heap} {L : Addr} {m m' : Str → Option Value} (F : Fm h₀ L h m) (hn : h'.Ns L m') (hs : Heap.SameBut L h h') : Fm h₀ L h' m' :=
  ⟨hn, fun b o hb e => (hs.2 b hb).trans (F.keep b o hb e)⟩
/-- a frame's surroundings -/
noncomputable def eOf (name : Str) (scope : Scope) (L : Addr) (a : Option Addr × Option Addr) (cd : Value) (cs : List (Str × Addr)) : Env :=
  { scope := scope, locals := L, globals := mainGlobals, cells := cs, qual := name, func := a.1, code := cd, frame := a.2, builtins := builtinsNs }
noncomputable def St (h₀ : Heap) (L : Addr) (N : List Str) (ρ : List D) (s : Shared) : Prop := ∃ m, Fm h₀ L s.heap m ∧ Rep N ρ s.heap m
theorem St.keeps {h₀ : Heap} {L : Addr} {N : List Str} {ρ : List D} {s s' : Shared} (x : St h₀ L N ρ s) (k : Keeps s s') : St h₀ L N ρ s' := by
  obtain ⟨m, F, R⟩ := x
  refine ⟨m, F.grownK (kAll k), fun i x d e1 e2 e3 => ?_⟩
  obtain ⟨v, hv, r⟩ := R i x d e1 e2 e3
  exact ⟨v, hv, r.keep (kSeq k)⟩

/-- all but the frame's own object is kept -/
noncomputable def Tr (L : Addr) (s s' : Shared) : Prop := ∃ h' tk, s' = { s with heap := h', toks := tk } ∧ ∀ b o, b ≠ L → s.heap.get? b = some o → h'.get? b = some o
theorem Tr.refl (L : Addr) (s : Shared) : Tr L s s := ⟨s.heap, s.toks, rfl, fun _ _ _ e => e⟩
theorem Tr.trans {L : Addr} {s s' s'' : Shared} (a : Tr L s s') (b : Tr L s' s'') : Tr L s s'' := by
  obtain ⟨h', tk, rfl, hk⟩ := a
  obtain ⟨h'', tk', rfl, hk'⟩ := b
  exact ⟨h'', tk', rfl, fun b o n e => hk' b o n (hk b o n e)⟩
theorem kTr {L : Addr} {s s' : Shared} (a : Keeps s s') : Tr L s s' := by
  obtain ⟨h', tk, rfl, hk⟩ := a
  exact ⟨h', tk, rfl, fun b o _ e => hk b o e⟩
theorem Tr.all {L : Addr} {s s' : Shared} (a : Tr L s s') : ∀ b o, b ≠ L → s.heap.get? b = some o → s'.heap.get? b = some o := by
  obtain ⟨h', tk, rfl, hk⟩ := a
  exact hk
theorem ns_notSeq {h : Heap} {L : Addr} {m : Str → Option Value} (n : h.Ns L m) {o : Obj} (ho : h.get? L = some o) : ∀ items k, o.data ≠ .seq items k := by
  obtain ⟨oL, es, ep, hL, hLd, _, _⟩ := n
  rw [hL] at ho; cases ho
  intro items k e
  rw [hLd] at e; cases e
theorem seqK_of_but {h h' : Heap} {L : Addr} {m : Str → Option Value} (n : h.Ns L m) (hk : ∀ b o, b ≠ L → h.get? b = some o → h'.get? b = some o) : SeqK h h' := by
  intro b o items k e hd
  by_cases hb : b = L
  · subst hb; exact absurd hd (ns_notSeq n e _ _)
  · exact hk b o hb e

theorem get_set_ne {α : Type} {l : List α} {i j : Nat} {x : α} (h : i ≠ j) : (l.set i x)[j]? = l[j]? := by
  rw [List.getElem?_set]; simp [h]

section store
variable {M : Model} {A : Around} {E : Value → Shared → Prop} {s : Shared} {name : Str} {scope : Scope} {L : Addr} {a : Option Addr × Option Addr} {cd : Value} {cs : List (Str × Addr)} {h₀ : Heap}
/-- a store into the slot i -/
theorem St.store {N : List Str} {ρ : List D} {i : Nat} {x : Str} {v : Value} {d : D} {Q : Unit → Shared → Prop} (S : St h₀ L N ρ s) (hx : N[i]? = some x) (hnd : N.Nodup) (r : RV s.heap v d)
    (h : ∀ s', St h₀ L N (ρ.set i d) s' → Tr L s s' → Q () s')
    (hk : scope.kind = .function) (hl : scope.names.lookup x = some .local) :
    wpAny M A (storeName (eOf name scope L a cd cs) x v) Q E s := by
  obtain ⟨m, F, R⟩ := S
  refine wpAny_storeName_local hl F.ns (fun h' hn hs => ?_) (by show (scope.kind == .class || (scope.kind == .module && L != mainGlobals)) = false; rw [hk]; rfl)
  have hkb : ∀ b o, b ≠ L → s.heap.get? b = some o → h'.get? b = some o := fun b o hb e => (hs.2 b hb).trans e
  have sk : SeqK s.heap h' := seqK_of_but F.ns hkb
  refine h _ ⟨_, F.set hn hs, fun j y e e1 e2 e3 => ?_⟩ ⟨h', _, rfl, hkb⟩
  by_cases hij : i = j
  · subst hij
    rw [hx] at e1; cases e1
    have hd : e = d := by
      rw [List.getElem?_set] at e2
      simp at e2
      exact e2.2.symm
    subst hd
    exact ⟨v, by simp, r.keep sk⟩
  · rw [get_set_ne hij] at e2
    obtain ⟨v', hv', r'⟩ := R j y e e1 e2 e3
    have hne : y ≠ x := by
      intro e; subst e
      have hi' : i < N.length := (List.getElem?_eq_some_iff.mp hx).1
      have hj' : j < N.length := (List.getElem?_eq_some_iff.mp e1).1
      have e4 : N[i] = N[j] := by
        rw [List.getElem?_eq_getElem hi'] at hx
        rw [List.getElem?_eq_getElem hj'] at e1
        exact (Option.some.inj hx).trans (Option.some.inj e1).symm
      exact hij ((List.getElem_inj hnd).mp e4)
    exact ⟨v', by simp [hne, hv'], r'.keep sk⟩
end store


/-- built-in functions served -/
inductive B where
  | abs | max | min | int | len | str | divmod | list | nbits | isinstance | bool | range | sum | fn (x : Str)
  deriving DecidableEq
noncomputable def B.name : B → Str
  | .abs => "abs" | .max => "max" | .min => "min" | .int => "int" | .len => "len" | .str => "str" | .divmod => "divmod" | .list => "list" | .nbits => "_nbits" | .isinstance => "isinstance" | .bool => "bool" | .range => "range" | .sum => "sum" | .fn x => x
noncomputable def B.val : B → Value
  | .abs => .builtin "abs" | .max => .builtin "max" | .min => .builtin "min" | .int => .type "int" | .len => .builtin "len" | .str => .type "str" | .divmod => .builtin "divmod" | .list => .type "list"
  | .nbits => .builtin "int.bit_length" | .isinstance => .builtin "isinstance" | .bool => .type "bool" | .range => .type "range" | .sum => .builtin "sum" | .fn _ => .none
noncomputable def B.plain : B → Bool
  | .fn _ => false
  | _ => true

inductive E where
  | lit (i : Int) | bo (b : Bool) | var (i : Nat)
  | bin (op : Operator) (a b : E)
  | neg (a : E) | not (a : E)
  | cmp (op : CmpOp) (a b : E) | cmp2 (a : E) (o1 : CmpOp) (b : E) (o2 : CmpOp) (c : E)
 | any (l : E)
  | ite (c a b : E)
  | call (f : Str) (l : E)
  | bi (f : B) (l : E)
  | isI (a : E) | isB (a : E)
  | nil | cons (a r : E)
  | lst (l : E) | tup (l : E)
  | idx (a i : E)
  | slc (a lo hi : E)
  | orc (x : Str)

@[simp] noncomputable def truth : D → Option Bool
  | .int i => some (i != 0)
  | .bool b => some b
  | .none => some false
  | .list l => if l.length < 2 ^ 60 then some (!l.isEmpty) else Option.none
  | _ => Option.none

@[simp] noncomputable def intP (P : Int → Prop) : D → Prop
  | .int i => P i
  | _ => False
@[simp] noncomputable def lP (P : List D → Prop) : D → Prop
  | .list l => P l
  | _ => False
@[simp] noncomputable def ii (x y : D) (k : Int → Int → Prop) : Prop := intP (fun a => intP (fun b => k a b) y) x
@[simp] noncomputable def ibP (P : Int → Prop) (Q : Bool → Prop) : D → Prop
  | .int i => P i
  | .bool b => Q b
  | _ => False
@[simp] noncomputable def ilP (P : Int → Prop) (Q : List D → Prop) : D → Prop
  | .int i => P i
  | .list l => Q l
  | _ => False
@[simp] noncomputable def slP (P : Str → Prop) (Q : List D → Prop) : D → Prop
  | .str i => P i
  | .list l => Q l
  | _ => False
@[simp] noncomputable def tlP (P : List D → Prop) (Q : List D → Prop) : D → Prop
  | .tup i => P i
  | .list l => Q l
  | _ => False
@[simp] noncomputable def l1 (k : D → Prop) : List D → Prop
  | [] => False
  | x :: r => if r.isEmpty = true then k x else False
@[simp] noncomputable def l2 (k : D → D → Prop) : List D → Prop
  | [] => False
  | x :: r => l1 (k x) r

@[simp] noncomputable def binW (op : Operator) (x y : D) (P : D → Prop) : Prop :=
  match op with
  | .Add => ilP (fun a => ibP (fun b => P (.int (a + b))) (fun b => P (.int (a + if b = true then 1 else 0))) y) (fun a => lP (fun b => a.length + b.length ≤ 2 ^ 20 ∧ P (.list (a ++ b))) y) x
  | .Sub => ii x y fun a b => P (.int (a - b))
  | .Mult => ii x y fun a b => IntMulOk a b ∧ P (.int (a * b))
  | .FloorDiv => ii x y fun a b => b ≠ 0 ∧ b.natAbs.log2 < 9000 ∧ P (.int (a.fdiv b))
  | .Mod => ii x y fun a b => b ≠ 0 ∧ P (.int (a.fmod b))
  | .Pow => ii x y fun a n => 0 ≤ n ∧ (Builtin.Int.intBits a : Int) * n ≤ 2 ^ 27 ∧ P (.int (a ^ n.toNat))
  | .LShift => ii x y fun a n => 0 ≤ n ∧ (Builtin.Int.intBits a : Int) + n ≤ 2 ^ 27 ∧ P (.int (a * 2 ^ n.toNat))
  | .RShift => ii x y fun a n => 0 ≤ n ∧ P (.int (a.fdiv (2 ^ n.toNat)))
  | .BitAnd => ii x y fun a b => P (.int (Builtin.bitAnd a b))
  | _ => False

@[simp] noncomputable def cmpW (op : CmpOp) (x y : D) (P : Bool → Prop) : Prop :=
  match op with
  | .Eq => ii x y fun a b => P (a == b)
  | .NotEq => ii x y fun a b => P (a != b)
  | .Lt => ii x y fun a b => P (decide (a < b))
  | .LtE => ii x y fun a b => P (decide (a ≤ b))
  | .Gt => ii x y fun a b => P (decide (a > b))
  | .GtE => ii x y fun a b => P (decide (a ≥ b))
  | .In => intP (fun a => lP (fun l => ∃ ns : List Int, l = ns.map .int ∧ P (ns.any (· == a))) y) x
  | .NotIn => intP (fun a => lP (fun l => ∃ ns : List Int, l = ns.map .int ∧ P (!(ns.any (· == a)))) y) x
  | _ => False

@[simp] noncomputable def biW (f : B) (ds : List D) (P : D → Prop) : Prop :=
  match f with
  | .abs => l1 (intP fun a => P (.int (if a < 0 then -a else a))) ds
  | .max => l2 (fun x y => ii x y fun a b => P (.int (if b > a then b else a))) ds
  | .min => l2 (fun x y => ii x y fun a b => P (.int (if b < a then b else a))) ds
  | .int => l1 (intP fun a => P (.int a)) ds
  | .len => l1 (slP (fun x => x.length < 2 ^ 60 ∧ P (.int x.length)) (fun l => l.length < 2 ^ 60 ∧ P (.int l.length))) ds
  | .str => l1 (intP fun a => a.natAbs.log2 < 1920 ∧ P (.str (Str.ofString (toString a)))) ds
  | .divmod => l2 (fun x y => ii x y fun a b => b ≠ 0 ∧ b.natAbs.log2 < 9000 ∧ P (.tup [.int (a.fdiv b), .int (a.fmod b)])) ds
  | .list => l1 (lP fun l => l.length ≤ 2 ^ 20 ∧ P (.list l)) ds
  | .sum => l1 (lP fun l => ∃ ns : List Int, l = ns.map .int ∧ P (.int ns.sum)) ds
  | .nbits => l1 (intP fun a => P (.int (Builtin.Int.intBits a : Nat))) ds
  | _ => False

noncomputable def idxW (x y : D) (P : D → Prop) : Prop :=
  intP (fun k => tlP (fun l => 0 ≤ k ∧ k < 2 ^ 62 ∧ ∃ d, l[k.toNat]? = some d ∧ P d)
    (fun l => -(2 ^ 62) ≤ k ∧ k < 2 ^ 62 ∧ ∃ d, l[(if k < 0 then k + l.length else k).toNat]? = some d ∧ 0 ≤ (if k < 0 then k + l.length else k) ∧ P d) x) y

/-- a cut of a list -/
noncomputable def cut (l : List D) (lo hi : Option Int) : List D :=
  (l.drop (lo.elim 0 (clipAt l.length))).take (hi.elim l.length (clipAt l.length) - lo.elim 0 (clipAt l.length))

@[simp] noncomputable def get : List D → Nat → D
  | [], _ => .undef
  | d :: _, 0 => d
  | _ :: l, n + 1 => get l n
theorem get_eq {ρ : List D} {i : Nat} {d : D} (h : get ρ i = d) (hd : d ≠ .undef) : ρ[i]? = some d := by
  induction ρ generalizing i with
  | nil => simp [get] at h; exact absurd h.symm hd
  | cons a l ih =>
    cases i with
    | zero => simp [get] at h; simp [h]
    | succ i => simp [get] at h; simpa using ih h

@[simp] noncomputable def isIP (P : D → Prop) (d : D) : Prop := ibP (fun _ => P (.bool true)) (fun _ => P (.bool true)) d
@[simp] noncomputable def isBP (P : D → Prop) (d : D) : Prop := ibP (fun _ => P (.bool false)) (fun _ => P (.bool true)) d
@[simp] noncomputable def cutP (i j : Option Int) (P : D → Prop) (d : D) : Prop := lP (fun l => l.length ≤ 2 ^ 20 ∧ P (.list (cut l i j))) d
@[simp] noncomputable def E.isNil : E → Bool
  | .nil => true
  | _ => false
@[simp] noncomputable def partP (b : Bool) (w : (D → Prop) → Prop) (P : Option Int → Prop) : Prop := if b = true then P none else w (intP fun i => P (some i))
section
variable (Γ : Str → List D → D → Prop)
mutual
noncomputable def wp0 : E → List D → (D → Prop) → Prop
  | .lit i, _, P => P (.int i)
  | .bo b, _, P => P (.bool b)
  | .var i, ρ, P => get ρ i ≠ .undef ∧ P (get ρ i)
  | .bin op a b, ρ, P => wp0 a ρ fun x => wp0 b ρ fun y => binW op x y P
  | .neg a, ρ, P => wp0 a ρ (intP fun i => P (.int (-i)))
  | .not a, ρ, P => wp0 a ρ fun x => ∃ b, truth x = some b ∧ P (.bool !b)
  | .cmp op a b, ρ, P => wp0 a ρ fun x => wp0 b ρ fun y => cmpW op x y fun c => P (.bool c)
  | .cmp2 a o1 b o2 c, ρ, P => wp0 a ρ fun x => wp0 b ρ fun y => cmpW o1 x y fun t => if t = true then wp0 c ρ fun z => cmpW o2 y z fun u => P (.bool u) else P (.bool false)
  | .any l, ρ, P => wpOr0 l ρ P
  | .ite c a b, ρ, P => wp0 c ρ fun x => ∃ t, truth x = some t ∧ if t = true then wp0 a ρ P else wp0 b ρ P
  | .call f l, ρ, P => wpL0 l ρ fun ds => ∃ r, Γ f ds r ∧ P r
  | .bi f l, ρ, P => wpL0 l ρ fun ds => biW f ds P
  | .isI a, ρ, P => wp0 a ρ (isIP P)
  | .isB a, ρ, P => wp0 a ρ (isBP P)
  | .nil, _, _ => False
  | .cons _ _, _, _ => False
  | .lst l, ρ, P => wpL0 l ρ fun ds => ds.length ≤ 2 ^ 20 ∧ P (.list ds)
  | .tup l, ρ, P => wpL0 l ρ fun ds => ds.length ≤ 2 ^ 20 ∧ P (.tup ds)
  | .idx a i, ρ, P => wp0 a ρ fun x => wp0 i ρ fun k => idxW x k P
  | .orc x, ρ, P => ∃ r, Γ x ρ r ∧ P r
  | .slc a lo hi, ρ, P => wp0 a ρ fun x => partP lo.isNil (wp0 lo ρ) fun i => partP hi.isNil (wp0 hi ρ) fun j => cutP i j P x
noncomputable def wpAnd0 : E → List D → (D → Prop) → Prop
  | .cons a r, ρ, P => wp0 a ρ fun d => if r.isNil = true then P d else ∃ b, truth d = some b ∧ if b = true then wpAnd0 r ρ P else P d
  | _, _, _ => False
noncomputable def wpOr0 : E → List D → (D → Prop) → Prop
  | .cons a r, ρ, P => wp0 a ρ fun d => if r.isNil = true then P d else ∃ b, truth d = some b ∧ if b = true then P d else wpOr0 r ρ P
  | _, _, _ => False
noncomputable def wpL0 : E → List D → (List D → Prop) → Prop
  | .nil, _, P => P []
  | .cons a r, ρ, P => wp0 a ρ fun d => wpL0 r ρ fun ds => P (d :: ds)
  | _, _, _ => False
end
end

noncomputable def notStarred : Expr → Bool
  | .Starred .. => false
  | _ => true
noncomputable def notSlice : Expr → Bool
  | .Slice .. => false
  | _ => true
/-! what an expression is made of -/
noncomputable def dsC : Expr → Option Const
  | .Constant c _ _ => some c
  | _ => none
noncomputable def dsN : Expr → Option Str
  | .Name x _ => some x
  | _ => none
noncomputable def dsBin : Expr → Option (Expr × Operator × Expr)
  | .BinOp l o r _ => some (l, o, r)
  | _ => none
noncomputable def dsUn : Expr → Option (UnaryOp × Expr)
  | .UnaryOp o x _ => some (o, x)
  | _ => none
noncomputable def dsCmp : Expr → Option (Expr × List CmpOp × List Expr)
  | .Compare l os rs _ => some (l, os, rs)
  | _ => none
noncomputable def dsBool : Expr → Option (BoolOp × List Expr)
  | .BoolOp o es _ => some (o, es)
  | _ => none
noncomputable def dsIf : Expr → Option (Expr × Expr × Expr)
  | .IfExp t x y _ => some (t, x, y)
  | _ => none
noncomputable def dsCall : Expr → Option (Expr × List Expr × List Keyword)
  | .Call f es ks _ => some (f, es, ks)
  | _ => none
noncomputable def dsList : Expr → Option (List Expr)
  | .List es _ => some es
  | _ => none
noncomputable def dsTup : Expr → Option (List Expr)
  | .Tuple es _ _ => some es
  | _ => none
noncomputable def dsSub : Expr → Option (Expr × Expr)
  | .Subscript v i _ => some (v, i)
  | _ => none
noncomputable def dsSl : Expr → Option (Option Expr × Option Expr × Option Expr)
  | .Slice l u s _ => some (l, u, s)
  | _ => none

/-- what a def's form may name: built-ins and defs; opaque expressions and ends, by a check each -/
structure Us where
  l : List B
  o : Str → Expr → Bool
  t : Str → List Stmt → Bool
  s : Str → Stmt → Bool
  k : Around → Prop
noncomputable def pl (l : List B) : Us := ⟨l, fun _ _ => false, fun _ _ => false, fun _ _ => false, fun _ => True⟩
/-- an opaque expression's shape -/
noncomputable def plainE : Expr → Bool
  | .Name .. => true
  | .ListComp .. => true
  | .Subscript .. => true
  | .Call .. => true
  | _ => false
section
variable (us : Us) (N : List Str) (sc : Scope)
noncomputable def glb (x : Str) : Bool := sc.names.lookup x == some .globalImplicit && x != "__debug__"
/-- a call of a global name upon at least one argument -/
noncomputable def dsCallN (ex : Expr) : Option (Str × List Expr) :=
  (dsCall ex).bind fun t => (dsN t.1).bind fun g => if t.2.2.isEmpty && !t.2.1.isEmpty && glb sc g then some (g, t.2.1) else none
mutual
noncomputable def chkE : E → Expr → Bool
  | .lit i, ex => dsC ex == some (.int i)
  | .orc x, ex => plainE ex && us.o x ex
  | .bo b, ex => dsC ex == some (.bool b)
  | .var i, ex => (dsN ex).any fun x => N[i]? == some x
  | .bin op a b, ex => (dsBin ex).any fun t => op == t.2.1 && chkE a t.1 && chkE b t.2.2
  | .neg a, ex => (dsUn ex).any fun t => t.1 == .USub && chkE a t.2
  | .not a, ex => (dsUn ex).any fun t => t.1 == .Not && chkE a t.2
  | .cmp op a b, ex => (dsCmp ex).any fun t => t.2.1 == [op] && t.2.2.length == 1 && t.2.2.head?.any fun r => behindInMarks op r == false && chkE a t.1 && chkE b r
  | .cmp2 a o1 b o2 c, ex => (dsCmp ex).any fun t => t.2.1 == [o1, o2] && t.2.2.length == 2 && t.2.2.head?.any fun r1 => t.2.2.tail.head?.any fun r2 => behindInMarks o2 r2 == false && chkE a t.1 && chkE b r1 && chkE c r2
  | .any l, ex => (dsBool ex).any fun t => t.1 == .Or && chkEs l t.2
  | .ite c a b, ex => (dsIf ex).any fun t => chkE c t.1 && chkE a t.2.1 && chkE b t.2.2
  | .call f l, ex => (dsCallN sc ex).any fun t => us.l.contains (.fn f) && f == t.1 && chkEs l t.2
  | .bi f l, ex => (dsCallN sc ex).any fun t => us.l.contains f && f.plain && f.name == t.1 && chkEs l t.2
  | .isI a, ex => (dsCallN sc ex).any fun t => us.l.contains .isinstance && us.l.contains .int && B.isinstance.name == t.1 && t.2.length == 2 && t.2.head?.any fun e => t.2.tail.head?.any fun c => (dsN c).any fun y => B.int.name == y && glb sc y && notStarred e && chkE a e
  | .isB a, ex => (dsCallN sc ex).any fun t => us.l.contains .isinstance && us.l.contains .bool && B.isinstance.name == t.1 && t.2.length == 2 && t.2.head?.any fun e => t.2.tail.head?.any fun c => (dsN c).any fun y => B.bool.name == y && glb sc y && notStarred e && chkE a e
  | .nil, _ => false
  | .cons _ _, _ => false
  | .lst l, ex => (dsList ex).any fun es => chkEs l es
  | .tup l, ex => (dsTup ex).any fun es => chkEs l es
  | .idx a i, ex => (dsSub ex).any fun t => notSlice t.2 && chkE a t.1 && chkE i t.2
  | .slc a lo hi, ex => (dsSub ex).any fun t => chkE a t.1 && (dsSl t.2).any fun u => u.2.2.isNone && (if lo.isNil then u.1.isNone else u.1.any fun x => chkE lo x) && (if hi.isNil then u.2.1.isNone else u.2.1.any fun x => chkE hi x)
noncomputable def chkEs : E → List Expr → Bool
  | .nil, es => es.isEmpty
  | .cons a r, es => es.head?.any fun e => notStarred e && chkE a e && chkEs r es.tail
  | _, _ => false
end
end

theorem starEach_cons {e : Expr} {rest : List Expr} {env : Env} (h : notStarred e = true) : starEach (e :: rest) env = (false, eval e env) :: starEach rest env := by
  cases e <;> first | rfl | simp [notStarred] at h



noncomputable def AOk (n : Nat) (A : Around) : Prop := A.handled = none ∧ A.depth + n < recursionLimit ∧ A.units + 3 * n + 200 < cLine
noncomputable def Kp (h h' : Heap) : Prop := ∀ b o, h.get? b = some o → h'.get? b = some o
theorem Kp.trans {h h' h'' : Heap} (a : Kp h h') (b : Kp h' h'') : Kp h h'' := fun x o e => b x o (a x o e)

/-- what the module's run has left -/
structure Wd (hB : Heap) (mg mb : Str → Option Value) (us : List B) : Prop where
  g : hB.Ns mainGlobals mg
  b : hB.Ns builtinsNs mb
  nl : hB.NoLimit
  fn : ∀ x, B.fn x ∈ us → ∃ a o fd, mg x = some (.ref a) ∧ hB.get? a = some o ∧ o.data = .func fd
  bi : ∀ f ∈ us, f.plain = true → (mg f.name = none ∧ mb f.name = some f.val) ∨ mg f.name = some f.val

abbrev Fls : Value → Shared → Prop := fun _ _ => False

/-- a call of the def f upon ds gives r -/
noncomputable def CallsTo (prog : Program) (w : World) (hB : Heap) (mg : Str → Option Value) (n : Nat) (f : Str) (ds : List D) (r : D) : Prop :=
  ∃ a o fd, mg f = some (.ref a) ∧ hB.get? a = some o ∧ o.data = .func fd ∧ ∀ (A : Around) (s : Shared) (vs : List Value), AOk n A → Kp hB s.heap → RVs s.heap vs ds →
    wpAny (model prog w) A (call (.ref a) vs) (fun v s' => Keeps s s' ∧ RV s'.heap v r) Fls s

section ops
variable {prog : Program} {w : World} {A : Around} {s : Shared}

theorem tok_ok {P : D → Prop} {i : Int} {t tk : Nat} (h : P (.int i)) : Keeps s { s with toks := tk } ∧ ∃ d, RV ({ s with toks := tk } : Shared).heap (.int i t) d ∧ P d :=
  ⟨kTok s tk, _, .int i t, h⟩

theorem truthy_ok {v : Value} {d : D} {b : Bool} (r : RV s.heap v d) (h : truth d = some b) : wpAny (model prog w) A (truthy v) (fun c s' => Keeps s s' ∧ c = b) Fls s := by
  cases d with
  | int i =>
    obtain ⟨t, rfl⟩ := r.inv_int
    simp only [truth, Option.some.injEq] at h
    exact PySem.P.truthy_int ⟨kRefl s, h⟩
  | bool c =>
    obtain rfl := r.inv_bool
    simp only [truth, Option.some.injEq] at h
    exact wpAny_truthy_bool ⟨kRefl s, h⟩
  | none =>
    obtain rfl := r.inv_none
    simp only [truth, Option.some.injEq] at h
    exact truthy_none ⟨kRefl s, h⟩
  | list l =>
    obtain ⟨a, vs, rfl, hl, hv⟩ := r.inv_list
    simp only [truth] at h
    split at h
    · rename_i hlt
      have hlen := hv.1
      refine wpAny_truthy_list hl (by rw [List.size_toArray, hlen]; (first | (clear r hl hv h; omega) | omega)) ?_
      simp only [Option.some.injEq] at h
      refine ⟨kTok s _, ?_⟩
      rw [← h]
      cases vs with
      | nil => cases l with
        | nil => rfl
        | cons _ _ => simp at hlen
      | cons _ _ => cases l with
        | nil => simp at hlen
        | cons _ _ => rfl
    · cases h
  | undef => cases r
  | obj a => cases h
  | str x => cases h
  | tup l => cases h

theorem RVs.append {h : Heap} {vs us : List Value} {ds es : List D} (a : RVs h vs ds) (b : RVs h us es) : RVs h (vs ++ us) (ds ++ es) := by
  refine ⟨by simp [a.1, b.1], fun i v d e1 e2 => ?_⟩
  have hl := a.1
  by_cases hi : i < vs.length
  · rw [List.getElem?_append_left hi] at e1
    rw [List.getElem?_append_left (by first | with_reducible assumption | with_reducible exact Int.le_of_lt (by assumption) | with_reducible exact Nat.le_of_lt (by assumption) | with_reducible exact qz1 (by assumption) | with_reducible exact qz2 (by assumption) | with_reducible exact qz3 (by assumption) | with_reducible exact qz4 (by assumption) | with_reducible exact qz5 (by assumption) | with_reducible exact qz6 (by assumption) | with_reducible exact qz7 (by assumption) | with_reducible exact qz8 (by assumption) | with_reducible exact qz9 (by assumption) | with_reducible exact qza (by assumption) | with_reducible exact qzb (by assumption) | with_reducible exact qzc | with_reducible exact qzd | with_reducible exact qze | (first | (clear a b e1 e2; omega) | omega))] at e2
    exact a.2 i v d e1 e2
  · rw [List.getElem?_append_right (by first | with_reducible assumption | with_reducible exact Int.le_of_lt (by assumption) | with_reducible exact Nat.le_of_lt (by assumption) | with_reducible exact qz1 (by assumption) | with_reducible exact qz2 (by assumption) | with_reducible exact qz3 (by assumption) | with_reducible exact qz4 (by assumption) | with_reducible exact qz5 (by assumption) | with_reducible exact qz6 (by assumption) | with_reducible exact qz7 (by assumption) | with_reducible exact qz8 (by assumption) | with_reducible exact qz9 (by assumption) | with_reducible exact qza (by assumption) | with_reducible exact qzb (by assumption) | with_reducible exact qzc | with_reducible exact qzd | with_reducible exact qze | (first | (clear a b e1 e2; omega) | omega))] at e1
    rw [List.getElem?_append_right (by first | with_reducible assumption | with_reducible exact Int.le_of_lt (by assumption) | with_reducible exact Nat.le_of_lt (by assumption) | with_reducible exact qz1 (by assumption) | with_reducible exact qz2 (by assumption) | with_reducible exact qz3 (by assumption) | with_reducible exact qz4 (by assumption) | with_reducible exact qz5 (by assumption) | with_reducible exact qz6 (by assumption) | with_reducible exact qz7 (by assumption) | with_reducible exact qz8 (by assumption) | with_reducible exact qz9 (by assumption) | with_reducible exact qza (by assumption) | with_reducible exact qzb (by assumption) | with_reducible exact qzc | with_reducible exact qzd | with_reducible exact qze | (first | (clear a b e1 e2; omega) | omega))] at e2
    exact b.2 (i - vs.length) v d e1 (by rw [hl]; exact e2)
theorem RVs.drop {h : Heap} {vs : List Value} {ds : List D} (a : RVs h vs ds) (k : Nat) : RVs h (vs.drop k) (ds.drop k) := by
  refine ⟨by simp [a.1], fun i v d e1 e2 => ?_⟩
  rw [List.getElem?_drop] at e1 e2
  exact a.2 _ v d e1 e2
theorem RVs.take {h : Heap} {vs : List Value} {ds : List D} (a : RVs h vs ds) (k : Nat) : RVs h (vs.take k) (ds.take k) := by
  refine ⟨by simp [a.1], fun i v d e1 e2 => ?_⟩
  rw [List.getElem?_take] at e1 e2
  split at e1
  · rename_i hlt
    rw [if_pos hlt] at e2
    exact a.2 _ v d e1 e2
  · cases e1

theorem new_list {vs : List Value} {ds : List D} (h : RVs s.heap vs ds) {hs : Heap} (hh : hs = s.heap.push { cls := .type "list", data := .seq vs.toArray }) : RV hs (.ref s.heap.objs.size) (.list ds) := by
  subst hh
  have hk : SeqK s.heap (s.heap.push { cls := .type "list", data := .seq vs.toArray }) := .of fun b o e => Heap.get?_push_of_some _ e
  have h' := h.keep hk
  exact .list ⟨_, Heap.get?_push_size _ rfl, rfl, _, rfl⟩ h'.1 h'.2
theorem new_tup {vs : List Value} {ds : List D} (h : RVs s.heap vs ds) {hs : Heap} (hh : hs = s.heap.push { cls := .type "tuple", data := .seq vs.toArray }) : RV hs (.ref s.heap.objs.size) (.tup ds) := by
  subst hh
  have hk : SeqK s.heap (s.heap.push { cls := .type "tuple", data := .seq vs.toArray }) := .of fun b o e => Heap.get?_push_of_some _ e
  have h' := h.keep hk
  exact .tup ⟨_, Heap.get?_push_size _ rfl, rfl, _, rfl⟩ h'.1 h'.2
theorem push_keeps (o : Obj) : Keeps s { s with heap := s.heap.push o } := ⟨_, s.toks, rfl, fun _ _ e => Heap.get?_push_of_some _ e⟩

theorem size_le {n : Nat} (h : n ≤ 2 ^ 20) : n ≤ sizeLine := by rw [PySem.sizeLine_eq]; omega

theorem addl_ok {l1 l2 : Addr} {vs us : List Value} {a b : List D} {P : D → Prop} (hl : s.heap.IsList l1 vs.toArray) (hl2 : s.heap.IsList l2 us.toArray) (hv : RVs s.heap vs a) (hu : RVs s.heap us b)
    (hz : a.length + b.length ≤ 2 ^ 20) (h : P (.list (a ++ b))) :
    wpAny (model prog w) A (binaryOp .Add (.ref l1) (.ref l2)) (fun v s' => Keeps s s' ∧ ∃ d, RV s'.heap v d ∧ P d) Fls s := by
  obtain ⟨⟨c1, d1, t1, s1⟩, ho, hc, n, hd⟩ := hl
  obtain ⟨⟨c2, d2, t2, s2⟩, ho2, hc2, n2, hd2⟩ := hl2
  dsimp only at hc hd hc2 hd2
  subst hc hd hc2 hd2
  refine concat_meets ⟨_, ho, rfl⟩ ⟨_, ho2, rfl⟩ noFill_list_add seq_list_add PySem.F.slot_list_add PySem.F.entry_list_add (PySem.F.args_list_add_2 _ _)
    (list_addW l1 l2 vs.toArray us.toArray n n2 d1 d2 s1 s2 (by simp only [List.size_toArray]; rw [hv.1, hu.1]; exact size_le hz)) ⟨ho, ho2, ?_⟩
  exact ⟨push_keeps _, _, new_list (hv.append hu) (by simp), h⟩

theorem intP_inv {P : Int → Prop} {d : D} (h : intP P d) : ∃ i, d = .int i ∧ P i := by cases d <;> first | exact ⟨_, rfl, h⟩ | exact h.elim
theorem lP_inv {P : List D → Prop} {d : D} (h : lP P d) : ∃ i, d = .list i ∧ P i := by cases d <;> first | exact ⟨_, rfl, h⟩ | exact h.elim
theorem ibP_inv {P : Int → Prop} {Q : Bool → Prop} {d : D} (h : ibP P Q d) : (∃ i, d = .int i ∧ P i) ∨ (∃ b, d = .bool b ∧ Q b) := by
  cases d <;> first | exact .inl ⟨_, rfl, h⟩ | exact .inr ⟨_, rfl, h⟩ | exact h.elim
theorem ilP_inv {P : Int → Prop} {Q : List D → Prop} {d : D} (h : ilP P Q d) : (∃ i, d = .int i ∧ P i) ∨ (∃ b, d = .list b ∧ Q b) := by
  cases d <;> first | exact .inl ⟨_, rfl, h⟩ | exact .inr ⟨_, rfl, h⟩ | exact h.elim
theorem slP_inv {P : Str → Prop} {Q : List D → Prop} {d : D} (h : slP P Q d) : (∃ i, d = .str i ∧ P i) ∨ (∃ b, d = .list b ∧ Q b) := by
  cases d <;> first | exact .inl ⟨_, rfl, h⟩ | exact .inr ⟨_, rfl, h⟩ | exact h.elim
theorem tlP_inv {P : List D → Prop} {Q : List D → Prop} {d : D} (h : tlP P Q d) : (∃ i, d = .tup i ∧ P i) ∨ (∃ b, d = .list b ∧ Q b) := by
  cases d <;> first | exact .inl ⟨_, rfl, h⟩ | exact .inr ⟨_, rfl, h⟩ | exact h.elim
theorem ii_inv {k : Int → Int → Prop} {x y : D} (h : ii x y k) : ∃ a b, x = .int a ∧ y = .int b ∧ k a b := by
  obtain ⟨a, rfl, h1⟩ := intP_inv h
  obtain ⟨b, rfl, h2⟩ := intP_inv h1
  exact ⟨a, b, rfl, rfl, h2⟩
theorem l1_inv {k : D → Prop} {ds : List D} (h : l1 k ds) : ∃ x, ds = [x] ∧ k x := by
  cases ds with
  | nil => exact h.elim
  | cons x r => cases r with
    | nil => exact ⟨x, rfl, h⟩
    | cons _ _ => exact h.elim
theorem l2_inv {k : D → D → Prop} {ds : List D} (h : l2 k ds) : ∃ x y, ds = [x, y] ∧ k x y := by
  cases ds with
  | nil => exact h.elim
  | cons x r => obtain ⟨y, rfl, h⟩ := l1_inv h; exact ⟨x, y, rfl, h⟩

theorem ii_ok {t : Value → Value → Sem Value} {v u : Value} {x y : D} {k : Int → Int → Prop} {P : D → Prop} (r1 : RV s.heap v x) (r2 : RV s.heap u y) (h : ii x y k)
    (go : ∀ a b t1 t2, k a b → wpAny (model prog w) A (t (.int a t1) (.int b t2)) (fun v s' => Keeps s s' ∧ ∃ d, RV s'.heap v d ∧ P d) Fls s) :
    wpAny (model prog w) A (t v u) (fun v s' => Keeps s s' ∧ ∃ d, RV s'.heap v d ∧ P d) Fls s := by
  obtain ⟨a, b, rfl, rfl, h⟩ := ii_inv h
  obtain ⟨t1, rfl⟩ := r1.inv_int; obtain ⟨t2, rfl⟩ := r2.inv_int
  exact go a b t1 t2 h

theorem bin_ok {op : Operator} {v u : Value} {x y : D} {P : D → Prop} (r1 : RV s.heap v x) (r2 : RV s.heap u y) (h : binW op x y P) :
    wpAny (model prog w) A (binaryOp op v u) (fun v s' => Keeps s s' ∧ ∃ d, RV s'.heap v d ∧ P d) Fls s := by
  cases op with
  | Add =>
    rcases ilP_inv h with ⟨a, rfl, h⟩ | ⟨l, rfl, h⟩
    · obtain ⟨t1, rfl⟩ := r1.inv_int
      rcases ibP_inv h with ⟨b, rfl, h⟩ | ⟨b, rfl, h⟩
      · obtain ⟨t2, rfl⟩ := r2.inv_int
        exact PySem.P.add_int (tok_ok h)
      · obtain rfl := r2.inv_bool
        exact PySem.add_int_bool (tok_ok h)
    · obtain ⟨l2, rfl, h⟩ := lP_inv h
      obtain ⟨l1, vs, rfl, hl, hv⟩ := r1.inv_list; obtain ⟨l2, us, rfl, hl2, hu⟩ := r2.inv_list
      exact addl_ok hl hl2 hv hu h.1 h.2
  | Sub => exact ii_ok (t := binaryOp .Sub) r1 r2 h fun _ _ _ _ h => PySem.P.sub_int (tok_ok h)
  | Mult => exact ii_ok (t := binaryOp .Mult) r1 r2 h fun _ _ _ _ h => PySem.P.mul_int (tok_ok h.2) h.1
  | FloorDiv => exact ii_ok (t := binaryOp .FloorDiv) r1 r2 h fun _ _ _ _ h => floordiv_int h.1 (tok_ok h.2.2) (Or.inl (PyProof.noPylong_of_log2 h.2.1))
  | Mod => exact ii_ok (t := binaryOp .Mod) r1 r2 h fun _ _ _ _ h => mod_int' h.1 (tok_ok h.2)
  | Pow => exact ii_ok (t := binaryOp .Pow) r1 r2 h fun _ _ _ _ h => pow_int h.1 h.2.1 (tok_ok h.2.2)
  | LShift => exact ii_ok (t := binaryOp .LShift) r1 r2 h fun _ _ _ _ h => lshift_int h.1 h.2.1 (tok_ok h.2.2)
  | RShift => exact ii_ok (t := binaryOp .RShift) r1 r2 h fun _ _ _ _ h => rshift_int h.1 (tok_ok h.2)
  | BitAnd => exact ii_ok (t := binaryOp .BitAnd) r1 r2 h fun _ _ _ _ h => and_int (tok_ok h)
  | MatMult => exact h.elim
  | Div => exact h.elim
  | BitOr => exact h.elim
  | BitXor => exact h.elim

theorem ic_ok {op : CmpOp} {v u : Value} {x y : D} {k : Int → Int → Prop} {P : Bool → Prop} (r1 : RV s.heap v x) (r2 : RV s.heap u y) (h : ii x y k)
    (go : ∀ a b t1 t2, k a b → wpAny (model prog w) A (compareOp op (.int a t1) (.int b t2)) (fun v s' => s' = s ∧ ∃ c, v = .bool c ∧ P c) Fls s) :
    wpAny (model prog w) A (compareOp op v u) (fun v s' => s' = s ∧ ∃ c, v = .bool c ∧ P c) Fls s := by
  obtain ⟨a, b, rfl, rfl, h⟩ := ii_inv h
  obtain ⟨t1, rfl⟩ := r1.inv_int; obtain ⟨t2, rfl⟩ := r2.inv_int
  exact go a b t1 t2 h
noncomputable def isV (a : Int) : Value → Bool
  | .int i _ => i == a
  | _ => false
theorem isV_any {h : Heap} {a : Int} : ∀ {us : List Value} {ns : List Int}, RVs h us (ns.map .int) → us.toArray.any (isV a) = ns.any (· == a)
  | us, [], r => by obtain rfl := r.inv_nil; simp
  | us, n :: ns, r => by
    obtain ⟨v, vs, rfl, r1, r2⟩ := r.inv_cons
    obtain ⟨t, rfl⟩ := r1.inv_int
    have ih := isV_any (a := a) r2
    simp only [List.any_toArray, List.any_cons, isV] at ih ⊢
    rw [ih]
theorem isV_at {A : Around} {s : Shared} {h : Heap} {a : Int} {t : Tok} {us : List Value} {ns : List Int} (r : RVs h us (ns.map .int)) {y : Value} (hy : y ∈ us) : SeqAt.EqAt A s y (.int a t) (isV a y) := by
  obtain ⟨i, hi, rfl⟩ := List.getElem_of_mem hy
  have hn : i < ns.length := by have := r.1; simp at this; (first | (clear r hy; omega) | omega)
  obtain ⟨t, e⟩ := (r.2 i us[i] (.int ns[i]) (List.getElem?_eq_getElem hi) (by rw [List.getElem?_map, List.getElem?_eq_getElem hn]; rfl)).inv_int
  rw [e]
  exact SeqAt.EqAt.int_int _ _ _ _
theorem cmp_ok {op : CmpOp} {v u : Value} {x y : D} {P : Bool → Prop} (r1 : RV s.heap v x) (r2 : RV s.heap u y) (h : cmpW op x y P) :
    wpAny (model prog w) A (compareOp op v u) (fun v s' => s' = s ∧ ∃ c, v = .bool c ∧ P c) Fls s := by
  cases op with
  | Eq => exact ic_ok r1 r2 h fun _ _ _ _ h => PySem.P.eq_int ⟨rfl, _, rfl, h⟩
  | NotEq => exact ic_ok r1 r2 h fun _ _ _ _ h => PySem.P.ne_int ⟨rfl, _, rfl, h⟩
  | Lt => exact ic_ok r1 r2 h fun _ _ _ _ h => PySem.P.lt_int ⟨rfl, _, rfl, h⟩
  | LtE => exact ic_ok r1 r2 h fun _ _ _ _ h => PySem.P.le_int ⟨rfl, _, rfl, h⟩
  | Gt => exact ic_ok r1 r2 h fun _ _ _ _ h => PySem.P.gt_int ⟨rfl, _, rfl, h⟩
  | GtE => exact ic_ok r1 r2 h fun _ _ _ _ h => PySem.P.ge_int ⟨rfl, _, rfl, h⟩
  | Is => exact h.elim
  | IsNot => exact h.elim
  | In =>
    obtain ⟨a, rfl, h1⟩ := intP_inv h
    obtain ⟨l, rfl, ns, rfl, h2⟩ := lP_inv h1
    obtain ⟨t, rfl⟩ := r1.inv_int
    obtain ⟨ad, us, rfl, hl, hu⟩ := r2.inv_list
    refine SeqAt.in_listAt (isV a) hl (fun y hy => isV_at hu (by simpa using hy)) ⟨rfl, _, rfl, ?_⟩
    rw [isV_any hu]; exact h2
  | NotIn =>
    obtain ⟨a, rfl, h1⟩ := intP_inv h
    obtain ⟨l, rfl, ns, rfl, h2⟩ := lP_inv h1
    obtain ⟨t, rfl⟩ := r1.inv_int
    obtain ⟨ad, us, rfl, hl, hu⟩ := r2.inv_list
    refine SeqAt.notIn_listAt (isV a) hl (fun y hy => isV_at hu (by simpa using hy)) ⟨rfl, _, rfl, ?_⟩
    rw [isV_any hu]; exact h2
end ops


section ops2
variable {prog : Program} {w : World} {A : Around} {s : Shared}

theorem bitlen_ok {a : Int} {t : Tok} {P : D → Prop} (h : P (.int (Builtin.Int.intBits a : Nat))) :
    wpAny (model prog w) A (call (.builtin "int.bit_length") [.int a t]) (fun v s' => Keeps s s' ∧ ∃ d, RV s'.heap v d ∧ P d) Fls s :=
  call_gives PySem.F.slot_int_bit_length (typeIs_int s a t) PySem.F.entry_int_bit_length (PySem.F.args_int_bit_length_1 _) (PySem.AutoIntG2.int_bit_length_int_0 a t) (tok_ok h)

theorem max_ok {a b : Int} {t u : Tok} {P : D → Prop} (hA : A.handled = none) (h : P (.int (if b > a then b else a))) :
    wpAny (model prog w) A (call (.builtin "max") [.int a t, .int b u]) (fun v s' => Keeps s s' ∧ ∃ d, RV s'.heap v d ∧ P d) Fls s := by
  refine max_two_ints hA fun h' tk hk => ?_
  refine ⟨⟨h', tk, rfl, hk⟩, _, ?_, h⟩
  by_cases c : b > a
  · rw [if_pos c, if_pos c]; exact .int _ _
  · rw [if_neg c, if_neg c]; exact .int _ _
theorem min_ok {a b : Int} {t u : Tok} {P : D → Prop} (hA : A.handled = none) (h : P (.int (if b < a then b else a))) :
    wpAny (model prog w) A (call (.builtin "min") [.int a t, .int b u]) (fun v s' => Keeps s s' ∧ ∃ d, RV s'.heap v d ∧ P d) Fls s := by
  refine min_two_ints hA fun h' tk hk => ?_
  refine ⟨⟨h', tk, rfl, hk⟩, _, ?_, h⟩
  by_cases c : b < a
  · rw [if_pos c, if_pos c]; exact .int _ _
  · rw [if_neg c, if_neg c]; exact .int _ _

theorem b1_ok {t : List Value → Sem Value} {vs : List Value} {ds : List D} {k : D → Prop} {P : D → Prop} (r : RVs s.heap vs ds) (h : l1 k ds)
    (go : ∀ v d, RV s.heap v d → k d → wpAny (model prog w) A (t [v]) (fun v s' => Keeps s s' ∧ ∃ d, RV s'.heap v d ∧ P d) Fls s) : wpAny (model prog w) A (t vs) (fun v s' => Keeps s s' ∧ ∃ d, RV s'.heap v d ∧ P d) Fls s := by
  obtain ⟨x, rfl, h⟩ := l1_inv h
  obtain ⟨v, vs, rfl, r1, r⟩ := r.inv_cons; obtain rfl := r.inv_nil
  exact go v x r1 h
theorem b1i_ok {t : List Value → Sem Value} {vs : List Value} {ds : List D} {k : Int → Prop} {P : D → Prop} (r : RVs s.heap vs ds) (h : l1 (intP k) ds)
    (go : ∀ a t1, k a → wpAny (model prog w) A (t [.int a t1]) (fun v s' => Keeps s s' ∧ ∃ d, RV s'.heap v d ∧ P d) Fls s) : wpAny (model prog w) A (t vs) (fun v s' => Keeps s s' ∧ ∃ d, RV s'.heap v d ∧ P d) Fls s :=
  b1_ok r h fun v d r1 h => by
    obtain ⟨a, rfl, h⟩ := intP_inv h
    obtain ⟨t1, rfl⟩ := r1.inv_int
    exact go a t1 h
theorem b2i_ok {t : List Value → Sem Value} {vs : List Value} {ds : List D} {k : Int → Int → Prop} {P : D → Prop} (r : RVs s.heap vs ds) (h : l2 (fun x y => ii x y k) ds)
    (go : ∀ a b t1 t2, k a b → wpAny (model prog w) A (t [.int a t1, .int b t2]) (fun v s' => Keeps s s' ∧ ∃ d, RV s'.heap v d ∧ P d) Fls s) : wpAny (model prog w) A (t vs) (fun v s' => Keeps s s' ∧ ∃ d, RV s'.heap v d ∧ P d) Fls s := by
  obtain ⟨x, y, rfl, h⟩ := l2_inv h
  obtain ⟨a, b, rfl, rfl, h⟩ := ii_inv h
  obtain ⟨v, vs, rfl, r1, r⟩ := r.inv_cons; obtain ⟨v2, vs, rfl, r2, r⟩ := r.inv_cons; obtain rfl := r.inv_nil; obtain ⟨t1, rfl⟩ := r1.inv_int; obtain ⟨t2, rfl⟩ := r2.inv_int
  exact go a b t1 t2 h
theorem len_ok {v : Value} {d : D} {P : D → Prop} (r1 : RV s.heap v d) (h : slP (fun x => x.length < 2 ^ 60 ∧ P (.int x.length)) (fun l => l.length < 2 ^ 60 ∧ P (.int l.length)) d) :
    wpAny (model prog w) A (call (.builtin "len") [v]) (fun v s' => Keeps s s' ∧ ∃ d, RV s'.heap v d ∧ P d) Fls s := by
  rcases slP_inv h with ⟨x, rfl, h⟩ | ⟨l, rfl, h⟩
  · obtain ⟨t, rfl⟩ := r1.inv_str
    exact PyProof.Rows.len_str (by have := h.1; (first | (clear h r1 this; omega) | omega)) (tok_ok h.2)
  · obtain ⟨a, us, rfl, hl, hu⟩ := r1.inv_list
    have e : us.toArray.size = l.length := (List.size_toArray ..).trans hu.1
    refine PyProof.Rows.len_list hl (by rw [e]; (first | (clear h r1 hl hu; omega) | omega)) ?_
    rw [e]
    exact tok_ok h.2
theorem rvs_ints {h : Heap} : ∀ {us : List Value} {ns : List Int}, RVs h us (ns.map .int) → IntsAre us ns
  | us, [], r => by obtain rfl := r.inv_nil; exact .nil
  | us, n :: ns, r => by
    obtain ⟨v, vs, rfl, r1, r2⟩ := r.inv_cons
    obtain ⟨t, rfl⟩ := r1.inv_int
    exact .cons n t (rvs_ints r2)
theorem sum_ok {v : Value} {d : D} {P : D → Prop} (hA : A.handled = none) (r1 : RV s.heap v d) (h : lP (fun l => ∃ ns : List Int, l = ns.map .int ∧ P (.int ns.sum)) d) :
    wpAny (model prog w) A (call (.builtin "sum") [v]) (fun v s' => Keeps s s' ∧ ∃ d, RV s'.heap v d ∧ P d) Fls s := by
  obtain ⟨l, rfl, ns, rfl, hp⟩ := lP_inv h
  obtain ⟨a, us, rfl, hl, hu⟩ := r1.inv_list
  have hi := rvs_ints hu
  obtain ⟨xs, e⟩ := hi.allInts.items
  rw [e] at hl
  refine sum_intListG hA hl fun h' tk t' hk => ?_
  have : preSum (numAt xs) xs.size = ns.sum := by
    rw [preSum_eq, List.take_of_length_le (by simp), ← nums_intItems, ← e, show us.toArray.toList = us from rfl, hi.numsOf]
  rw [this]
  exact ⟨⟨h', tk, rfl, hk⟩, _, .int _ _, hp⟩
theorem bi_ok {f : B} {vs : List Value} {ds : List D} {P : D → Prop} (hA : A.handled = none) (r : RVs s.heap vs ds) (h : biW f ds P) :
    wpAny (model prog w) A (call f.val vs) (fun v s' => Keeps s s' ∧ ∃ d, RV s'.heap v d ∧ P d) Fls s := by
  cases f with
  | abs => exact b1i_ok (t := fun vs => call (.builtin "abs") vs) r h fun _ _ h => call_abs_int fun u tk => tok_ok h
  | max => exact b2i_ok (t := fun vs => call (.builtin "max") vs) r h fun _ _ _ _ h => max_ok hA h
  | min => exact b2i_ok (t := fun vs => call (.builtin "min") vs) r h fun _ _ _ _ h => min_ok hA h
  | int => exact b1i_ok (t := fun vs => call (.type "int") vs) r h fun _ _ h => call_int_int ⟨kRefl s, _, .int _ _, h⟩
  | len => exact b1_ok (t := fun vs => call (.builtin "len") vs) r h fun _ _ r1 h => len_ok r1 h
  | str => exact b1i_ok (t := fun vs => call (.type "str") vs) r h fun _ _ h => PySem.P.str_of_int h.1 ⟨kTok s _, _, .str _ _, h.2⟩
  | divmod =>
    refine b2i_ok (t := fun vs => call (.builtin "divmod") vs) r h fun _ _ _ _ h => ?_
    refine divmod_int h.1 ?_ (Or.inl (PyProof.noPylong_of_log2 h.2.1))
    refine ⟨⟨_, _, rfl, fun _ _ e => Heap.get?_push_of_some _ e⟩, _, ?_, h.2.2⟩
    exact new_tup (vs := [_, _]) (RVs.cons (.int _ _) (RVs.cons (.int _ _) RVs.nil)) rfl
  | list =>
    refine b1_ok (t := fun vs => call (.type "list") vs) r h fun v d r1 h => ?_
    obtain ⟨l, rfl, h⟩ := lP_inv h
    obtain ⟨a, us, rfl, hl, hu⟩ := r1.inv_list
    obtain ⟨o, ho, hc, n, hd⟩ := hl
    refine call_list_seq (hsz := by rw [List.size_toArray, hu.1]; exact size_le h.1) a (.inl rfl) ho hc hd fun h' c' hk hD => ?_
    have hD : h'.IsList s.heap.objs.size us.toArray := ⟨_, hD, rfl, c', rfl⟩
    refine ⟨⟨h', s.toks, rfl, hk⟩, _, ?_, h.2⟩
    have hu' := hu.keep (SeqK.of hk)
    exact .list hD hu'.1 hu'.2
  | nbits => exact b1i_ok (t := fun vs => call (.builtin "int.bit_length") vs) r h fun _ _ h => bitlen_ok h
  | sum => exact b1_ok (t := fun vs => call (.builtin "sum") vs) r h fun _ _ r1 h => sum_ok hA r1 h
  | isinstance => exact h.elim
  | bool => exact h.elim
  | range => exact h.elim
  | fn x => exact h.elim

theorem getElem_to {l : List Value} {ds : List D} {h : Heap} {i : Nat} {d : D} (r : RVs h l ds) (e : ds[i]? = some d) : ∃ v, l[i]? = some v ∧ RV h v d := by
  have hi : i < ds.length := (List.getElem?_eq_some_iff.mp e).1
  have hl : i < l.length := by rw [r.1]; exact hi
  exact ⟨l[i], List.getElem?_eq_getElem hl, r.2 i _ d (List.getElem?_eq_getElem hl) e⟩

theorem idx_ok {value slice : Expr} {v u : Value} {x y : D} {P : D → Prop} (hs : notSlice slice = true) (r1 : RV s.heap v x) (r2 : RV s.heap u y) (h : idxW x y P) :
    wpAny (model prog w) A (subscriptTail value slice v u) (fun v s' => Keeps s s' ∧ ∃ d, RV s'.heap v d ∧ P d) Fls s := by
  have hsub : ∀ o i, subscripted slice false o i = operate [o, i] (getItem o i) := by
    intro o i
    cases slice <;> first | rfl | simp [notSlice] at hs
  unfold idxW at h
  obtain ⟨k, rfl, h⟩ := intP_inv h
  obtain ⟨t, rfl⟩ := r2.inv_int
  rcases tlP_inv h with ⟨l, rfl, h⟩ | ⟨l, rfl, h⟩
  · obtain ⟨a, vs, rfl, hl, hv⟩ := r1.inv_tup
    obtain ⟨hlo, hhi, d, e, hP⟩ := h
    obtain ⟨v, ev, rv⟩ := getElem_to hv e
    have hlt : k.toNat < vs.length := (List.getElem?_eq_some_iff.mp ev).1
    refine item_tupleT (l := vs) (j := k.toNat) hl (by first | with_reducible assumption | with_reducible exact Int.le_of_lt (by assumption) | with_reducible exact Nat.le_of_lt (by assumption) | with_reducible exact qz1 (by assumption) | with_reducible exact qz2 (by assumption) | with_reducible exact qz3 (by assumption) | with_reducible exact qz4 (by assumption) | with_reducible exact qz5 (by assumption) | with_reducible exact qz6 (by assumption) | with_reducible exact qz7 (by assumption) | with_reducible exact qz8 (by assumption) | with_reducible exact qz9 (by assumption) | with_reducible exact qza (by assumption) | with_reducible exact qzb (by assumption) | with_reducible exact qzc | with_reducible exact qzd | with_reducible exact qze | (first | (clear hs hsub r2 h r1 hl hv hlo hhi e hP ev rv hlt; omega) | omega)) (by first | with_reducible assumption | with_reducible exact Int.le_of_lt (by assumption) | with_reducible exact Nat.le_of_lt (by assumption) | with_reducible exact qz1 (by assumption) | with_reducible exact qz2 (by assumption) | with_reducible exact qz3 (by assumption) | with_reducible exact qz4 (by assumption) | with_reducible exact qz5 (by assumption) | with_reducible exact qz6 (by assumption) | with_reducible exact qz7 (by assumption) | with_reducible exact qz8 (by assumption) | with_reducible exact qz9 (by assumption) | with_reducible exact qza (by assumption) | with_reducible exact qzb (by assumption) | with_reducible exact qzc | with_reducible exact qzd | with_reducible exact qze | (first | (clear hs hsub r2 h r1 hl hv hlo hhi e hP ev rv hlt; omega) | omega)) ?_ ev ⟨kRefl s, d, rv, hP⟩ (hsub _ _)
    have e1 : (0 : Int) ≤ k := hlo
    have e2 : k < vs.length := by (first | (clear hs hsub r2 h r1 hl hv hlo hhi e hP ev rv e1; omega) | omega)
    simp [seqIndex?, Int.not_lt.mpr e1, e1, e2]
  · obtain ⟨a, vs, rfl, hl, hv⟩ := r1.inv_list
    obtain ⟨hlo, hhi, d, e, h0, hP⟩ := h
    obtain ⟨v, ev, rv⟩ := getElem_to hv e
    refine tail_any hl.typeIs slot_list_getitem.lookup ?_ (hsub _ _)
    by_cases hk : k < 0
    · simp only [if_pos hk] at ev h0
      refine wpAny_getItem_list_neg hl hk ?_ ?_ (x := v) ?_ ⟨kRefl s, d, rv, hP⟩
      all_goals first | (first | (clear hs hsub r2 h r1 hl hv hlo hhi e hP rv ev h0; omega) | omega) | (simp only [List.size_toArray]; rw [hv.1]; (first | (clear hs hsub r2 h r1 hl hv hlo hhi e hP rv hk ev; omega) | omega)) | (simp only [List.size_toArray]; rw [hv.1]; simpa using ev) | skip
    · rw [if_neg hk] at ev
      exact wpAny_getItem_list hl (by first | with_reducible assumption | with_reducible exact Int.le_of_lt (by assumption) | with_reducible exact Nat.le_of_lt (by assumption) | with_reducible exact qz1 (by assumption) | with_reducible exact qz2 (by assumption) | with_reducible exact qz3 (by assumption) | with_reducible exact qz4 (by assumption) | with_reducible exact qz5 (by assumption) | with_reducible exact qz6 (by assumption) | with_reducible exact qz7 (by assumption) | with_reducible exact qz8 (by assumption) | with_reducible exact qz9 (by assumption) | with_reducible exact qza (by assumption) | with_reducible exact qzb (by assumption) | with_reducible exact qzc | with_reducible exact qzd | with_reducible exact qze | (first | (clear hs hsub r2 h r1 hl hv hlo hhi e h0 hP ev rv; omega) | omega)) (by first | with_reducible assumption | with_reducible exact Int.le_of_lt (by assumption) | with_reducible exact Nat.le_of_lt (by assumption) | with_reducible exact qz1 (by assumption) | with_reducible exact qz2 (by assumption) | with_reducible exact qz3 (by assumption) | with_reducible exact qz4 (by assumption) | with_reducible exact qz5 (by assumption) | with_reducible exact qz6 (by assumption) | with_reducible exact qz7 (by assumption) | with_reducible exact qz8 (by assumption) | with_reducible exact qz9 (by assumption) | with_reducible exact qza (by assumption) | with_reducible exact qzb (by assumption) | with_reducible exact qzc | with_reducible exact qzd | with_reducible exact qze | (first | (clear hs hsub r2 h r1 hl hv hlo hhi e h0 hP ev rv; omega) | omega)) (x := v) (by simpa using ev) ⟨kRefl s, d, rv, hP⟩

theorem slc_ok {value : Expr} {q : Pos} {lo hi : Option Expr} {a sl : Addr} {vs : List Value} {ds : List D} {vl vu : Value} {i j : Option Int} {P : D → Prop} (hl : s.heap.IsList a vs.toArray) (hv : RVs s.heap vs ds)
    (hs : s.heap.IsSliceOf sl vl vu .none) (pl : IsPart vl i) (pu : IsPart vu j) (hz : ds.length ≤ 2 ^ 20) (h : P (.list (cut ds i j))) :
    wpAny (model prog w) A (subscriptTail value (.Slice lo hi none q) (.ref a) (.ref sl)) (fun v s' => Keeps s s' ∧ ∃ d, RV s'.heap v d ∧ P d) Fls s := by
  refine tail_any hl.typeIs slot_list_getitem.lookup (wpAny_getItem_list_slice hl hs pl pu .none (by simp) ?_ (by rw [List.size_toArray, hv.1]; exact size_le hz)) (ops := [.ref sl, .ref a]) rfl
  rw [slicePick_plain]
  refine ⟨push_keeps _, _, new_list (ds := cut ds i j) ?_ rfl, h⟩
  unfold cut
  simp only [List.size_toArray, hv.1]
  exact (hv.drop _).take _
end ops2


section sound
variable {prog : Program} {w : World} {hB h₀ : Heap} {mg mb : Str → Option Value} {us : Us} {N : List Str} {sc : Scope} {Γ : Str → List D → D → Prop} {n : Nat} {name : Str} {L : Addr} {a : Option Addr × Option Addr} {cd : Value} {cs : List (Str × Addr)}

/-- the facts of a frame that never change -/
structure Cx (prog : Program) (w : World) (hB h₀ : Heap) (mg mb : Str → Option Value) (us : Us) (N : List Str) (sc : Scope) (Γ : Str → List D → D → Prop) (n : Nat) (name : Str) (L : Addr) (a : Option Addr × Option Addr) (cd : Value) (cs : List (Str × Addr)) : Prop where
  W : Wd hB mg mb us.l
  G : ∀ f ds r, us.l.contains (.fn f) = true → Γ f ds r → CallsTo prog w hB mg n f ds r
  hk : sc.kind = .function
  loc : ∀ x ∈ N, sc.names.lookup x = some .local ∧ (x == ("__debug__" : Str)) = false
  nd : N.Nodup
  base : ∀ b o, hB.get? b = some o → b ≠ L ∧ h₀.get? b = some o
  orc : ∀ x ρ r ex, Γ x ρ r → plainE ex = true → us.o x ex = true → ∀ (A : Around) (s : Shared), AOk n A → St h₀ L N ρ s →
    wpAny (model prog w) A (eval ex (eOf name sc L a cd cs)) (fun v s' => Keeps s s' ∧ RV s'.heap v r) Fls s
  tl : ∀ x ρ r body, Γ x ρ r → us.t x body = true → ∀ (A : Around) (s : Shared), AOk n A → us.k A → St h₀ L N ρ s →
    wpAny (model prog w) A (execs body (eOf name sc L a cd cs)) (fun f s' => Tr L s s' ∧ ∃ ρ' v, St h₀ L N ρ' s' ∧ f = .ret v ∧ RV s'.heap v r) Fls s
  op : ∀ x ρ ρ' st, Γ x ρ (.list ρ') → us.s x st = true → ∀ (A : Around) (s : Shared), AOk n A → us.k A → St h₀ L N ρ s →
    wpAny (model prog w) A (exec st (eOf name sc L a cd cs)) (fun f s' => f = .next ∧ Tr L s s' ∧ St h₀ L N ρ' s') Fls s

/-- what is shown of an expression -/
structure Snd (prog : Program) (w : World) (h₀ : Heap) (us : Us) (N : List Str) (sc : Scope) (Γ : Str → List D → D → Prop) (n : Nat) (name : Str) (L : Addr) (a : Option Addr × Option Addr) (cd : Value) (cs : List (Str × Addr)) (e : E) : Prop where
  val : ∀ ex, chkE us N sc e ex = true → ∀ (A : Around) (s : Shared) (ρ : List D) (P : D → Prop), AOk n A → St h₀ L N ρ s → wp0 Γ e ρ P →
    wpAny (model prog w) A (eval ex (eOf name sc L a cd cs)) (fun v s' => Keeps s s' ∧ ∃ d, RV s'.heap v d ∧ P d) Fls s
  tst : ∀ ex, chkE us N sc e ex = true → ∀ (A : Around) (s : Shared) (ρ : List D) (P : Bool → Prop), AOk n A → St h₀ L N ρ s → wp0 Γ e ρ (fun d => ∃ b, truth d = some b ∧ P b) →
    wpAny (model prog w) A (isTrue ex (eOf name sc L a cd cs) (eval ex (eOf name sc L a cd cs))) (fun b s' => Keeps s s' ∧ P b) Fls s
  lst : ∀ es pos, chkEs us N sc e es = true → ∀ (A : Around) (s : Shared) (ρ : List D) (P : List D → Prop), AOk n A → St h₀ L N ρ s → wpL0 Γ e ρ P →
    wpAny (model prog w) A (spliced (backTo pos (starEach es (eOf name sc L a cd cs)))) (fun vs s' => Keeps s s' ∧ ∃ ds, RVs s'.heap vs ds ∧ P ds) Fls s
  andV : ∀ es pos, chkEs us N sc e es = true → ∀ (A : Around) (s : Shared) (ρ : List D) (P : D → Prop), AOk n A → St h₀ L N ρ s → wpAnd0 Γ e ρ P →
    wpAny (model prog w) A (eval (.BoolOp .And es pos) (eOf name sc L a cd cs)) (fun v s' => Keeps s s' ∧ ∃ d, RV s'.heap v d ∧ P d) Fls s
  orV : ∀ es pos, chkEs us N sc e es = true → ∀ (A : Around) (s : Shared) (ρ : List D) (P : D → Prop), AOk n A → St h₀ L N ρ s → wpOr0 Γ e ρ P →
    wpAny (model prog w) A (eval (.BoolOp .Or es pos) (eOf name sc L a cd cs)) (fun v s' => Keeps s s' ∧ ∃ d, RV s'.heap v d ∧ P d) Fls s
  andT : ∀ es pos whole, chkEs us N sc e es = true → ∀ (A : Around) (s : Shared) (ρ : List D) (P : Bool → Prop), AOk n A → St h₀ L N ρ s → wpAnd0 Γ e ρ (fun d => ∃ b, truth d = some b ∧ P b) →
    wpAny (model prog w) A (isTrue (.BoolOp .And es pos) (eOf name sc L a cd cs) whole) (fun b s' => Keeps s s' ∧ P b) Fls s
  orT : ∀ es pos whole, chkEs us N sc e es = true → ∀ (A : Around) (s : Shared) (ρ : List D) (P : Bool → Prop), AOk n A → St h₀ L N ρ s → wpOr0 Γ e ρ (fun d => ∃ b, truth d = some b ∧ P b) →
    wpAny (model prog w) A (isTrue (.BoolOp .Or es pos) (eOf name sc L a cd cs) whole) (fun b s' => Keeps s s' ∧ P b) Fls s

/-- a value's test -/
theorem tst_of_val {A : Around} {s : Shared} {P : Bool → Prop} {t : Sem Value} (h : wpAny (model prog w) A t (fun v s' => Keeps s s' ∧ ∃ d, RV s'.heap v d ∧ ∃ b, truth d = some b ∧ P b) Fls s) :
    wpAny (model prog w) A t (fun v s₁ => wpAny (model prog w) A (truthy v) (fun b s' => Keeps s s' ∧ P b) Fls s₁) Fls s := by
  refine wpAny_mono h (fun v s₁ h₁ => ?_) fun _ _ x => x
  obtain ⟨k, d, r, b, hb, hp⟩ := h₁
  refine wpAny_mono (truthy_ok r hb) (fun c s₂ h₂ => ?_) fun _ _ x => x
  obtain ⟨k2, rfl⟩ := h₂
  exact ⟨kTrans k k2, hp⟩

theorem chkEs_plain {e : E} (h1 : e ≠ .nil) (h2 : ∀ a r, e ≠ .cons a r) (es : List Expr) : chkEs us N sc e es = false := by
  cases e <;> first | exact absurd rfl h1 | exact absurd rfl (h2 _ _) | rfl

/-- an expression that is no list: its value's part and its test's part are enough -/
theorem Snd.mk' {e : E} (h1 : e ≠ .nil) (h2 : ∀ a r, e ≠ .cons a r)
    (val : ∀ ex, chkE us N sc e ex = true → ∀ (A : Around) (s : Shared) (ρ : List D) (P : D → Prop), AOk n A → St h₀ L N ρ s → wp0 Γ e ρ P →
      wpAny (model prog w) A (eval ex (eOf name sc L a cd cs)) (fun v s' => Keeps s s' ∧ ∃ d, RV s'.heap v d ∧ P d) Fls s)
    (tst : ∀ ex, chkE us N sc e ex = true → ∀ (A : Around) (s : Shared) (ρ : List D) (P : Bool → Prop), AOk n A → St h₀ L N ρ s → wp0 Γ e ρ (fun d => ∃ b, truth d = some b ∧ P b) →
      wpAny (model prog w) A (isTrue ex (eOf name sc L a cd cs) (eval ex (eOf name sc L a cd cs))) (fun b s' => Keeps s s' ∧ P b) Fls s) :
    Snd prog w h₀ us N sc Γ n name L a cd cs e := by
  refine ⟨val, tst, ?_, ?_, ?_, ?_, ?_⟩
  all_goals (intros; rename_i hc _ _ _ _ _ _ _; rw [chkEs_plain h1 h2] at hc; cases hc)

theorem Snd.mkP {e : E} (h1 : e ≠ .nil) (h2 : ∀ a r, e ≠ .cons a r)
    (hpl : ∀ ex, chkE us N sc e ex = true → ∀ t, isTrue ex (eOf name sc L a cd cs) t = (do let v ← t; standAt ex.pos; holding [v] (truthy v)))
    (val : ∀ ex, chkE us N sc e ex = true → ∀ (A : Around) (s : Shared) (ρ : List D) (P : D → Prop), AOk n A → St h₀ L N ρ s → wp0 Γ e ρ P →
      wpAny (model prog w) A (eval ex (eOf name sc L a cd cs)) (fun v s' => Keeps s s' ∧ ∃ d, RV s'.heap v d ∧ P d) Fls s) :
    Snd prog w h₀ us N sc Γ n name L a cd cs e := by
  refine .mk' h1 h2 val fun ex hc A s ρ P hA S h => ?_
  exact isTrue_plain (tst_of_val (val ex hc A s ρ _ hA S h)) (hpl ex hc _)

theorem ld_ok (C : Cx prog w hB h₀ mg mb us N sc Γ n name L a cd cs) {A : Around} {s : Shared} {ρ : List D} {i : Nat} {x : Str} {pos : Pos} {d : D} {Q : Value → Shared → Prop} (S : St h₀ L N ρ s) (hx : N[i]? = some x) (hd : get ρ i = d) (hu : d ≠ .undef)
    (h : ∀ v, RV s.heap v d → Q v s) : wpAny (model prog w) A (eval (.Name x pos) (eOf name sc L a cd cs)) Q Fls s := by
  obtain ⟨m, F, R⟩ := S
  obtain ⟨v, hv, r⟩ := R i x d hx (get_eq hd hu) hu
  have hl := C.loc x (List.mem_of_getElem? hx)
  exact wpAny_Name (wpAny_loadName_local C.hk hl.1 F.ns hv (h v r)) hl.2

theorem fr_of (C : Cx prog w hB h₀ mg mb us N sc Γ n name L a cd cs) {ρ : List D} {s : Shared} (S : St h₀ L N ρ s) : Kp hB s.heap := by
  obtain ⟨m, F, _⟩ := S
  exact fun b o e => F.keep b o (C.base b o e).1 (C.base b o e).2
/-- a name of the module's -/
theorem gl_name (C : Cx prog w hB h₀ mg mb us N sc Γ n name L a cd cs) {A : Around} {s : Shared} {ρ : List D} {x : Str} {v : Value} {pos : Pos} {Q : Value → Shared → Prop} (S : St h₀ L N ρ s) (hv : mg x = some v) (hg : glb sc x = true)
    (h : Q v s) : wpAny (model prog w) A (eval (.Name x pos) (eOf name sc L a cd cs)) Q Fls s := by
  simp only [glb, Bool.and_eq_true, beq_iff_eq, bne_iff_ne, ne_eq] at hg
  exact Calls.Name_function_global C.hk hg.1 (Calls.loadGlobal_global (env := eOf name sc L a cd cs) (C.W.g.keeps (fr_of C S)) hv h) (beq_eq_false_iff_ne.mpr hg.2)

/-- a name of the module's or of the built-ins' -/
theorem bi_name (C : Cx prog w hB h₀ mg mb us N sc Γ n name L a cd cs) {A : Around} {s : Shared} {ρ : List D} {f : B} {x : Str} {pos : Pos} {Q : Value → Shared → Prop} (S : St h₀ L N ρ s) (hf : us.l.contains f = true) (hpl : f.plain = true) (hx : (f.name == x) = true) (hg : glb sc x = true)
    (h : Q f.val s) : wpAny (model prog w) A (eval (.Name x pos) (eOf name sc L a cd cs)) Q Fls s := by
  have hx := eq_of_beq hx
  subst hx
  rcases C.W.bi f (by simpa using hf) hpl with ⟨h1, h2⟩ | h1
  · have hg' := hg
    simp only [glb, Bool.and_eq_true, beq_iff_eq, bne_iff_ne, ne_eq] at hg'
    exact Calls.Name_function_global C.hk hg'.1 (Calls.loadGlobal_builtin (env := eOf name sc L a cd cs) (C.W.g.keeps (fr_of C S)) h1 (C.W.b.keeps (fr_of C S)) h2 h) (beq_eq_false_iff_ne.mpr hg'.2)
  · exact gl_name C S h1 hg h

end sound


section inv
variable {us : Us} {N : List Str} {sc : Scope} {ex : Expr}
theorem iC {c : Const} (h : dsC ex = some c) : ∃ k p, ex = .Constant c k p := by cases ex <;> first | (cases h; exact ⟨_, _, rfl⟩) | cases h
theorem iN {x : Str} (h : dsN ex = some x) : ∃ p, ex = .Name x p := by cases ex <;> first | (cases h; exact ⟨_, rfl⟩) | cases h
theorem iBin {t : Expr × Operator × Expr} (h : dsBin ex = some t) : ∃ p, ex = .BinOp t.1 t.2.1 t.2.2 p := by cases ex <;> first | (cases h; exact ⟨_, rfl⟩) | cases h
theorem iUn {t : UnaryOp × Expr} (h : dsUn ex = some t) : ∃ p, ex = .UnaryOp t.1 t.2 p := by cases ex <;> first | (cases h; exact ⟨_, rfl⟩) | cases h
theorem iCmp {t : Expr × List CmpOp × List Expr} (h : dsCmp ex = some t) : ∃ p, ex = .Compare t.1 t.2.1 t.2.2 p := by cases ex <;> first | (cases h; exact ⟨_, rfl⟩) | cases h
theorem iBool {t : BoolOp × List Expr} (h : dsBool ex = some t) : ∃ p, ex = .BoolOp t.1 t.2 p := by cases ex <;> first | (cases h; exact ⟨_, rfl⟩) | cases h
theorem iIf {t : Expr × Expr × Expr} (h : dsIf ex = some t) : ∃ p, ex = .IfExp t.1 t.2.1 t.2.2 p := by cases ex <;> first | (cases h; exact ⟨_, rfl⟩) | cases h
theorem iCall {t : Expr × List Expr × List Keyword} (h : dsCall ex = some t) : ∃ p, ex = .Call t.1 t.2.1 t.2.2 p := by cases ex <;> first | (cases h; exact ⟨_, rfl⟩) | cases h
theorem iList {es : List Expr} (h : dsList ex = some es) : ∃ p, ex = .List es p := by cases ex <;> first | (cases h; exact ⟨_, rfl⟩) | cases h
theorem iTup {es : List Expr} (h : dsTup ex = some es) : ∃ k p, ex = .Tuple es k p := by cases ex <;> first | (cases h; exact ⟨_, _, rfl⟩) | cases h
theorem iSub {t : Expr × Expr} (h : dsSub ex = some t) : ∃ p, ex = .Subscript t.1 t.2 p := by cases ex <;> first | (cases h; exact ⟨_, rfl⟩) | cases h
theorem iSl {t : Option Expr × Option Expr × Option Expr} (h : dsSl ex = some t) : ∃ p, ex = .Slice t.1 t.2.1 t.2.2 p := by cases ex <;> first | (cases h; exact ⟨_, rfl⟩) | cases h
theorem head_cons {α : Type} {l : List α} {x : α} (h : l.head? = some x) : l = x :: l.tail := by cases l with | nil => cases h | cons y l => cases h; rfl
theorem one_of {α : Type} {l : List α} {x : α} (h : l.head? = some x) (hl : l.length = 1) : l = [x] := by
  rw [head_cons h] at hl ⊢
  have : l.tail = [] := List.length_eq_zero_iff.mp (by simpa using hl)
  rw [this]
theorem two_of {α : Type} {l : List α} {x y : α} (h : l.head? = some x) (h2 : l.tail.head? = some y) (hl : l.length = 2) : l = [x, y] := by
  rw [head_cons h] at hl ⊢
  rw [one_of h2 (by simpa using hl)]
theorem iCallN {t : Str × List Expr} (h : dsCallN sc ex = some t) : ∃ q e es p, ex = .Call (.Name t.1 q) (e :: es) [] p ∧ t.2 = e :: es ∧ glb sc t.1 = true := by
  unfold dsCallN at h
  obtain ⟨c, hc, h1⟩ := Option.bind_eq_some_iff.mp h
  obtain ⟨g, hg, h2⟩ := Option.bind_eq_some_iff.mp h1
  clear h h1
  obtain ⟨f, as, ks⟩ := c
  obtain ⟨p, rfl⟩ := iCall hc
  dsimp only at hg h2 ⊢
  obtain ⟨q, rfl⟩ := iN hg
  have h := h2
  clear h2
  split at h
  · rename_i hh
    simp only [Bool.and_eq_true, List.isEmpty_iff, Bool.not_eq_true'] at hh
    obtain ⟨⟨h1, h2⟩, h3⟩ := hh
    cases h
    subst h1
    cases as with
    | nil => simp at h2
    | cons e es => exact ⟨q, e, es, p, rfl, rfl, h3⟩
  · cases h

theorem inv_lit {i : Int} (h : chkE us N sc (.lit i) ex = true) : ∃ k p, ex = .Constant (.int i) k p := by
  simp only [chkE, beq_iff_eq] at h; exact iC h
theorem inv_orc {x : Str} (h : chkE us N sc (.orc x) ex = true) : plainE ex = true ∧ us.o x ex = true := by
  simpa [chkE] using h
theorem inv_bo {i : Bool} (h : chkE us N sc (.bo i) ex = true) : ∃ k p, ex = .Constant (.bool i) k p := by
  simp only [chkE, beq_iff_eq] at h; exact iC h
theorem inv_var {i : Nat} (h : chkE us N sc (.var i) ex = true) : ∃ x p, ex = .Name x p ∧ N[i]? = some x := by
  simp only [chkE, Option.any_eq_true, beq_iff_eq] at h
  obtain ⟨x, hx, h⟩ := h
  obtain ⟨p, rfl⟩ := iN hx
  exact ⟨x, p, rfl, h⟩
theorem inv_bin {op : Operator} {x y : E} (h : chkE us N sc (.bin op x y) ex = true) : ∃ l r p, ex = .BinOp l op r p ∧ chkE us N sc x l = true ∧ chkE us N sc y r = true := by
  simp only [chkE, Option.any_eq_true, Bool.and_eq_true, beq_iff_eq] at h
  obtain ⟨t, ht, ⟨rfl, h1⟩, h2⟩ := h
  obtain ⟨p, rfl⟩ := iBin ht
  exact ⟨_, _, p, rfl, h1, h2⟩
theorem inv_neg {x : E} (h : chkE us N sc (.neg x) ex = true) : ∃ l p, ex = .UnaryOp .USub l p ∧ chkE us N sc x l = true := by
  simp only [chkE, Option.any_eq_true, Bool.and_eq_true, beq_iff_eq] at h
  obtain ⟨⟨o, l⟩, ht, h1, h2⟩ := h
  obtain ⟨p, rfl⟩ := iUn ht
  dsimp only at h1 h2; subst h1
  exact ⟨_, p, rfl, h2⟩
theorem inv_not {x : E} (h : chkE us N sc (.not x) ex = true) : ∃ l p, ex = .UnaryOp .Not l p ∧ chkE us N sc x l = true := by
  simp only [chkE, Option.any_eq_true, Bool.and_eq_true, beq_iff_eq] at h
  obtain ⟨⟨o, l⟩, ht, h1, h2⟩ := h
  obtain ⟨p, rfl⟩ := iUn ht
  dsimp only at h1 h2; subst h1
  exact ⟨_, p, rfl, h2⟩
theorem inv_cmp {op : CmpOp} {x y : E} (h : chkE us N sc (.cmp op x y) ex = true) : ∃ l r p, ex = .Compare l [op] [r] p ∧ behindInMarks op r = false ∧ chkE us N sc x l = true ∧ chkE us N sc y r = true := by
  simp only [chkE, Option.any_eq_true, Bool.and_eq_true, beq_iff_eq] at h
  obtain ⟨⟨l, os, rs⟩, ht, ⟨h1, hl⟩, r, hr, ⟨h2, h3⟩, h4⟩ := h
  obtain ⟨p, rfl⟩ := iCmp ht
  dsimp only at h1 hl hr h2 h3 h4 ⊢
  subst h1
  rw [one_of hr hl]
  exact ⟨l, r, p, rfl, h2, h3, h4⟩
theorem inv_cmp2 {o1 o2 : CmpOp} {x y z : E} (h : chkE us N sc (.cmp2 x o1 y o2 z) ex = true) : ∃ l r r2 p, ex = .Compare l [o1, o2] [r, r2] p ∧ behindInMarks o2 r2 = false ∧ chkE us N sc x l = true ∧ chkE us N sc y r = true ∧ chkE us N sc z r2 = true := by
  simp only [chkE, Option.any_eq_true, Bool.and_eq_true, beq_iff_eq] at h
  obtain ⟨⟨l, os, rs⟩, ht, ⟨h1, hl⟩, r, hr, r2, hr2, ⟨⟨h2, h3⟩, h4⟩, h5⟩ := h
  obtain ⟨p, rfl⟩ := iCmp ht
  dsimp only at h1 hl hr hr2 h2 h3 h4 h5 ⊢
  subst h1
  rw [two_of hr hr2 hl]
  exact ⟨l, r, r2, p, rfl, h2, h3, h4, h5⟩
theorem inv_any {x : E} (h : chkE us N sc (.any x) ex = true) : ∃ es p, ex = .BoolOp .Or es p ∧ chkEs us N sc x es = true := by
  simp only [chkE, Option.any_eq_true, Bool.and_eq_true, beq_iff_eq] at h
  obtain ⟨⟨o, l⟩, ht, h1, h2⟩ := h
  obtain ⟨p, rfl⟩ := iBool ht
  dsimp only at h1 h2; subst h1
  exact ⟨_, p, rfl, h2⟩
theorem inv_ite {x y z : E} (h : chkE us N sc (.ite x y z) ex = true) : ∃ t u v p, ex = .IfExp t u v p ∧ chkE us N sc x t = true ∧ chkE us N sc y u = true ∧ chkE us N sc z v = true := by
  simp only [chkE, Option.any_eq_true, Bool.and_eq_true] at h
  obtain ⟨t, ht, ⟨h1, h2⟩, h3⟩ := h
  obtain ⟨p, rfl⟩ := iIf ht
  exact ⟨_, _, _, p, rfl, h1, h2, h3⟩
theorem inv_call {f : Str} {l : E} (h : chkE us N sc (.call f l) ex = true) : ∃ q e es p, ex = .Call (.Name f q) (e :: es) [] p ∧ us.l.contains (.fn f) = true ∧ glb sc f = true ∧ chkEs us N sc l (e :: es) = true := by
  simp only [chkE, Option.any_eq_true, Bool.and_eq_true, beq_iff_eq] at h
  obtain ⟨t, ht, ⟨h0, rfl⟩, h2⟩ := h
  obtain ⟨q, e, es, p, rfl, h3, h4⟩ := iCallN ht
  exact ⟨q, e, es, p, rfl, h0, h4, h3 ▸ h2⟩
theorem inv_bi {f : B} {l : E} (h : chkE us N sc (.bi f l) ex = true) : ∃ g q e es p, ex = .Call (.Name g q) (e :: es) [] p ∧ us.l.contains f = true ∧ f.plain = true ∧ (f.name == g) = true ∧ glb sc g = true ∧ chkEs us N sc l (e :: es) = true := by
  simp only [chkE, Option.any_eq_true, Bool.and_eq_true] at h
  obtain ⟨t, ht, ⟨⟨h0, h01⟩, h1⟩, h2⟩ := h
  obtain ⟨q, e, es, p, rfl, h3, h4⟩ := iCallN ht
  exact ⟨_, q, e, es, p, rfl, h0, h01, h1, h4, h3 ▸ h2⟩
theorem inv_isI {x : E} (h : chkE us N sc (.isI x) ex = true) : ∃ g q e t q2 p, ex = .Call (.Name g q) [e, .Name t q2] [] p ∧ us.l.contains .isinstance = true ∧ us.l.contains .int = true ∧ (B.isinstance.name == g) = true ∧ (B.int.name == t) = true ∧ glb sc g = true ∧ glb sc t = true ∧ notStarred e = true ∧ chkE us N sc x e = true := by
  simp only [chkE, Option.any_eq_true, Bool.and_eq_true] at h
  obtain ⟨t, ht, ⟨⟨⟨h0, h1⟩, h2⟩, hl⟩, e, he, c, hc, y, hy, ⟨⟨h3, h4⟩, h5⟩, h6⟩ := h
  obtain ⟨q, e', es, p, rfl, h7, h8⟩ := iCallN ht
  obtain ⟨q2, rfl⟩ := iN hy
  have h9 := two_of he hc (by simpa using hl)
  rw [h7] at h9; cases h9
  exact ⟨_, q, e, y, q2, p, rfl, h0, h1, h2, h3, h8, h4, h5, h6⟩
theorem inv_isB {x : E} (h : chkE us N sc (.isB x) ex = true) : ∃ g q e t q2 p, ex = .Call (.Name g q) [e, .Name t q2] [] p ∧ us.l.contains .isinstance = true ∧ us.l.contains .bool = true ∧ (B.isinstance.name == g) = true ∧ (B.bool.name == t) = true ∧ glb sc g = true ∧ glb sc t = true ∧ notStarred e = true ∧ chkE us N sc x e = true := by
  simp only [chkE, Option.any_eq_true, Bool.and_eq_true] at h
  obtain ⟨t, ht, ⟨⟨⟨h0, h1⟩, h2⟩, hl⟩, e, he, c, hc, y, hy, ⟨⟨h3, h4⟩, h5⟩, h6⟩ := h
  obtain ⟨q, e', es, p, rfl, h7, h8⟩ := iCallN ht
  obtain ⟨q2, rfl⟩ := iN hy
  have h9 := two_of he hc (by simpa using hl)
  rw [h7] at h9; cases h9
  exact ⟨_, q, e, y, q2, p, rfl, h0, h1, h2, h3, h8, h4, h5, h6⟩
theorem inv_lst {x : E} (h : chkE us N sc (.lst x) ex = true) : ∃ es p, ex = .List es p ∧ chkEs us N sc x es = true := by
  simp only [chkE, Option.any_eq_true] at h
  obtain ⟨t, ht, h⟩ := h
  obtain ⟨p, rfl⟩ := iList ht
  exact ⟨_, p, rfl, h⟩
theorem inv_tup {x : E} (h : chkE us N sc (.tup x) ex = true) : ∃ es k p, ex = .Tuple es k p ∧ chkEs us N sc x es = true := by
  simp only [chkE, Option.any_eq_true] at h
  obtain ⟨t, ht, h⟩ := h
  obtain ⟨k, p, rfl⟩ := iTup ht
  exact ⟨_, k, p, rfl, h⟩
theorem inv_idx {x y : E} (h : chkE us N sc (.idx x y) ex = true) : ∃ v ix p, ex = .Subscript v ix p ∧ notSlice ix = true ∧ chkE us N sc x v = true ∧ chkE us N sc y ix = true := by
  simp only [chkE, Option.any_eq_true, Bool.and_eq_true] at h
  obtain ⟨t, ht, ⟨h1, h2⟩, h3⟩ := h
  obtain ⟨p, rfl⟩ := iSub ht
  exact ⟨_, _, p, rfl, h1, h2, h3⟩
/-- a part of a cut -/
noncomputable def chkP (us : Us) (N : List Str) (sc : Scope) (e : E) (x : Option Expr) : Bool := if e.isNil then x.isNone else x.any fun y => chkE us N sc e y
theorem inv_slc {x y z : E} (h : chkE us N sc (.slc x y z) ex = true) : ∃ v l u q p, ex = .Subscript v (.Slice l u none q) p ∧ chkE us N sc x v = true ∧ chkP us N sc y l = true ∧ chkP us N sc z u = true := by
  simp only [chkE, Option.any_eq_true, Bool.and_eq_true] at h
  obtain ⟨t, ht, h1, ⟨l, u, st⟩, hu, ⟨h2, h3⟩, h4⟩ := h
  obtain ⟨p, rfl⟩ := iSub ht
  obtain ⟨v, ix⟩ := t
  dsimp only at h1 hu h2 h3 h4 ⊢
  obtain ⟨q, rfl⟩ := iSl hu
  dsimp only at h2 h3 h4 ⊢
  simp only [Option.isNone_iff_eq_none] at h2
  subst h2
  exact ⟨v, l, u, q, p, rfl, h1, h3, h4⟩
theorem inv_nil {es : List Expr} (h : chkEs us N sc .nil es = true) : es = [] := by
  simpa [chkEs] using h
theorem inv_cons {x r : E} {es : List Expr} (h : chkEs us N sc (.cons x r) es = true) : ∃ e es', es = e :: es' ∧ notStarred e = true ∧ chkE us N sc x e = true ∧ chkEs us N sc r es' = true := by
  simp only [chkEs, Option.any_eq_true, Bool.and_eq_true] at h
  obtain ⟨e, he, ⟨h1, h2⟩, h3⟩ := h
  exact ⟨e, es.tail, head_cons he, h1, h2, h3⟩
theorem cons_of {l : E} {e : Expr} {es : List Expr} (h : chkEs us N sc l (e :: es) = true) : ∃ x r, l = .cons x r := by
  cases l <;> first | exact ⟨_, _, rfl⟩ | (simp only [chkEs, List.isEmpty_cons] at h; cases h)
end inv


theorem intP_mono {P P' : Int → Prop} (hp : ∀ d, P d → P' d) {d : D} (h : intP P d) : intP P' d := by cases d <;> first | exact hp _ h | exact h
theorem lP_mono {P P' : List D → Prop} (hp : ∀ d, P d → P' d) {d : D} (h : lP P d) : lP P' d := by cases d <;> first | exact hp _ h | exact h
theorem ibP_mono {P P' : Int → Prop} {Q Q' : Bool → Prop} (hp : ∀ d, P d → P' d) (hq : ∀ d, Q d → Q' d) {d : D} (h : ibP P Q d) : ibP P' Q' d := by cases d <;> first | exact hp _ h | exact hq _ h | exact h
theorem ilP_mono {P P' : Int → Prop} {Q Q' : List D → Prop} (hp : ∀ d, P d → P' d) (hq : ∀ d, Q d → Q' d) {d : D} (h : ilP P Q d) : ilP P' Q' d := by cases d <;> first | exact hp _ h | exact hq _ h | exact h
theorem slP_mono {P P' : Str → Prop} {Q Q' : List D → Prop} (hp : ∀ d, P d → P' d) (hq : ∀ d, Q d → Q' d) {d : D} (h : slP P Q d) : slP P' Q' d := by cases d <;> first | exact hp _ h | exact hq _ h | exact h
theorem tlP_mono {P P' : List D → Prop} {Q Q' : List D → Prop} (hp : ∀ d, P d → P' d) (hq : ∀ d, Q d → Q' d) {d : D} (h : tlP P Q d) : tlP P' Q' d := by cases d <;> first | exact hp _ h | exact hq _ h | exact h
theorem ii_mono {k k' : Int → Int → Prop} {x y : D} (hp : ∀ a b, k a b → k' a b) (h : ii x y k) : ii x y k' := intP_mono (fun a h => intP_mono (fun b h => hp a b h) h) h
theorem l1_mono {k k' : D → Prop} {ds : List D} (hp : ∀ d, k d → k' d) (h : l1 k ds) : l1 k' ds := by
  obtain ⟨x, rfl, h⟩ := l1_inv h; exact hp _ h
theorem l2_mono {k k' : D → D → Prop} {ds : List D} (hp : ∀ d e, k d e → k' d e) (h : l2 k ds) : l2 k' ds := by
  obtain ⟨x, y, rfl, h⟩ := l2_inv h; exact hp _ _ h
theorem binW_mono {op : Operator} {x y : D} {P P' : D → Prop} (hp : ∀ d, P d → P' d) (h : binW op x y P) : binW op x y P' := by
  cases op <;> first
    | exact ii_mono (fun _ _ h => hp _ h) h
    | exact ii_mono (fun _ _ h => ⟨h.1, hp _ h.2⟩) h
    | exact ii_mono (fun _ _ h => ⟨h.1, h.2.1, hp _ h.2.2⟩) h
    | exact ilP_mono (fun _ h => ibP_mono (fun _ h => hp _ h) (fun _ h => hp _ h) h) (fun _ h => lP_mono (fun _ h => ⟨h.1, hp _ h.2⟩) h) h
    | exact h
theorem cmpW_mono {op : CmpOp} {x y : D} {P P' : Bool → Prop} (hp : ∀ d, P d → P' d) (h : cmpW op x y P) : cmpW op x y P' := by
  cases op <;> first | exact ii_mono (fun _ _ h => hp _ h) h | exact intP_mono (fun _ h => lP_mono (fun _ h => let ⟨ns, e, h⟩ := h; ⟨ns, e, hp _ h⟩) h) h | exact h
theorem biW_mono {f : B} {ds : List D} {P P' : D → Prop} (hp : ∀ d, P d → P' d) (h : biW f ds P) : biW f ds P' := by
  by_cases hs : f = .sum
  · subst hs
    exact l1_mono (fun _ h => lP_mono (fun _ h => let ⟨ns, e, h⟩ := h; ⟨ns, e, hp _ h⟩) h) h
  cases f <;> first
    | exact absurd rfl hs
    | exact l1_mono (fun _ h => intP_mono (fun _ h => hp _ h) h) h
    | exact l1_mono (fun _ h => intP_mono (fun _ h => ⟨h.1, hp _ h.2⟩) h) h
    | exact l2_mono (fun _ _ h => ii_mono (fun _ _ h => hp _ h) h) h
    | exact l2_mono (fun _ _ h => ii_mono (fun _ _ h => ⟨h.1, h.2.1, hp _ h.2.2⟩) h) h
    | exact l1_mono (fun _ h => lP_mono (fun _ h => ⟨h.1, hp _ h.2⟩) h) h
    | exact l1_mono (fun _ h => slP_mono (fun _ h => ⟨h.1, hp _ h.2⟩) (fun _ h => ⟨h.1, hp _ h.2⟩) h) h
    | exact h
theorem idxW_mono {x y : D} {P P' : D → Prop} (hp : ∀ d, P d → P' d) (h : idxW x y P) : idxW x y P' :=
  intP_mono (fun _ h => tlP_mono (fun _ ⟨a, b, d, e, g⟩ => ⟨a, b, d, e, hp _ g⟩) (fun _ ⟨a, b, d, e, f, g⟩ => ⟨a, b, d, e, f, hp _ g⟩) h) h
theorem isIP_mono {P P' : D → Prop} (hp : ∀ d, P d → P' d) {d : D} (h : isIP P d) : isIP P' d := ibP_mono (fun _ h => hp _ h) (fun _ h => hp _ h) h
theorem isBP_mono {P P' : D → Prop} (hp : ∀ d, P d → P' d) {d : D} (h : isBP P d) : isBP P' d := ibP_mono (fun _ h => hp _ h) (fun _ h => hp _ h) h
theorem cutP_mono {i j : Option Int} {P P' : D → Prop} (hp : ∀ d, P d → P' d) {d : D} (h : cutP i j P d) : cutP i j P' d := lP_mono (fun _ h => ⟨h.1, hp _ h.2⟩) h

section
variable {Γ : Str → List D → D → Prop}
structure Mono (Γ : Str → List D → D → Prop) (e : E) : Prop where
  w : ∀ (ρ : List D) (P P' : D → Prop), (∀ d, P d → P' d) → wp0 Γ e ρ P → wp0 Γ e ρ P'
  a : ∀ (ρ : List D) (P P' : D → Prop), (∀ d, P d → P' d) → wpAnd0 Γ e ρ P → wpAnd0 Γ e ρ P'
  o : ∀ (ρ : List D) (P P' : D → Prop), (∀ d, P d → P' d) → wpOr0 Γ e ρ P → wpOr0 Γ e ρ P'
  l : ∀ (ρ : List D) (P P' : List D → Prop), (∀ d, P d → P' d) → wpL0 Γ e ρ P → wpL0 Γ e ρ P'
theorem Mono.mk' {e : E} (h1 : e ≠ .nil) (h2 : ∀ x r, e ≠ .cons x r) (w : ∀ (ρ : List D) (P P' : D → Prop), (∀ d, P d → P' d) → wp0 Γ e ρ P → wp0 Γ e ρ P') : Mono Γ e := by
  refine ⟨w, ?_, ?_, ?_⟩
  · intro ρ P P' hp h; cases e <;> first | exact absurd rfl h1 | exact absurd rfl (h2 _ _) | exact h.elim
  · intro ρ P P' hp h; cases e <;> first | exact absurd rfl h1 | exact absurd rfl (h2 _ _) | exact h.elim
  · intro ρ P P' hp h; cases e <;> first | exact absurd rfl h1 | exact absurd rfl (h2 _ _) | exact h.elim
theorem mono (e : E) : Mono Γ e := by
  induction e with
  | lit i => exact .mk' (by simp) (by simp) fun ρ P P' hp h => by simp only [wp0] at h ⊢; exact hp _ h
  | bo i => exact .mk' (by simp) (by simp) fun ρ P P' hp h => by simp only [wp0] at h ⊢; exact hp _ h
  | orc x => exact .mk' (by simp) (by simp) fun ρ P P' hp h => by simp only [wp0] at h ⊢; exact h.imp fun r h => ⟨h.1, hp _ h.2⟩
  | var i => exact .mk' (by simp) (by simp) fun ρ P P' hp h => by simp only [wp0] at h ⊢; exact ⟨h.1, hp _ h.2⟩
  | bin op x y ihx ihy =>
    exact .mk' (by simp) (by simp) fun ρ P P' hp h => by
      simp only [wp0] at h ⊢; exact ihx.w ρ _ _ (fun d hd => ihy.w ρ _ _ (fun d' hd' => binW_mono hp hd') hd) h
  | neg x ih =>
    exact .mk' (by simp) (by simp) fun ρ P P' hp h => by
      simp only [wp0] at h ⊢; exact ih.w ρ _ _ (fun d hd => intP_mono (fun i hi => hp _ hi) hd) h
  | not x ih =>
    exact .mk' (by simp) (by simp) fun ρ P P' hp h => by
      simp only [wp0] at h ⊢; exact ih.w ρ _ _ (fun d ⟨b, hb, hd⟩ => ⟨b, hb, hp _ hd⟩) h
  | cmp op x y ihx ihy =>
    exact .mk' (by simp) (by simp) fun ρ P P' hp h => by
      simp only [wp0] at h ⊢; exact ihx.w ρ _ _ (fun d hd => ihy.w ρ _ _ (fun d' hd' => cmpW_mono (fun c hc => hp _ hc) hd') hd) h
  | cmp2 x o1 y o2 z ihx ihy ihz =>
    exact .mk' (by simp) (by simp) fun ρ P P' hp h => by
      simp only [wp0] at h ⊢
      refine ihx.w ρ _ _ (fun d hd => ihy.w ρ _ _ (fun d' hd' => cmpW_mono (fun c hc => ?_) hd') hd) h
      cases c with
      | true => simp only [if_true] at hc ⊢; exact ihz.w ρ _ _ (fun _ h => cmpW_mono (fun _ h => hp _ h) h) hc
      | false => simp only [Bool.false_eq_true, if_false] at hc ⊢; exact hp _ hc
  | any l ih => exact .mk' (by simp) (by simp) fun ρ P P' hp h => by simp only [wp0] at h ⊢; exact ih.o ρ _ _ hp h
  | ite c x y ihc ihx ihy =>
    exact .mk' (by simp) (by simp) fun ρ P P' hp h => by
      simp only [wp0] at h ⊢
      refine ihc.w ρ _ _ (fun d ⟨b, hb, hd⟩ => ⟨b, hb, ?_⟩) h
      cases b with
      | true => simp only [if_true] at hd ⊢; exact ihx.w ρ _ _ hp hd
      | false => simp only [Bool.false_eq_true, if_false] at hd ⊢; exact ihy.w ρ _ _ hp hd
  | call f l ih =>
    exact .mk' (by simp) (by simp) fun ρ P P' hp h => by
      simp only [wp0] at h ⊢; exact ih.l ρ _ _ (fun ds ⟨r, hr, hd⟩ => ⟨r, hr, hp _ hd⟩) h
  | bi f l ih =>
    exact .mk' (by simp) (by simp) fun ρ P P' hp h => by
      simp only [wp0] at h ⊢; exact ih.l ρ _ _ (fun ds hd => biW_mono hp hd) h
  | isI x ih =>
    exact .mk' (by simp) (by simp) fun ρ P P' hp h => by
      simp only [wp0] at h ⊢; exact ih.w ρ _ _ (fun d hd => isIP_mono hp hd) h
  | isB x ih =>
    exact .mk' (by simp) (by simp) fun ρ P P' hp h => by
      simp only [wp0] at h ⊢; exact ih.w ρ _ _ (fun d hd => isBP_mono hp hd) h
  | nil =>
    refine ⟨?_, ?_, ?_, ?_⟩
    · intro ρ P P' hp h; simp only [wp0] at h
    · intro ρ P P' hp h; simp only [wpAnd0] at h
    · intro ρ P P' hp h; simp only [wpOr0] at h
    · intro ρ P P' hp h; simp only [wpL0] at h ⊢; exact hp _ h
  | cons x r ihx ihr =>
    refine ⟨?_, ?_, ?_, ?_⟩
    · intro ρ P P' hp h; simp only [wp0] at h
    · intro ρ P P' hp h
      simp only [wpAnd0] at h ⊢
      refine ihx.w ρ _ _ (fun d hd => ?_) h
      split at hd
      · rename_i hc; rw [if_pos hc]; exact hp _ hd
      · rename_i hc; rw [if_neg hc]
        obtain ⟨b, hb, hd⟩ := hd
        refine ⟨b, hb, ?_⟩
        cases b with
        | true => simp only [if_true] at hd ⊢; exact ihr.a ρ _ _ hp hd
        | false => simp only [Bool.false_eq_true, if_false] at hd ⊢; exact hp _ hd
    · intro ρ P P' hp h
      simp only [wpOr0] at h ⊢
      refine ihx.w ρ _ _ (fun d hd => ?_) h
      split at hd
      · rename_i hc; rw [if_pos hc]; exact hp _ hd
      · rename_i hc; rw [if_neg hc]
        obtain ⟨b, hb, hd⟩ := hd
        refine ⟨b, hb, ?_⟩
        cases b with
        | true => simp only [if_true] at hd ⊢; exact hp _ hd
        | false => simp only [Bool.false_eq_true, if_false] at hd ⊢; exact ihr.o ρ _ _ hp hd
    · intro ρ P P' hp h; simp only [wpL0] at h ⊢; exact ihx.w ρ _ _ (fun d hd => ihr.l ρ _ _ (fun ds h => hp _ h) hd) h
  | lst l ih =>
    exact .mk' (by simp) (by simp) fun ρ P P' hp h => by
      simp only [wp0] at h ⊢; exact ih.l ρ _ _ (fun ds hd => ⟨hd.1, hp _ hd.2⟩) h
  | tup l ih =>
    exact .mk' (by simp) (by simp) fun ρ P P' hp h => by
      simp only [wp0] at h ⊢; exact ih.l ρ _ _ (fun ds hd => ⟨hd.1, hp _ hd.2⟩) h
  | idx x y ihx ihy =>
    exact .mk' (by simp) (by simp) fun ρ P P' hp h => by
      simp only [wp0] at h ⊢; exact ihx.w ρ _ _ (fun d hd => ihy.w ρ _ _ (fun d' hd' => idxW_mono hp hd') hd) h
  | slc x lo hi ihx ihl ihh =>
    exact .mk' (by simp) (by simp) fun ρ P P' hp h => by
      simp only [wp0] at h ⊢
      have part : ∀ {e : E} (ih : Mono Γ e) (P P' : Option Int → Prop), (∀ i, P i → P' i) → partP e.isNil (wp0 Γ e ρ) P → partP e.isNil (wp0 Γ e ρ) P' := by
        intro e ih P P' hp h
        unfold partP at h ⊢
        split at h
        · rename_i hc; rw [if_pos hc]; exact hp _ h
        · rename_i hc; rw [if_neg hc]; exact ih.w ρ _ _ (fun d hd => intP_mono (fun i hi => hp _ hi) hd) h
      exact ihx.w ρ _ _ (fun d hd => part ihl _ _ (fun i hi => part ihh _ _ (fun j hj => cutP_mono hp hj) hi) hd) h
theorem wp_mono {e : E} {ρ : List D} {P P' : D → Prop} (h : wp0 Γ e ρ P) (hp : ∀ d, P d → P' d) : wp0 Γ e ρ P' := (mono e).w ρ P P' hp h
end


section sound
variable {prog : Program} {w : World} {hB h₀ : Heap} {mg mb : Str → Option Value} {us : Us} {N : List Str} {sc : Scope} {Γ : Str → List D → D → Prop} {n : Nat} {name : Str} {L : Addr} {a : Option Addr × Option Addr} {cd : Value} {cs : List (Str × Addr)}

abbrev SndC (prog : Program) (w : World) (h₀ : Heap) (us : Us) (N : List Str) (sc : Scope) (Γ : Str → List D → D → Prop) (n : Nat) (name : Str) (L : Addr) (a : Option Addr × Option Addr) (cd : Value) (cs : List (Str × Addr)) (e : E) : Prop := Snd prog w h₀ us N sc Γ n name L a cd cs e

theorem isinst_ok {A : Around} {s : Shared} {v : Value} {d : D} {P : D → Prop} (r : RV s.heap v d) (h : isIP P d) :
    wpAny (model prog w) A (call (.builtin "isinstance") [v, .type "int"]) (fun v s' => Keeps s s' ∧ ∃ d, RV s'.heap v d ∧ P d) Fls s := by
  rcases ibP_inv h with ⟨i, rfl, h⟩ | ⟨c, rfl, h⟩
  · obtain ⟨t, rfl⟩ := r.inv_int; exact call_isinstance_yes (PySem.typeIs_int s i t) F.isi_meta_int F.isi_self_int ⟨kRefl s, _, .bool true, h⟩
  · obtain rfl := r.inv_bool; exact call_isinstance_yes (Tx := "bool") (PySem.typeIs_bool s c) F.isi_meta_int (by rw [isSubtype_type]; kernel_rfl) ⟨kRefl s, _, .bool true, h⟩
theorem isinstB_ok {A : Around} {s : Shared} {v : Value} {d : D} {P : D → Prop} (r : RV s.heap v d) (h : isBP P d) :
    wpAny (model prog w) A (call (.builtin "isinstance") [v, .type "bool"]) (fun v s' => Keeps s s' ∧ ∃ d, RV s'.heap v d ∧ P d) Fls s := by
  rcases ibP_inv h with ⟨i, rfl, h⟩ | ⟨c, rfl, h⟩
  · obtain ⟨t, rfl⟩ := r.inv_int
    exact PySem.call_isinstance (PySem.isinstance_false_int (T := "bool") (by decide) F.isi_meta_bool isSubtype_int_bool) ⟨kTok s _, _, .bool false, h⟩
  · obtain rfl := r.inv_bool; exact call_isinstance_yes (Tx := "bool") (PySem.typeIs_bool s c) F.isi_meta_bool (by rw [isSubtype_type]; kernel_rfl) ⟨kRefl s, _, .bool true, h⟩

theorem part_ok {e : E} (ih : SndC prog w h₀ us N sc Γ n name L a cd cs e) {l : Option Expr} (hc : chkP us N sc e l = true) {A : Around} {s : Shared} {ρ : List D} {P : Option Int → Prop} (hA : AOk n A) (S : St h₀ L N ρ s)
    (h : partP e.isNil (wp0 Γ e ρ) P) : wpAny (model prog w) A (evalPart l (eOf name sc L a cd cs)) (fun v s' => Keeps s s' ∧ ∃ i, IsPart v i ∧ P i) Fls s := by
  unfold chkP at hc
  unfold partP at h
  split at h
  · rename_i hn
    rw [if_pos hn] at hc
    simp only [Option.isNone_iff_eq_none] at hc
    subst hc
    exact wpAny_evalPart_none ⟨kRefl s, _, .none, h⟩
  · rename_i hn
    rw [if_neg hn] at hc
    obtain ⟨x, rfl, hx⟩ := (Option.any_eq_true ..).mp hc
    refine wpAny_evalPart_some (wpAny_mono (ih.val x hx A s ρ _ hA S h) (fun v s' h' => ?_) fun _ _ x => x)
    obtain ⟨k, d, r, hp⟩ := h'
    obtain ⟨i, rfl, hp⟩ := intP_inv hp
    obtain ⟨t, rfl⟩ := r.inv_int
    exact ⟨k, _, .int _ _, hp⟩

theorem args_ok {x r : E} (ihx : SndC prog w h₀ us N sc Γ n name L a cd cs x) (ihr : SndC prog w h₀ us N sc Γ n name L a cd cs r) {es : List Expr} {pos : Pos} (hc : chkEs us N sc (.cons x r) es = true)
    {A : Around} {s : Shared} {ρ : List D} {P : List D → Prop} (hA : AOk n A) (S : St h₀ L N ρ s) (h : wpL0 Γ (.cons x r) ρ P) :
    wpAny (model prog w) A (spliced (backTo pos (starEach es (eOf name sc L a cd cs)))) (fun vs s' => Keeps s s' ∧ ∃ ds, RVs s'.heap vs ds ∧ P ds) Fls s := by
  obtain ⟨e, es, rfl, hs, h1, h2⟩ := inv_cons hc
  refine args_cons ?_ (starEach_cons hs)
  simp only [wpL0] at h
  refine wpAny_mono (ihx.val e h1 A s ρ _ hA S h) (fun v s' h' => ?_) fun _ _ x => x
  obtain ⟨k, d, rv, hp⟩ := h'
  refine wpAny_mono (ihr.lst es pos h2 A s' ρ _ hA (S.keeps k) hp) (fun vs s'' h'' => ?_) fun _ _ x => x
  obtain ⟨k2, ds, rs, hp2⟩ := h''
  exact ⟨kTrans k k2, _, RVs.cons (rv.keep (kSeq k2)) rs, hp2⟩

theorem isNil_iff {r : E} : r.isNil = true ↔ r = .nil := by cases r <;> simp
theorem wpAnd_more {x r : E} {ρ : List D} {P : D → Prop} (hr : r ≠ .nil) : wpAnd0 Γ (.cons x r) ρ P = wp0 Γ x ρ fun d => ∃ b, truth d = some b ∧ if b = true then wpAnd0 Γ r ρ P else P d := by
  have hn : ¬ r.isNil = true := fun h => hr (isNil_iff.mp h)
  simp only [wpAnd0, if_neg hn]
theorem wpOr_more {x r : E} {ρ : List D} {P : D → Prop} (hr : r ≠ .nil) : wpOr0 Γ (.cons x r) ρ P = wp0 Γ x ρ fun d => ∃ b, truth d = some b ∧ if b = true then P d else wpOr0 Γ r ρ P := by
  have hn : ¬ r.isNil = true := fun h => hr (isNil_iff.mp h)
  simp only [wpOr0, if_neg hn]
theorem wpAnd_one {x : E} {ρ : List D} {P : D → Prop} : wpAnd0 Γ (.cons x .nil) ρ P = wp0 Γ x ρ P := by simp only [wpAnd0, E.isNil, if_true]
theorem wpOr_one {x : E} {ρ : List D} {P : D → Prop} : wpOr0 Γ (.cons x .nil) ρ P = wp0 Γ x ρ P := by simp only [wpOr0, E.isNil, if_true]
theorem val_cases (f : B) (h : f.plain = true) : (∃ id, f.val = .builtin id) ∨ (∃ T, f.val = .type T) := by
  cases f <;> first | exact .inl ⟨_, rfl⟩ | exact .inr ⟨_, rfl⟩ | cases h
theorem nil_of {r : E} (h : chkEs us N sc r [] = true) : r = .nil := by
  cases r <;> first | rfl | (simp only [chkEs, List.head?_nil, Option.any_none] at h; cases h)
theorem chkEs_stars {l : E} {e : Expr} {es : List Expr} (h : chkEs us N sc l (e :: es) = true) {env : Env} {pos : Pos} : (backTo pos (starEach es env)).any (·.1) = false := by
  have gen : ∀ (es : List Expr) (l : E), chkEs us N sc l es = true → (backTo pos (starEach es env)).any (·.1) = false := by
    intro es
    induction es with
    | nil => intro l _; rfl
    | cons e es ih =>
      intro l hl
      obtain ⟨x, r, rfl⟩ := cons_of hl
      obtain ⟨e', es', e1, hs, _, h2⟩ := inv_cons hl
      cases e1
      have := ih _ h2
      rw [starEach_cons hs]
      simpa [backTo] using this
  obtain ⟨x, r, rfl⟩ := cons_of h
  obtain ⟨e', es', e1, hs, _, h2⟩ := inv_cons h
  cases e1
  exact gen es _ h2
theorem callB {A : Around} {s : Shared} {env : Env} {v : Value} {e : Expr} {es : List Expr} {pos : Pos} {Q : Value → Shared → Prop} (hs : notStarred e = true) (hst : (backTo pos (starEach es env)).any (·.1) = false) (hv : (∃ id, v = .builtin id) ∨ (∃ T, v = .type T))
    (h : wpAny (model prog w) A (spliced (backTo pos (starEach (e :: es) env))) (fun vs s₁ => wpAny (model prog w) A (call v vs) Q Fls s₁) Fls s) :
    wpAny (model prog w) A (callWith pos v [] (backTo pos (starEach (e :: es) env)) []) Q Fls s := by
  have he := starEach_cons (rest := es) (env := env) hs
  rcases hv with ⟨id, rfl⟩ | ⟨T, rfl⟩
  · exact callWith_builtin1 h he hst
  · rw [he] at h ⊢
    exact PyProof.Rows.callWith_type (by show (false || (backTo pos (starEach es env)).any (·.1)) = false; rw [hst]; rfl) (evalArgs_plain h)

theorem sound (C : Cx prog w hB h₀ mg mb us N sc Γ n name L a cd cs) : ∀ e : E, SndC prog w h₀ us N sc Γ n name L a cd cs e := by
  intro e
  induction e with
  | lit i =>
    refine .mkP (by simp) (by simp) (fun ex hc t => by obtain ⟨k, p, rfl⟩ := inv_lit hc; rfl) fun ex hc A s ρ P hA S h => ?_
    obtain ⟨k, p, rfl⟩ := inv_lit hc
    simp only [wp0] at h
    exact wpAny_Constant_int (tok_ok h)
  | orc x =>
    refine .mkP (by simp) (by simp) (fun ex hc t => by have h := (inv_orc hc).1; cases ex <;> first | rfl | cases h) fun ex hc A s ρ P hA S h => ?_
    obtain ⟨h1, h2⟩ := inv_orc hc
    simp only [wp0] at h
    obtain ⟨r, hr, hp⟩ := h
    exact wpAny_mono (C.orc x ρ r ex hr h1 h2 A s hA S) (fun v s' h' => ⟨h'.1, r, h'.2, hp⟩) fun _ _ x => x
  | bo i =>
    refine .mkP (by simp) (by simp) (fun ex hc t => by obtain ⟨k, p, rfl⟩ := inv_bo hc; rfl) fun ex hc A s ρ P hA S h => ?_
    obtain ⟨k, p, rfl⟩ := inv_bo hc
    simp only [wp0] at h
    exact Constant_bool ⟨kRefl s, _, .bool _, h⟩
  | var i =>
    refine .mkP (by simp) (by simp) (fun ex hc t => by obtain ⟨x, p, rfl, _⟩ := inv_var hc; rfl) fun ex hc A s ρ P hA S h => ?_
    obtain ⟨x, p, rfl, hx⟩ := inv_var hc
    simp only [wp0] at h
    exact ld_ok C S hx rfl h.1 fun v r => ⟨kRefl s, _, r, h.2⟩
  | bin op x y ihx ihy =>
    refine .mkP (by simp) (by simp) (fun ex hc t => by obtain ⟨_, _, _, rfl, _⟩ := inv_bin hc; rfl) fun ex hc A s ρ P hA S h => ?_
    obtain ⟨l, r, p, rfl, h1, h2⟩ := inv_bin hc
    simp only [wp0] at h
    refine wpAny_BinOp (wpAny_mono (ihx.val l h1 A s ρ _ hA S h) (fun v s' h' => ?_) fun _ _ x => x)
    obtain ⟨k, d, rv, hp⟩ := h'
    refine wpAny_mono (ihy.val r h2 A s' ρ _ hA (S.keeps k) hp) (fun u s'' h'' => ?_) fun _ _ x => x
    obtain ⟨k2, d2, ru, hp2⟩ := h''
    exact wpAny_mono (bin_ok (rv.keep (kSeq k2)) ru hp2) (fun _ _ x => ⟨kTrans k (kTrans k2 x.1), x.2⟩) fun _ _ x => x
  | neg x ihx =>
    refine .mkP (by simp) (by simp) (fun ex hc t => by obtain ⟨_, _, rfl, _⟩ := inv_neg hc; rfl) fun ex hc A s ρ P hA S h => ?_
    obtain ⟨l, p, rfl, h1⟩ := inv_neg hc
    simp only [wp0] at h
    refine UnaryOp_ (wpAny_mono (ihx.val l h1 A s ρ _ hA S h) (fun v s' h' => ?_) fun _ _ x => x)
    obtain ⟨k, d, rv, hp⟩ := h'
    obtain ⟨i, rfl, hp⟩ := intP_inv hp
    obtain ⟨t, rfl⟩ := rv.inv_int; exact PySem.P.neg_int ⟨kTrans k (kTok _ _), _, .int _ _, hp⟩
  | not x ihx =>
    refine .mk' (by simp) (by simp) (fun ex hc A s ρ P hA S h => ?_) fun ex hc A s ρ P hA S h => ?_
    · obtain ⟨l, p, rfl, h1⟩ := inv_not hc
      simp only [wp0] at h
      refine UnaryOp_ (wpAny_mono (ihx.val l h1 A s ρ _ hA S h) (fun v s' h' => ?_) fun _ _ x => x)
      obtain ⟨k, d, rv, b, hb, hp⟩ := h'
      refine not_of (wpAny_mono (truthy_ok rv hb) (fun c s'' h'' => ?_) fun _ _ x => x)
      obtain ⟨k2, rfl⟩ := h''
      exact ⟨kTrans k k2, _, .bool _, hp⟩
    · obtain ⟨l, p, rfl, h1⟩ := inv_not hc
      simp only [wp0] at h
      refine isTrue_not (wpAny_mono (ihx.tst l h1 A s ρ (fun c => P (!c)) hA S ?_) (fun c s' h' => ⟨h'.1, h'.2⟩) fun _ _ x => x)
      simpa [truth] using h
  | cmp op x y ihx ihy =>
    have key : ∀ ex, chkE us N sc (.cmp op x y) ex = true → ∀ (A : Around) (s : Shared) (ρ : List D) (P : Bool → Prop), AOk n A → St h₀ L N ρ s → (wp0 Γ x ρ fun x => wp0 Γ y ρ fun y => cmpW op x y P) →
        ∃ l r p, ex = .Compare l [op] [r] p ∧ behindInMarks op r = false ∧ wpAny (model prog w) A (eval l (eOf name sc L a cd cs)) (fun v s₁ => wpAny (model prog w) A (eval r (eOf name sc L a cd cs)) (fun u s₂ => wpAny (model prog w) A (compareOp op v u) (fun c s₃ => Keeps s s₃ ∧ ∃ b, c = .bool b ∧ P b) Fls s₂) Fls s₁) Fls s := by
      intro ex hc A s ρ P hA S h
      obtain ⟨l, r, p, rfl, hm, h1, h2⟩ := inv_cmp hc
      refine ⟨l, r, p, rfl, hm, wpAny_mono (ihx.val l h1 A s ρ _ hA S h) (fun v s' h' => ?_) fun _ _ x => x⟩
      obtain ⟨k, d, rv, hp⟩ := h'
      refine wpAny_mono (ihy.val r h2 A s' ρ _ hA (S.keeps k) hp) (fun u s'' h'' => ?_) fun _ _ x => x
      obtain ⟨k2, d2, ru, hp2⟩ := h''
      refine wpAny_mono (cmp_ok (rv.keep (kSeq k2)) ru hp2) (fun c s₃ h₃ => ?_) fun _ _ x => x
      obtain ⟨rfl, b, rfl, hb⟩ := h₃
      exact ⟨kTrans k k2, b, rfl, hb⟩
    refine .mk' (by simp) (by simp) (fun ex hc A s ρ P hA S h => ?_) fun ex hc A s ρ P hA S h => ?_
    · simp only [wp0] at h
      obtain ⟨l, r, p, rfl, hm, hh⟩ := key ex hc A s ρ _ hA S h
      refine wpAny_Compare1 (wpAny_mono hh (fun v s₁ h₁ => wpAny_mono h₁ (fun u s₂ h₂ => wpAny_mono h₂ (fun c s₃ h₃ => ?_) fun _ _ x => x) fun _ _ x => x) fun _ _ x => x) hm
      obtain ⟨k, b, rfl, hb⟩ := h₃
      exact ⟨k, _, .bool _, hb⟩
    · simp only [wp0] at h
      obtain ⟨l, r, p, rfl, hm, hh⟩ := key ex hc A s ρ _ hA S h
      refine wpAny_isTrue_Compare1 (wpAny_mono hh (fun v s₁ h₁ => wpAny_mono h₁ (fun u s₂ h₂ => wpAny_mono h₂ (fun c s₃ h₃ => ?_) fun _ _ x => x) fun _ _ x => x) fun _ _ x => x) hm
      obtain ⟨k, b, rfl, c, hb, hp⟩ := h₃
      simp only [truth, Option.some.injEq] at hb
      subst hb
      exact wpAny_truthy_bool ⟨k, hp⟩
  | cmp2 x o1 y o2 z ihx ihy ihz =>
    have key : ∀ ex, chkE us N sc (.cmp2 x o1 y o2 z) ex = true → ∀ (A : Around) (s : Shared) (ρ : List D) (P : Bool → Prop), AOk n A → St h₀ L N ρ s →
        (wp0 Γ x ρ fun x => wp0 Γ y ρ fun y => cmpW o1 x y fun t => if t = true then wp0 Γ z ρ fun z => cmpW o2 y z P else P false) →
        ∃ l r r2 p, ex = .Compare l [o1, o2] [r, r2] p ∧ behindInMarks o2 r2 = false ∧ wpAny (model prog w) A (eval l (eOf name sc L a cd cs)) (fun v s₁ => wpAny (model prog w) A (eval r (eOf name sc L a cd cs)) (fun u s₂ => wpAny (model prog w) A (compareOp o1 v u)
          (fun c s₃ => ∃ b, c = .bool b ∧ if b = true then wpAny (model prog w) A (eval r2 (eOf name sc L a cd cs)) (fun z s₄ => wpAny (model prog w) A (compareOp o2 u z) (fun c s₅ => Keeps s s₅ ∧ ∃ b, c = .bool b ∧ P b) Fls s₄) Fls s₃ else Keeps s s₃ ∧ P false) Fls s₂) Fls s₁) Fls s := by
      intro ex hc A s ρ P hA S h
      obtain ⟨l, r, r2, p, rfl, hm, h1, h2, h3⟩ := inv_cmp2 hc
      refine ⟨l, r, r2, p, rfl, hm, wpAny_mono (ihx.val l h1 A s ρ _ hA S h) (fun v s' h' => ?_) fun _ _ x => x⟩
      obtain ⟨k, d, rv, hp⟩ := h'
      refine wpAny_mono (ihy.val r h2 A s' ρ _ hA (S.keeps k) hp) (fun u s'' h'' => ?_) fun _ _ x => x
      obtain ⟨k2, d2, ru, hp2⟩ := h''
      refine wpAny_mono (cmp_ok (rv.keep (kSeq k2)) ru hp2) (fun c s₃ h₃ => ?_) fun _ _ x => x
      obtain ⟨rfl, b, rfl, hb⟩ := h₃
      refine ⟨b, rfl, ?_⟩
      cases b with
      | false => simp only [Bool.false_eq_true, if_false] at hb ⊢; exact ⟨kTrans k k2, hb⟩
      | true =>
        simp only [if_true] at hb ⊢
        refine wpAny_mono (ihz.val r2 h3 A s₃ ρ _ hA ((S.keeps k).keeps k2) hb) (fun z' s₄ h₄ => ?_) fun _ _ x => x
        obtain ⟨k4, d4, rz, hp4⟩ := h₄
        refine wpAny_mono (cmp_ok (ru.keep (kSeq k4)) rz hp4) (fun c s₅ h₅ => ?_) fun _ _ x => x
        obtain ⟨rfl, b, rfl, hb⟩ := h₅
        exact ⟨kTrans (kTrans k k2) k4, b, rfl, hb⟩
    refine .mk' (by simp) (by simp) (fun ex hc A s ρ P hA S h => ?_) fun ex hc A s ρ P hA S h => ?_
    · simp only [wp0] at h
      obtain ⟨l, r, r2, p, rfl, hm, hh⟩ := key ex hc A s ρ _ hA S h
      refine Compare_chain (rs := []) (wpAny_mono hh (fun v s₁ h₁ => chain_link (wpAny_mono h₁ (fun u s₂ h₂ => wpAny_mono h₂ (fun c s₃ h₃ => ?_) fun _ _ x => x) fun _ _ x => x)) fun _ _ x => x) (by simpa [lastMarks] using hm)
      obtain ⟨b, rfl, hb⟩ := h₃
      refine wpAny_truthy_bool ?_
      cases b with
      | false => simp only [Bool.false_eq_true, if_false] at hb ⊢; exact ⟨hb.1, _, .bool _, hb.2⟩
      | true =>
        simp only [if_true] at hb ⊢
        refine chain_last (wpAny_mono hb (fun z s₄ h₄ => wpAny_mono h₄ (fun c s₅ h₅ => ?_) fun _ _ x => x) fun _ _ x => x)
        obtain ⟨kk, b, rfl, hb⟩ := h₅
        exact ⟨kk, _, .bool _, hb⟩
    · simp only [wp0] at h
      obtain ⟨l, r, r2, p, rfl, hm, hh⟩ := key ex hc A s ρ _ hA S h
      refine isTrue_chain (rs := []) (wpAny_mono hh (fun v s₁ h₁ => test_link (wpAny_mono h₁ (fun u s₂ h₂ => wpAny_mono h₂ (fun c s₃ h₃ => ?_) fun _ _ x => x) fun _ _ x => x)) fun _ _ x => x) (by simpa [lastMarks] using hm)
      obtain ⟨b, rfl, hb⟩ := h₃
      refine wpAny_truthy_bool ?_
      cases b with
      | false =>
        simp only [Bool.false_eq_true, if_false] at hb ⊢
        obtain ⟨kk, c, hc, hp⟩ := hb
        simp only [truth, Option.some.injEq] at hc
        subst hc
        exact ⟨kk, hp⟩
      | true =>
        simp only [if_true] at hb ⊢
        refine test_last (wpAny_mono hb (fun z s₄ h₄ => wpAny_mono h₄ (fun c s₅ h₅ => ?_) fun _ _ x => x) fun _ _ x => x)
        obtain ⟨kk, b, rfl, c, hc, hp⟩ := h₅
        simp only [truth, Option.some.injEq] at hc
        subst hc
        exact wpAny_truthy_bool ⟨kk, hp⟩
  | any l ih =>
    refine .mk' (by simp) (by simp) (fun ex hc A s ρ P hA S h => ?_) fun ex hc A s ρ P hA S h => ?_
    · obtain ⟨es, p, rfl, h1⟩ := inv_any hc
      simp only [wp0] at h
      exact ih.orV es p h1 A s ρ P hA S h
    · obtain ⟨es, p, rfl, h1⟩ := inv_any hc
      simp only [wp0] at h
      exact ih.orT es p _ h1 A s ρ P hA S h
  | ite c x y ihc ihx ihy =>
    refine .mk' (by simp) (by simp) (fun ex hc A s ρ P hA S h => ?_) fun ex hc A s ρ P hA S h => ?_
    · obtain ⟨t, u, v, p, rfl, h1, h2, h3⟩ := inv_ite hc
      simp only [wp0] at h
      refine IfExp_ (wpAny_mono (ihc.tst t h1 A s ρ (fun t => if t = true then wp0 Γ x ρ P else wp0 Γ y ρ P) hA S h) (fun c s' h' => ?_) fun _ _ x => x)
      obtain ⟨k, hp⟩ := h'
      cases c with
      | true => simp only [if_true] at hp ⊢; exact wpAny_mono (ihx.val u h2 A s' ρ _ hA (S.keeps k) hp) (fun _ _ x => ⟨kTrans k x.1, x.2⟩) fun _ _ x => x
      | false => simp only [Bool.false_eq_true, if_false] at hp ⊢; exact wpAny_mono (ihy.val v h3 A s' ρ _ hA (S.keeps k) hp) (fun _ _ x => ⟨kTrans k x.1, x.2⟩) fun _ _ x => x
    · obtain ⟨t, u, v, p, rfl, h1, h2, h3⟩ := inv_ite hc
      simp only [wp0] at h
      refine isTrue_IfExp (wpAny_mono (ihc.tst t h1 A s ρ (fun t => if t = true then wp0 Γ x ρ (fun d => ∃ b, truth d = some b ∧ P b) else wp0 Γ y ρ (fun d => ∃ b, truth d = some b ∧ P b)) hA S h) (fun c s' h' => ?_) fun _ _ x => x)
      obtain ⟨k, hp⟩ := h'
      cases c with
      | true => simp only [if_true] at hp ⊢; exact wpAny_mono (ihx.tst u h2 A s' ρ _ hA (S.keeps k) hp) (fun _ _ x => ⟨kTrans k x.1, x.2⟩) fun _ _ x => x
      | false => simp only [Bool.false_eq_true, if_false] at hp ⊢; exact wpAny_mono (ihy.tst v h3 A s' ρ _ hA (S.keeps k) hp) (fun _ _ x => ⟨kTrans k x.1, x.2⟩) fun _ _ x => x
  | call f l ih =>
    refine .mkP (by simp) (by simp) (fun ex hc t => by obtain ⟨_, _, _, _, rfl, _⟩ := inv_call hc; rfl) fun ex hc A s ρ P hA S h => ?_
    obtain ⟨q, e, es, p, rfl, hfn, hg, h1⟩ := inv_call hc
    simp only [wp0] at h
    have hgl := hg
    simp only [glb, Bool.and_eq_true, beq_iff_eq, bne_iff_ne, ne_eq] at hg
    have ne := cons_of h1
    obtain ⟨x, r, rfl⟩ := ne
    obtain ⟨e', es', e1, hs, _, _⟩ := inv_cons h1
    cases e1
    -- the def's name: its value is told by the call's own fact
    have key := ih.lst (e :: es) p h1 A s ρ _ hA S h
    obtain ⟨ad, o, fd, hm, ho, hd⟩ := C.W.fn f (by simpa using hfn)
    refine Call_ (gl_name C S hm hgl ?_)
    refine callWith_def hd (wpAny_mono key (fun vs s' h' => ?_) fun _ _ x => x) (starEach_cons hs)
    obtain ⟨k, ds, rs, r, hr, hp⟩ := h'
    have kb : Kp hB s'.heap := (fr_of C S).trans (kAll k)
    refine ⟨kb _ _ ho, ?_⟩
    obtain ⟨ad', o', fd', hm', ho', hd', go⟩ := C.G f ds r hfn hr
    rw [hm] at hm'; cases hm'
    exact wpAny_mono (go A s' vs hA kb rs) (fun v s'' h'' => ⟨kTrans k h''.1, _, h''.2, hp⟩) fun _ _ x => x
  | bi f l ih =>
    refine .mkP (by simp) (by simp) (fun ex hc t => by obtain ⟨_, _, _, _, _, rfl, _⟩ := inv_bi hc; rfl) fun ex hc A s ρ P hA S h => ?_
    obtain ⟨g, q, e, es, p, rfl, hf, hpl, hg, hgl, h1⟩ := inv_bi hc
    simp only [wp0] at h
    refine Call_ (bi_name C S hf hpl hg hgl ?_)
    have ne := cons_of h1
    obtain ⟨x, r, rfl⟩ := ne
    obtain ⟨e', es', e1, hs, _, _⟩ := inv_cons h1
    cases e1
    have key := ih.lst (e :: es) p h1 A s ρ _ hA S h
    refine callB hs (chkEs_stars h1) (val_cases f hpl) (wpAny_mono key (fun vs s' h' => ?_) fun _ _ x => x)
    obtain ⟨k, ds, rs, hp⟩ := h'
    exact wpAny_mono (bi_ok hA.1 rs hp) (fun _ _ x => ⟨kTrans k x.1, x.2⟩) fun _ _ x => x
  | isI x ih =>
    refine .mkP (by simp) (by simp) (fun ex hc t => by obtain ⟨_, _, _, _, _, _, rfl, _⟩ := inv_isI hc; rfl) fun ex hc A s ρ P hA S h => ?_
    obtain ⟨g, q, e, t, q2, p, rfl, hu1, hu2, hg, ht, hgl, htl, hs, h1⟩ := inv_isI hc
    simp only [wp0] at h
    refine Call_ (bi_name C S hu1 rfl hg hgl ?_)
    refine callB hs rfl (Or.inl ⟨_, rfl⟩) (args_cons (wpAny_mono (ih.val e h1 A s ρ _ hA S h) (fun v s' h' => ?_) fun _ _ x => x) (starEach_cons hs))
    obtain ⟨k, d, rv, hp⟩ := h'
    refine args_cons (bi_name C (S.keeps k) hu2 rfl ht htl (args_nil ?_))
    exact wpAny_mono (isinst_ok rv hp) (fun _ _ x => ⟨kTrans k x.1, x.2⟩) fun _ _ x => x
  | isB x ih =>
    refine .mkP (by simp) (by simp) (fun ex hc t => by obtain ⟨_, _, _, _, _, _, rfl, _⟩ := inv_isB hc; rfl) fun ex hc A s ρ P hA S h => ?_
    obtain ⟨g, q, e, t, q2, p, rfl, hu1, hu2, hg, ht, hgl, htl, hs, h1⟩ := inv_isB hc
    simp only [wp0] at h
    refine Call_ (bi_name C S hu1 rfl hg hgl ?_)
    refine callB hs rfl (Or.inl ⟨_, rfl⟩) (args_cons (wpAny_mono (ih.val e h1 A s ρ _ hA S h) (fun v s' h' => ?_) fun _ _ x => x) (starEach_cons hs))
    obtain ⟨k, d, rv, hp⟩ := h'
    refine args_cons (bi_name C (S.keeps k) hu2 rfl ht htl (args_nil ?_))
    exact wpAny_mono (isinstB_ok rv hp) (fun _ _ x => ⟨kTrans k x.1, x.2⟩) fun _ _ x => x
  | nil =>
    refine ⟨fun ex hc => by simp [chkE] at hc, fun ex hc => by simp [chkE] at hc, ?_, ?_, ?_, ?_, ?_⟩
    · intro es pos hc A s ρ P hA S h
      obtain rfl := inv_nil hc
      simp only [wpL0] at h
      exact args_nil ⟨kRefl s, [], RVs.nil, h⟩
    · intro es pos hc A s ρ P hA S h; exact h.elim
    · intro es pos hc A s ρ P hA S h; exact h.elim
    · intro es pos whole hc A s ρ P hA S h; exact h.elim
    · intro es pos whole hc A s ρ P hA S h; exact h.elim
  | cons x r ihx ihr =>
    refine ⟨fun ex hc => by simp [chkE] at hc, fun ex hc => by simp [chkE] at hc, ?_, ?_, ?_, ?_, ?_⟩
    · intro es pos hc A s ρ P hA S h
      exact args_ok ihx ihr hc hA S h
    · intro es pos hc A s ρ P hA S h
      obtain ⟨e, es, rfl, hs, h1, h2⟩ := inv_cons hc
      by_cases hr : r = .nil
      · subst hr
        obtain rfl := inv_nil h2
        rw [wpAnd_one] at h
        exact BoolOp_one (ihx.val e h1 A s ρ P hA S h)
      · obtain ⟨e2, es2, rfl⟩ : ∃ e2 es2, es = e2 :: es2 := by
          cases es with
          | nil => exact absurd (nil_of h2) hr
          | cons e2 es2 => exact ⟨_, _, rfl⟩
        rw [wpAnd_more hr] at h
        refine BoolOp_and (wpAny_mono (ihx.val e h1 A s ρ _ hA S h) (fun v s' h' => ?_) fun _ _ x => x)
        obtain ⟨k, d, rv, b, hb, hp⟩ := h'
        refine wpAny_mono (truthy_ok rv hb) (fun c s₂ h₂ => ?_) fun _ _ x => x
        obtain ⟨k2, rfl⟩ := h₂
        cases c with
        | true => simp only [if_true] at hp ⊢; exact wpAny_mono (ihr.andV _ pos h2 A s₂ ρ P hA ((S.keeps k).keeps k2) hp) (fun _ _ x => ⟨kTrans k (kTrans k2 x.1), x.2⟩) fun _ _ x => x
        | false => simp only [Bool.false_eq_true, if_false] at hp ⊢; exact ⟨kTrans k k2, d, rv.keep (kSeq k2), hp⟩
    · intro es pos hc A s ρ P hA S h
      obtain ⟨e, es, rfl, hs, h1, h2⟩ := inv_cons hc
      by_cases hr : r = .nil
      · subst hr
        obtain rfl := inv_nil h2
        rw [wpOr_one] at h
        exact BoolOp_one (ihx.val e h1 A s ρ P hA S h)
      · obtain ⟨e2, es2, rfl⟩ : ∃ e2 es2, es = e2 :: es2 := by
          cases es with
          | nil => exact absurd (nil_of h2) hr
          | cons e2 es2 => exact ⟨_, _, rfl⟩
        rw [wpOr_more hr] at h
        refine BoolOp_or (wpAny_mono (ihx.val e h1 A s ρ _ hA S h) (fun v s' h' => ?_) fun _ _ x => x)
        obtain ⟨k, d, rv, b, hb, hp⟩ := h'
        refine wpAny_mono (truthy_ok rv hb) (fun c s₂ h₂ => ?_) fun _ _ x => x
        obtain ⟨k2, rfl⟩ := h₂
        cases c with
        | false => simp only [Bool.false_eq_true, if_false] at hp ⊢; exact wpAny_mono (ihr.orV _ pos h2 A s₂ ρ P hA ((S.keeps k).keeps k2) hp) (fun _ _ x => ⟨kTrans k (kTrans k2 x.1), x.2⟩) fun _ _ x => x
        | true => simp only [if_true] at hp ⊢; exact ⟨kTrans k k2, d, rv.keep (kSeq k2), hp⟩
    · intro es pos whole hc A s ρ P hA S h
      obtain ⟨e, es, rfl, hs, h1, h2⟩ := inv_cons hc
      by_cases hr : r = .nil
      · subst hr
        obtain rfl := inv_nil h2
        rw [wpAnd_one] at h
        refine isTrue_and (wpAny_mono (ihx.tst e h1 A s ρ P hA S h) (fun c s' h' => ?_) fun _ _ x => x)
        cases c with
        | true => simp only [if_true]; exact isTrue_and_nil h'
        | false => simp only [Bool.false_eq_true, if_false]; exact h'
      · rw [wpAnd_more hr] at h
        refine isTrue_and (wpAny_mono (ihx.tst e h1 A s ρ (fun b => if b = true then wpAnd0 Γ r ρ (fun d => ∃ b, truth d = some b ∧ P b) else P false) hA S ?_) (fun c s' h' => ?_) fun _ _ x => x)
        · refine wp_mono h fun d hd => ?_
          obtain ⟨b, hb, hp⟩ := hd
          refine ⟨b, hb, ?_⟩
          cases b with
          | true => simpa using hp
          | false =>
            simp only [Bool.false_eq_true, if_false] at hp ⊢
            obtain ⟨b', hb', hp'⟩ := hp
            rw [hb] at hb'; cases hb'; exact hp'
        · obtain ⟨k, hp⟩ := h'
          cases c with
          | true => simp only [if_true] at hp ⊢; exact wpAny_mono (ihr.andT _ pos whole h2 A s' ρ P hA (S.keeps k) hp) (fun _ _ x => ⟨kTrans k x.1, x.2⟩) fun _ _ x => x
          | false => simp only [Bool.false_eq_true, if_false] at hp ⊢; exact ⟨k, hp⟩
    · intro es pos whole hc A s ρ P hA S h
      obtain ⟨e, es, rfl, hs, h1, h2⟩ := inv_cons hc
      by_cases hr : r = .nil
      · subst hr
        obtain rfl := inv_nil h2
        rw [wpOr_one] at h
        refine isTrue_or (wpAny_mono (ihx.tst e h1 A s ρ P hA S h) (fun c s' h' => ?_) fun _ _ x => x)
        cases c with
        | false => simp only [Bool.false_eq_true, if_false]; exact isTrue_or_nil h'
        | true => simp only [if_true]; exact h'
      · rw [wpOr_more hr] at h
        refine isTrue_or (wpAny_mono (ihx.tst e h1 A s ρ (fun b => if b = true then P true else wpOr0 Γ r ρ (fun d => ∃ b, truth d = some b ∧ P b)) hA S ?_) (fun c s' h' => ?_) fun _ _ x => x)
        · refine wp_mono h fun d hd => ?_
          obtain ⟨b, hb, hp⟩ := hd
          refine ⟨b, hb, ?_⟩
          cases b with
          | false => simpa using hp
          | true =>
            simp only [if_true] at hp ⊢
            obtain ⟨b', hb', hp'⟩ := hp
            rw [hb] at hb'; cases hb'; exact hp'
        · obtain ⟨k, hp⟩ := h'
          cases c with
          | false => simp only [Bool.false_eq_true, if_false] at hp ⊢; exact wpAny_mono (ihr.orT _ pos whole h2 A s' ρ P hA (S.keeps k) hp) (fun _ _ x => ⟨kTrans k x.1, x.2⟩) fun _ _ x => x
          | true => simp only [if_true] at hp ⊢; exact ⟨k, hp⟩
  | lst l ih =>
    refine .mkP (by simp) (by simp) (fun ex hc t => by obtain ⟨_, _, rfl, _⟩ := inv_lst hc; rfl) fun ex hc A s ρ P hA S h => ?_
    obtain ⟨es, p, rfl, h1⟩ := inv_lst hc
    simp only [wp0] at h
    refine List_ (wpAny_mono (ih.lst es p h1 A s ρ _ hA S h) (fun vs s' h' => ?_) fun _ _ x => x)
    obtain ⟨k, ds, rs, hz, hp⟩ := h'
    refine wpAny_newObj_type ⟨kTrans k (push_keeps _), _, new_list rs rfl, hp⟩ ?_
    show vs.toArray.size ≤ sizeLine
    rw [List.size_toArray, rs.1]; exact size_le hz
  | tup l ih =>
    refine .mkP (by simp) (by simp) (fun ex hc t => by obtain ⟨_, _, _, rfl, _⟩ := inv_tup hc; rfl) fun ex hc A s ρ P hA S h => ?_
    obtain ⟨es, kk, p, rfl, h1⟩ := inv_tup hc
    simp only [wp0] at h
    refine Tuple_ (wpAny_mono (ih.lst es p h1 A s ρ _ hA S h) (fun vs s' h' => ?_) fun _ _ x => x)
    obtain ⟨k, ds, rs, hz, hp⟩ := h'
    refine wpAny_newObj_type ⟨kTrans k (push_keeps _), _, new_tup rs rfl, hp⟩ ?_
    show vs.toArray.size ≤ sizeLine
    rw [List.size_toArray, rs.1]; exact size_le hz
  | idx x y ihx ihy =>
    refine .mkP (by simp) (by simp) (fun ex hc t => by obtain ⟨_, _, _, rfl, _⟩ := inv_idx hc; rfl) fun ex hc A s ρ P hA S h => ?_
    obtain ⟨v, ix, p, rfl, hs, h1, h2⟩ := inv_idx hc
    simp only [wp0] at h
    refine Subscript_ (wpAny_mono (ihx.val v h1 A s ρ _ hA S h) (fun o s' h' => ?_) fun _ _ x => x)
    obtain ⟨k, d, rv, hp⟩ := h'
    refine wpAny_mono (ihy.val ix h2 A s' ρ _ hA (S.keeps k) hp) (fun u s'' h'' => ?_) fun _ _ x => x
    obtain ⟨k2, d2, ru, hp2⟩ := h''
    exact wpAny_mono (idx_ok hs (rv.keep (kSeq k2)) ru hp2) (fun _ _ x => ⟨kTrans k (kTrans k2 x.1), x.2⟩) fun _ _ x => x
  | slc x lo hi ihx ihl ihh =>
    refine .mkP (by simp) (by simp) (fun ex hc t => by obtain ⟨_, _, _, _, _, rfl, _⟩ := inv_slc hc; rfl) fun ex hc A s ρ P hA S h => ?_
    obtain ⟨v, l, u, q, p, rfl, h1, h2, h3⟩ := inv_slc hc
    simp only [wp0] at h
    refine Subscript_ (wpAny_mono (ihx.val v h1 A s ρ _ hA S h) (fun o s' h' => ?_) fun _ _ x => x)
    obtain ⟨k, d, rv, hp⟩ := h'
    refine wpAny_Slice (wpAny_mono (part_ok ihl h2 hA (S.keeps k) hp) (fun vl s₂ h₂ => ?_) fun _ _ x => x)
    obtain ⟨k2, i, pi, hp2⟩ := h₂
    refine wpAny_mono (part_ok ihh h3 hA ((S.keeps k).keeps k2) hp2) (fun vu s₃ h₃ => ?_) fun _ _ x => x
    obtain ⟨k3, j, pj, hp3⟩ := h₃
    obtain ⟨ds, rfl, hp3⟩ := lP_inv hp3
    obtain ⟨ad, vs, rfl, hl, hv⟩ := rv.inv_list
    have kk : Keeps s' { s₃ with heap := s₃.heap.push { cls := .type "slice", data := .fields #[vl, vu, .none] } } := kTrans (kTrans k2 k3) (push_keeps _)
    refine wpAny_evalPart_none ?_
    have hl' : Heap.IsList (s₃.heap.push { cls := .type "slice", data := .fields #[vl, vu, .none] }) ad vs.toArray := by
      obtain ⟨o, ho, hc, n, hd⟩ := hl
      exact ⟨o, kAll kk _ _ ho, hc, n, hd⟩
    exact wpAny_mono (slc_ok (s := { s₃ with heap := s₃.heap.push { cls := .type "slice", data := .fields #[vl, vu, .none] } }) hl' (hv.keep (kSeq kk)) (Heap.IsSliceOf.new ..) pi pj hp3.1 hp3.2) (fun _ _ x => ⟨kTrans k (kTrans kk x.1), x.2⟩) fun _ _ x => x
end sound


/-- statements; each block is a row of them -/
inductive S where
  | nil
  | rais
  | opq (x : Str) (r : S)
  | ret (e : E)
  | set (i : Nat) (e : E) (r : S)
  | set2 (i j : Nat) (e : E) (r : S)
  | aug (i : Nat) (op : Operator) (e : E) (r : S)
  | ite (c : E) (t e r : S)
  | whl (c : E) (b r : S)
  | forR (i : Nat) (l : E) (b r : S)
  | forL (i : Nat) (e : E) (b r : S)

@[simp] noncomputable def onN (k : List D → Prop) (Q : Option D → List D → Prop) : Option D → List D → Prop
  | none, ρ => k ρ
  | some d, ρ => Q (some d) ρ
@[simp] noncomputable def l3 (k : D → D → D → Prop) : List D → Prop
  | [] => False
  | x :: r => l2 (k x) r
@[simp] noncomputable def tP (P : List D → Prop) : D → Prop
  | .tup l => P l
  | _ => False
@[simp] noncomputable def t2P (P : D → D → Prop) (d : D) : Prop := tP (l2 P) d
@[simp] noncomputable def t3P (P : D → D → D → Prop) (d : D) : Prop := tP (l3 P) d
@[simp] noncomputable def rngP (P : Int → Int → Int → Prop) (ds : List D) : Prop :=
  if ds.length = 1 then l1 (intP fun z => P 0 z 1) ds else if ds.length = 2 then l2 (fun x y => ii x y fun a z => P a z 1) ds else l3 (fun x y u => ii x y fun a z => intP (fun c => P a z c) u) ds
@[simp] noncomputable def augW (op : Operator) (x y : D) (P : D → Prop) : Prop :=
  match op with
  | .Add => ii x y fun a b => P (.int (a + b))
  | .Sub => ii x y fun a b => P (.int (a - b))
  | .Mult => ii x y fun a b => IntMulOk a b ∧ P (.int (a * b))
  | .FloorDiv => ii x y fun a b => b ≠ 0 ∧ b.natAbs.log2 < 9000 ∧ P (.int (a.fdiv b))
  | _ => False
noncomputable def cnt (a z c : Int) : Nat := (Builtin.Range.rangeSize a z c).toNat

section
variable (Γ : Str → List D → D → Prop)
noncomputable def wpS0 : S → List D → (Option D → List D → Prop) → Prop
  | .nil, ρ, Q => Q none ρ
  | .rais, _, _ => False
  | .opq x r, ρ, Q => ∃ ρ', Γ x ρ (.list ρ') ∧ wpS0 r ρ' Q
  | .ret e, ρ, Q => wp0 Γ e ρ fun d => Q (some d) ρ
  | .set i e r, ρ, Q => wp0 Γ e ρ fun d => wpS0 r (ρ.set i d) Q
  | .set2 i j e r, ρ, Q => wp0 Γ e ρ (t2P fun x y => wpS0 r ((ρ.set i x).set j y) Q)
  | .aug i op e r, ρ, Q => get ρ i ≠ .undef ∧ wp0 Γ e ρ fun d => augW op (get ρ i) d fun x => wpS0 r (ρ.set i x) Q
  | .ite c t e r, ρ, Q => wp0 Γ c ρ fun d => ∃ b, truth d = some b ∧ if b = true then wpS0 t ρ (onN (fun ρ' => wpS0 r ρ' Q) Q) else wpS0 e ρ (onN (fun ρ' => wpS0 r ρ' Q) Q)
  | .whl c b r, ρ, Q => ∃ (I : Nat → List D → Prop) (n₀ : Nat), I n₀ ρ ∧ ∀ n ρ', I n ρ' →
      wp0 Γ c ρ' fun d => ∃ t, truth d = some t ∧ if t = true then wpS0 b ρ' (onN (fun ρ'' => ∃ m, m < n ∧ I m ρ'') Q) else wpS0 r ρ' Q
  | .forR i l b r, ρ, Q => wpL0 Γ l ρ (rngP fun a z c => c ≠ 0 ∧ c.natAbs < 2 ^ 30 ∧ Builtin.Range.small a z c = true ∧ ∃ I : Nat → List D → Prop, I 0 ρ ∧
      (∀ k ρ', k < cnt a z c → I k ρ' → wpS0 b (ρ'.set i (.int (a + k * c))) (onN (fun ρ'' => I (k + 1) ρ'') Q)) ∧ ∀ ρ', I (cnt a z c) ρ' → wpS0 r ρ' Q)
  | .forL i e b r, ρ, Q => wp0 Γ e ρ (lP fun ds => ∃ I : Nat → List D → Prop, I 0 ρ ∧
      (∀ (k : Nat) x ρ', ds[k]? = some x → I k ρ' → wpS0 b (ρ'.set i x) (onN (fun ρ'' => I (k + 1) ρ'') Q)) ∧ ∀ ρ', I ds.length ρ' → wpS0 r ρ' Q)
end

noncomputable def isStar : Expr → Bool
  | .Starred .. => true
  | _ => false
noncomputable def swNames (sc : Scope) (ts : List Expr) : List Str :=
  ts.filterMap fun
    | .Name id pos => if sc.names.lookup id == some .local && pos.line == (ts.head?.map (·.pos.line)).getD 0 then some id else none
    | _ => none
noncomputable def sw (sc : Scope) (ts : List Expr) : Expr → Option Bool
  | .Tuple vs _ _ =>
    if !(ts.length == 2 || ts.length == 3) || vs.length != ts.length then some false
    else if vs.any isStar then some false
    else if (swNames sc ts).length != ts.length || (swNames sc ts).eraseDups.length != (swNames sc ts).length then some false
    else if vs.all (foldedForSure 8) then some false
    else if vs.all (constantsAlone 8) then none
    else some true
  | _ => some false

theorem isStar_eq : (fun e : Expr => match e with | .Starred .. => true | _ => false) = isStar := by
  funext e; cases e <;> rfl
theorem sw_pure {sc : Scope} {ts : List Expr} {v : Expr} {name : Str} {L : Addr} {a : Option Addr × Option Addr} {cd : Value} {cs : List (Str × Addr)} {k : Nat} {p : Pos} {b : Bool} (hk : sc.kind = .function) (h : sw sc ts v = some b) :
    swappedStores [.Tuple ts k p] v (eOf name sc L a cd cs) = pure (if b = true then some (swNames sc ts) else none) := by
  have hbk : ((eOf name sc L a cd cs).blockKind != .function) = false := by
    unfold Env.blockKind
    show ((if sc.kind.isAnnotationScope = true then ScopeKind.function else sc.kind) != .function) = false
    rw [hk]; rfl
  cases v <;> first
    | (simp only [sw, Option.some.injEq] at h; subst h; rfl)
    | skip
  rename_i vs k2 p2
  have e : swappedStores [.Tuple ts k p] (.Tuple vs k2 p2) (eOf name sc L a cd cs) =
      (if (!(ts.length == 2 || ts.length == 3) || vs.length != ts.length || (eOf name sc L a cd cs).blockKind != .function) = true then pure none else
        if (vs.any fun e => match e with | .Starred .. => true | _ => false) = true then pure none else
        if ((swNames sc ts).length != ts.length || (swNames sc ts).eraseDups.length != (swNames sc ts).length) = true then pure none else
        if vs.all (foldedForSure 8) = true then pure none else
        if vs.all (constantsAlone 8) = true then (do unsupported "assign.tuple-of-constant-expressions:order-of-the-stores"; pure (some (swNames sc ts))) else pure (some (swNames sc ts))) := by
    rfl
  rw [e, hbk, Bool.or_false, isStar_eq]
  simp only [sw] at h
  split at h
  · rename_i c; rw [if_pos c]; cases h; rfl
  rename_i c; rw [if_neg c]
  split at h
  · rename_i c; rw [if_pos c]; cases h; rfl
  rename_i c; rw [if_neg c]
  split at h
  · rename_i c; rw [if_pos c]; cases h; rfl
  rename_i c; rw [if_neg c]
  split at h
  · rename_i c; rw [if_pos c]; cases h; rfl
  rename_i c; rw [if_neg c]
  split at h
  · cases h
  · rename_i c; rw [if_neg c]; cases h; rfl

section
variable (us : Us) (N : List Str) (sc : Scope)
noncomputable def noComp : Expr → Bool
  | .ListComp .. | .SetComp .. | .DictComp .. => false
  | _ => true
noncomputable def notSet : Expr → Bool
  | .Set .. => false
  | _ => true
/-! what a statement is made of -/
noncomputable def dsAsg : Stmt → Option (List Expr × Expr)
  | .Assign ts v _ => some (ts, v)
  | _ => none
noncomputable def dsAug : Stmt → Option (Expr × Operator × Expr)
  | .AugAssign t o v _ => some (t, o, v)
  | _ => none
noncomputable def dsIfS : Stmt → Option (Expr × List Stmt × List Stmt)
  | .If t b o _ => some (t, b, o)
  | _ => none
noncomputable def dsWh : Stmt → Option (Expr × List Stmt × List Stmt)
  | .While t b o _ => some (t, b, o)
  | _ => none
noncomputable def dsFor : Stmt → Option (Expr × Expr × List Stmt × List Stmt)
  | .For t i b o _ => some (t, i, b, o)
  | _ => none
noncomputable def dsRet : Stmt → Option (Option Expr)
  | .Return e _ => some e
  | _ => none
noncomputable def isRaise : Stmt → Bool
  | .Raise .. => true
  | _ => false
noncomputable def dsAsg1 (st : Stmt) : Option (Expr × Expr) := (dsAsg st).bind fun t => if t.1.length == 1 then t.1.head?.map fun x => (x, t.2) else none
noncomputable def chkS : S → List Stmt → Bool
  | .nil, l => l.isEmpty
  | .rais, l => l.head?.any isRaise
  | .opq x r, l => l.head?.any (fun st => us.s x st) && chkS r l.tail
  | .ret e, l => l.head?.any fun st => (dsRet st).any fun o => o.any fun x => chkE us N sc e x
  | .set i e r, l => l.head?.any fun st => (dsAsg1 st).any fun t => (dsN t.1).any (fun x => N[i]? == some x) && noComp t.2 && chkE us N sc e t.2 && chkS r l.tail
  | .set2 i j e r, l => l.head?.any fun st => (dsAsg1 st).any fun t => (dsTup t.1).any fun es => es.length == 2 && es.head?.any fun a => es.tail.head?.any fun b => (dsN a).any fun x => (dsN b).any fun y =>
    i != j && N[i]? == some x && N[j]? == some y && noComp t.2 && (sw sc es t.2).isSome && swNames sc es == [x, y] && chkE us N sc e t.2 && chkS r l.tail
  | .aug i op e r, l => l.head?.any fun st => (dsAug st).any fun t => (dsN t.1).any (fun x => N[i]? == some x) && op == t.2.1 && chkE us N sc e t.2.2 && chkS r l.tail
  | .ite c t e r, l => l.head?.any fun st => (dsIfS st).any fun u => chkE us N sc c u.1 && chkS t u.2.1 && chkS e u.2.2 && chkS r l.tail
  | .whl c b r, l => l.head?.any fun st => (dsWh st).any fun u => chkE us N sc c u.1 && chkS b u.2.1 && u.2.2.isEmpty && chkS r l.tail
  | .forR i l b r, ls => ls.head?.any fun st => (dsFor st).any fun u => (dsN u.1).any (fun x => N[i]? == some x) && us.l.contains .range && u.2.2.2.isEmpty && (dsCallN sc u.2.1).any (fun t => B.range.name == t.1 && chkEs us N sc l t.2) && chkS b u.2.2.1 && chkS r ls.tail
  | .forL i e b r, ls => ls.head?.any fun st => (dsFor st).any fun u => (dsN u.1).any (fun x => N[i]? == some x) && notSet u.2.1 && u.2.2.2.isEmpty && chkE us N sc e u.2.1 && chkS b u.2.2.1 && chkS r ls.tail
end

section inv
variable {us : Us} {N : List Str} {sc : Scope} {st : Stmt}
theorem iAsg {t : List Expr × Expr} (h : dsAsg st = some t) : ∃ p, st = .Assign t.1 t.2 p := by cases st <;> first | (cases h; exact ⟨_, rfl⟩) | cases h
theorem iAug {t : Expr × Operator × Expr} (h : dsAug st = some t) : ∃ p, st = .AugAssign t.1 t.2.1 t.2.2 p := by cases st <;> first | (cases h; exact ⟨_, rfl⟩) | cases h
theorem iIfS {t : Expr × List Stmt × List Stmt} (h : dsIfS st = some t) : ∃ p, st = .If t.1 t.2.1 t.2.2 p := by cases st <;> first | (cases h; exact ⟨_, rfl⟩) | cases h
theorem iWh {t : Expr × List Stmt × List Stmt} (h : dsWh st = some t) : ∃ p, st = .While t.1 t.2.1 t.2.2 p := by cases st <;> first | (cases h; exact ⟨_, rfl⟩) | cases h
theorem iFor {t : Expr × Expr × List Stmt × List Stmt} (h : dsFor st = some t) : ∃ p, st = .For t.1 t.2.1 t.2.2.1 t.2.2.2 p := by cases st <;> first | (cases h; exact ⟨_, rfl⟩) | cases h
theorem iRet {t : Option Expr} (h : dsRet st = some t) : ∃ p, st = .Return t p := by cases st <;> first | (cases h; exact ⟨_, rfl⟩) | cases h
theorem iAsg1 {t : Expr × Expr} (h : dsAsg1 st = some t) : ∃ p, st = .Assign [t.1] t.2 p := by
  unfold dsAsg1 at h
  obtain ⟨u, hu, h1⟩ := Option.bind_eq_some_iff.mp h
  obtain ⟨p, rfl⟩ := iAsg hu
  split at h1
  · rename_i hl
    obtain ⟨x, hx, rfl⟩ := Option.map_eq_some_iff.mp h1
    rw [one_of hx (by simpa using hl)]
    exact ⟨p, rfl⟩
  · cases h1
theorem inv_Nil {l : List Stmt} (h : chkS us N sc .nil l = true) : l = [] := by simpa [chkS] using h
theorem inv_ret {e : E} {l : List Stmt} (h : chkS us N sc (.ret e) l = true) : ∃ x p rest, l = .Return (some x) p :: rest ∧ chkE us N sc e x = true := by
  simp only [chkS, Option.any_eq_true] at h
  obtain ⟨st, hs, o, ho, x, rfl, h⟩ := h
  obtain ⟨p, rfl⟩ := iRet ho
  exact ⟨x, p, l.tail, head_cons hs, h⟩
theorem inv_set {i : Nat} {e : E} {r : S} {l : List Stmt} (h : chkS us N sc (.set i e r) l = true) : ∃ x q v p rest, l = .Assign [.Name x q] v p :: rest ∧ N[i]? = some x ∧ noComp v = true ∧ chkE us N sc e v = true ∧ chkS us N sc r rest = true := by
  simp only [chkS, Option.any_eq_true, Bool.and_eq_true, beq_iff_eq] at h
  obtain ⟨st, hs, t, ht, ⟨⟨⟨x, hx, h1⟩, h2⟩, h3⟩, h4⟩ := h
  obtain ⟨p, rfl⟩ := iAsg1 ht
  obtain ⟨a, v⟩ := t
  obtain ⟨q, rfl⟩ := iN hx
  exact ⟨x, q, v, p, l.tail, head_cons hs, h1, h2, h3, h4⟩
theorem inv_set2 {i j : Nat} {e : E} {r : S} {l : List Stmt} (h : chkS us N sc (.set2 i j e r) l = true) : ∃ x p y q k tp v pos rest, l = .Assign [.Tuple [.Name x p, .Name y q] k tp] v pos :: rest ∧ i ≠ j ∧ N[i]? = some x ∧ N[j]? = some y ∧ noComp v = true ∧
    (sw sc [.Name x p, .Name y q] v).isSome = true ∧ swNames sc [.Name x p, .Name y q] = [x, y] ∧ chkE us N sc e v = true ∧ chkS us N sc r rest = true := by
  simp only [chkS, Option.any_eq_true, Bool.and_eq_true, beq_iff_eq, bne_iff_ne, ne_eq] at h
  obtain ⟨st, hs, ⟨tg, v⟩, ht, es, hes, hl, a, ha, b, hb, x, hx, y, hy, ⟨⟨⟨⟨⟨⟨h0, h1⟩, h2⟩, h3⟩, h4⟩, h5⟩, h6⟩, h7⟩ := h
  obtain ⟨pos, rfl⟩ := iAsg1 ht
  obtain ⟨k, tp, rfl⟩ := iTup hes
  have e1 := two_of ha hb hl
  subst e1
  obtain ⟨p, rfl⟩ := iN hx
  obtain ⟨q, rfl⟩ := iN hy
  exact ⟨x, p, y, q, k, tp, v, pos, l.tail, head_cons hs, h0, h1, h2, h3, h4, h5, h6, h7⟩
theorem inv_aug {i : Nat} {op : Operator} {e : E} {r : S} {l : List Stmt} (h : chkS us N sc (.aug i op e r) l = true) : ∃ x q v p rest, l = .AugAssign (.Name x q) op v p :: rest ∧ N[i]? = some x ∧ chkE us N sc e v = true ∧ chkS us N sc r rest = true := by
  simp only [chkS, Option.any_eq_true, Bool.and_eq_true, beq_iff_eq] at h
  obtain ⟨st, hs, ⟨a, o, v⟩, ht, ⟨⟨⟨x, hx, h1⟩, h2⟩, h3⟩, h4⟩ := h
  obtain ⟨p, rfl⟩ := iAug ht
  dsimp only at hx h2 h3
  subst h2
  obtain ⟨q, rfl⟩ := iN hx
  exact ⟨x, q, v, p, l.tail, head_cons hs, h1, h3, h4⟩
theorem inv_iteS {c : E} {t e r : S} {l : List Stmt} (h : chkS us N sc (.ite c t e r) l = true) : ∃ x b o p rest, l = .If x b o p :: rest ∧ chkE us N sc c x = true ∧ chkS us N sc t b = true ∧ chkS us N sc e o = true ∧ chkS us N sc r rest = true := by
  simp only [chkS, Option.any_eq_true, Bool.and_eq_true] at h
  obtain ⟨st, hs, u, hu, ⟨⟨h1, h2⟩, h3⟩, h4⟩ := h
  obtain ⟨p, rfl⟩ := iIfS hu
  exact ⟨_, _, _, p, l.tail, head_cons hs, h1, h2, h3, h4⟩
theorem inv_whl {c : E} {b r : S} {l : List Stmt} (h : chkS us N sc (.whl c b r) l = true) : ∃ x body p rest, l = .While x body [] p :: rest ∧ chkE us N sc c x = true ∧ chkS us N sc b body = true ∧ chkS us N sc r rest = true := by
  simp only [chkS, Option.any_eq_true, Bool.and_eq_true, List.isEmpty_iff] at h
  obtain ⟨st, hs, ⟨x, b, o⟩, hu, ⟨⟨h1, h2⟩, h3⟩, h4⟩ := h
  obtain ⟨p, rfl⟩ := iWh hu
  dsimp only at h3; subst h3
  exact ⟨_, _, p, l.tail, head_cons hs, h1, h2, h4⟩
theorem inv_forR {i : Nat} {l : E} {b r : S} {ls : List Stmt} (h : chkS us N sc (.forR i l b r) ls = true) : ∃ x q g gq e es cp body p rest, ls = .For (.Name x q) (.Call (.Name g gq) (e :: es) [] cp) body [] p :: rest ∧ N[i]? = some x ∧ us.l.contains .range = true ∧ (B.range.name == g) = true ∧ glb sc g = true ∧
    chkEs us N sc l (e :: es) = true ∧ chkS us N sc b body = true ∧ chkS us N sc r rest = true := by
  simp only [chkS, Option.any_eq_true, Bool.and_eq_true, List.isEmpty_iff] at h
  obtain ⟨st, hs, ⟨tg, it, body, o⟩, hu, ⟨⟨⟨⟨⟨x, hx, h1⟩, h2⟩, h3⟩, t, ht, h4, h5⟩, h6⟩, h7⟩ := h
  obtain ⟨p, rfl⟩ := iFor hu
  dsimp only at hx h3 ht h6; subst h3
  obtain ⟨q, rfl⟩ := iN hx
  obtain ⟨gq, e, es, cp, rfl, h8, h9⟩ := iCallN ht
  exact ⟨x, q, _, gq, e, es, cp, body, p, ls.tail, head_cons hs, by simpa using h1, h2, h4, h9, h8 ▸ h5, h6, h7⟩
theorem inv_forL {i : Nat} {e : E} {b r : S} {ls : List Stmt} (h : chkS us N sc (.forL i e b r) ls = true) : ∃ x q it body p rest, ls = .For (.Name x q) it body [] p :: rest ∧ N[i]? = some x ∧ notSet it = true ∧
    chkE us N sc e it = true ∧ chkS us N sc b body = true ∧ chkS us N sc r rest = true := by
  simp only [chkS, Option.any_eq_true, Bool.and_eq_true, List.isEmpty_iff] at h
  obtain ⟨st, hs, ⟨tg, it, body, o⟩, hu, ⟨⟨⟨⟨⟨x, hx, h1⟩, h2⟩, h3⟩, h5⟩, h6⟩, h7⟩ := h
  obtain ⟨p, rfl⟩ := iFor hu
  dsimp only at hx h3 h2 h5 h6; subst h3
  obtain ⟨q, rfl⟩ := iN hx
  exact ⟨x, q, it, body, p, ls.tail, head_cons hs, by simpa using h1, h2, h5, h6, h7⟩
theorem tP_inv {P : List D → Prop} {d : D} (h : tP P d) : ∃ i, d = .tup i ∧ P i := by cases d <;> first | exact ⟨_, rfl, h⟩ | exact h.elim
theorem l3_inv {k : D → D → D → Prop} {ds : List D} (h : l3 k ds) : ∃ x y z, ds = [x, y, z] ∧ k x y z := by
  cases ds with
  | nil => exact h.elim
  | cons x r => obtain ⟨y, z, rfl, h⟩ := l2_inv h; exact ⟨x, y, z, rfl, h⟩
theorem rngP_inv {P : Int → Int → Int → Prop} {ds : List D} (h : rngP P ds) : (∃ z, ds = [.int z] ∧ P 0 z 1) ∨ (∃ a z, ds = [.int a, .int z] ∧ P a z 1) ∨ (∃ a z c, ds = [.int a, .int z, .int c] ∧ P a z c) := by
  unfold rngP at h
  split at h
  · obtain ⟨x, rfl, h⟩ := l1_inv h
    obtain ⟨z, rfl, h⟩ := intP_inv h
    exact .inl ⟨z, rfl, h⟩
  · split at h
    · obtain ⟨x, y, rfl, h⟩ := l2_inv h
      obtain ⟨a, z, rfl, rfl, h⟩ := ii_inv h
      exact .inr (.inl ⟨a, z, rfl, h⟩)
    · obtain ⟨x, y, u, rfl, h⟩ := l3_inv h
      obtain ⟨a, z, rfl, rfl, h⟩ := ii_inv h
      obtain ⟨c, rfl, h⟩ := intP_inv h
      exact .inr (.inr ⟨a, z, c, rfl, h⟩)
end inv


section sound
variable {prog : Program} {w : World} {hB h₀ : Heap} {mg mb : Str → Option Value} {us : Us} {N : List Str} {sc : Scope} {Γ : Str → List D → D → Prop} {n : Nat} {name : Str} {L : Addr} {a : Option Addr × Option Addr} {cd : Value} {cs : List (Str × Addr)}

noncomputable def FlowIs (h : Heap) : Flow → Option D → Prop
  | .next, none => True
  | .ret v, some d => RV h v d
  | _, _ => False
/-- how a block ends -/
noncomputable def PostS (h₀ : Heap) (L : Addr) (N : List Str) (s : Shared) (Q : Option D → List D → Prop) (f : Flow) (s' : Shared) : Prop :=
  Tr L s s' ∧ ∃ o ρ', St h₀ L N ρ' s' ∧ FlowIs s'.heap f o ∧ Q o ρ'
theorem PostS.tr {s s₁ s' : Shared} {Q : Option D → List D → Prop} {f : Flow} (t : Tr L s s₁) (p : PostS h₀ L N s₁ Q f s') : PostS h₀ L N s Q f s' := ⟨t.trans p.1, p.2⟩

theorem aug_ok {A : Around} {s : Shared} {op : Operator} {v u : Value} {x y : D} {P : D → Prop} (r1 : RV s.heap v x) (r2 : RV s.heap u y) (h : augW op x y P) :
    wpAny (model prog w) A (inplaceOp op v u) (fun v s' => Keeps s s' ∧ ∃ d, RV s'.heap v d ∧ P d) Fls s := by
  cases op with
  | Add => exact ii_ok (t := inplaceOp .Add) r1 r2 h fun _ _ _ _ h => PySem.P.iadd_int (tok_ok h)
  | Sub => exact ii_ok (t := inplaceOp .Sub) r1 r2 h fun _ _ _ _ h => PySem.P.isub_int (tok_ok h)
  | Mult => exact ii_ok (t := inplaceOp .Mult) r1 r2 h fun _ _ _ _ h => PySem.P.imul_int (tok_ok h.2) h.1
  | FloorDiv => exact ii_ok (t := inplaceOp .FloorDiv) r1 r2 h fun _ _ _ _ h => ifloordiv_int h.1 (tok_ok h.2.2) (Or.inl (PyProof.noPylong_of_log2 h.2.1))
  | _ => exact h.elim

/-- a name's store -/
theorem sto_ok (C : Cx prog w hB h₀ mg mb us N sc Γ n name L a cd cs) {A : Around} {s : Shared} {ρ : List D} {i : Nat} {x : Str} {v : Value} {d : D} {Q : Unit → Shared → Prop} (S : St h₀ L N ρ s) (hx : N[i]? = some x) (r : RV s.heap v d)
    (h : ∀ s', St h₀ L N (ρ.set i d) s' → Tr L s s' → Q () s') : wpAny (model prog w) A (storeName (eOf name sc L a cd cs) x v) Q Fls s :=
  S.store hx C.nd r h C.hk (C.loc x (List.mem_of_getElem? hx)).1

theorem st_frL {ρ : List D} {s : Shared} (S : St h₀ L N ρ s) : ∃ o, s.heap.get? L = some o ∧ ∀ items k, o.data ≠ .seq items k := by
  obtain ⟨m, F, _⟩ := S
  obtain ⟨oL, es, ep, hL, r⟩ := id F.ns
  exact ⟨oL, hL, ns_notSeq F.ns hL⟩
theorem st_seq {ρ : List D} {s s' : Shared} (S : St h₀ L N ρ s) (t : Tr L s s') : SeqK s.heap s'.heap := by
  obtain ⟨m, F, _⟩ := S
  exact seqK_of_but F.ns t.all

theorem extBut_keeps {s : Shared} {h' : Heap} (e : Heap.ExtBut s.heap.objs.size s.heap h') : Keeps s { s with heap := h' } :=
  ⟨h', s.toks, rfl, fun b o eb => e b o (Nat.ne_of_lt (Heap.lt_size eb)) eb⟩

theorem swN {v : Expr} {k : Nat} {p : Pos} {ts : List Expr} (C : Cx prog w hB h₀ mg mb us N sc Γ n name L a cd cs) (hs : (sw sc ts v).isSome = true) :
    swappedStores [.Tuple ts k p] v (eOf name sc L a cd cs) = pure none ∨ swappedStores [.Tuple ts k p] v (eOf name sc L a cd cs) = pure (some (swNames sc ts)) := by
  obtain ⟨b, hb⟩ := Option.isSome_iff_exists.mp hs
  have := sw_pure (name := name) (L := L) (a := a) (cd := cd) (cs := cs) (k := k) (p := p) C.hk hb
  cases b with
  | true => exact .inr (by simpa using this)
  | false => exact .inl (by simpa using this)
theorem noComp_swaps {v : Expr} {t : Option Expr} {l : Nat} {env : Env} (h : noComp v = true) : swapsWith v t l env = pure false := by
  cases v <;> first | rfl | simp [noComp] at h
theorem noComp_sole {v : Expr} {t : Expr} {l : Nat} {env : Env} (h : noComp v = true) : swapsWithSole [t] v l env = pure false := noComp_swaps h

/-- a tuple of two into two names -/
theorem asg2_ok (C : Cx prog w hB h₀ mg mb us N sc Γ n name L a cd cs) {A : Around} {s : Shared} {ρ : List D} {i j : Nat} {x y : Str} {p q tp pos : Pos} {k : Nat} {v : Expr} {Q : Flow → Shared → Prop} {P : D → D → Prop} (hA : A.handled = none)
    (hij : i ≠ j) (hx : N[i]? = some x) (hy : N[j]? = some y) (hc : noComp v = true) (hsw : (sw sc [.Name x p, .Name y q] v).isSome = true) (hnm : swNames sc [.Name x p, .Name y q] = [x, y]) (S : St h₀ L N ρ s)
    (h : wpAny (model prog w) A (eval v (eOf name sc L a cd cs)) (fun v s' => Keeps s s' ∧ ∃ d, RV s'.heap v d ∧ t2P P d) Fls s)
    (go : ∀ s' d1 d2, P d1 d2 → St h₀ L N ((ρ.set i d1).set j d2) s' → Tr L s s' → Q .next s') :
    wpAny (model prog w) A (exec (.Assign [.Tuple [.Name x p, .Name y q] k tp] v pos) (eOf name sc L a cd cs)) Q Fls s := by
  have pairs : ∀ u s', Keeps s s' ∧ (∃ d, RV s'.heap u d ∧ t2P P d) → ∃ t v1 v2 d1 d2, u = .ref t ∧ IsTup s'.heap t #[v1, v2] ∧ RV s'.heap v1 d1 ∧ RV s'.heap v2 d2 ∧ P d1 d2 ∧ Keeps s s' := by
    rintro u s' ⟨kk, d, r, hp⟩
    obtain ⟨ds, rfl, hp⟩ := tP_inv hp
    obtain ⟨d1, d2, rfl, hp⟩ := l2_inv hp
    obtain ⟨t, vs, rfl, hl, hv⟩ := r.inv_tup
    obtain ⟨v1, vs, rfl, r1, hv⟩ := hv.inv_cons
    obtain ⟨v2, vs, rfl, r2, hv⟩ := hv.inv_cons
    obtain rfl := hv.inv_nil
    exact ⟨t, v1, v2, _, _, rfl, hl, r1, r2, hp, kk⟩
  rcases swN (name := name) (L := L) (a := a) (cd := cd) (cs := cs) (k := k) (p := tp) C hsw with hw | hw
  · refine Assign_Tuple (wpAny_mono h (fun u s₁ h₁ => ?_) fun _ _ x => x) (noComp_sole hc) hw
    obtain ⟨t, v1, v2, d1, d2, rfl, ht, r1, r2, hp, kk⟩ := pairs u s₁ h₁
    refine assign_Tuple_tuple hA ht rfl rfl fun h' he => ?_
    have k2 := extBut_keeps he
    have S2 := (S.keeps kk).keeps k2
    refine assignInOrder_cons (PyProof.Rows.assign_Name (sto_ok C S2 hx (r1.keep (kSeq k2)) fun s₃ S₃ t₃ => ?_))
    refine assignInOrder_cons (PyProof.Rows.assign_Name (sto_ok C S₃ hy ((r2.keep (kSeq k2)).keep (st_seq S2 t₃)) fun s₄ S₄ t₄ => ?_))
    exact assignInOrder_nil (go s₄ d1 d2 hp S₄ (((kTr (kTrans kk k2)).trans t₃).trans t₄))
  · rw [hnm] at hw
    refine Assign_Tuple_swapped (wpAny_mono h (fun u s₁ h₁ => ?_) fun _ _ x => x) (noComp_sole hc) hw
    obtain ⟨t, v1, v2, d1, d2, rfl, ht, r1, r2, hp, kk⟩ := pairs u s₁ h₁
    show wpAny (model prog w) A (unpackItems (.ref t) (#[v1, v2] : Array Value).size none) _ _ _
    refine unpackItems_tuple hA ht fun h' he => ?_
    show wpAny (model prog w) A (assignInOrder [fun u => bindName (eOf name sc L a cd cs) y u, fun u => bindName (eOf name sc L a cd cs) x u] [v2, v1]) _ _ _
    have k2 := extBut_keeps he
    have S2 := (S.keeps kk).keeps k2
    refine assignInOrder_cons (bindName_ (sto_ok C S2 hy (r2.keep (kSeq k2)) fun s₃ S₃ t₃ => ?_))
    refine assignInOrder_cons (bindName_ (sto_ok C S₃ hx ((r1.keep (kSeq k2)).keep (st_seq S2 t₃)) fun s₄ S₄ t₄ => ?_))
    rw [List.set_comm _ _ hij.symm] at S₄
    exact assignInOrder_nil (go s₄ d1 d2 hp S₄ (((kTr (kTrans kk k2)).trans t₃).trans t₄))

end sound


section sound
variable {prog : Program} {w : World} {hB h₀ : Heap} {mg mb : Str → Option Value} {us : Us} {N : List Str} {sc : Scope} {Γ : Str → List D → D → Prop} {n : Nat} {name : Str} {L : Addr} {a : Option Addr × Option Addr} {cd : Value} {cs : List (Str × Addr)}

/-- a state in which only an iterator's object has moved -/
theorem St.but {ρ : List D} {s : Shared} {h' : Heap} {tk : Nat} {I : Addr} (S : St h₀ L N ρ s) (hL : L ≠ I) (hI : h₀.get? I = none) (hns : ∀ o, s.heap.get? I = some o → ∀ items k, o.data ≠ .seq items k)
    (hk : ∀ b o, b ≠ I → s.heap.get? b = some o → h'.get? b = some o) : St h₀ L N ρ { s with heap := h', toks := tk } := by
  obtain ⟨m, F, R⟩ := S
  have sk : SeqK s.heap h' := by
    intro b o items k e hd
    by_cases hb : b = I
    · subst hb; exact absurd hd (hns o e items k)
    · exact hk b o hb e
  refine ⟨m, ⟨F.ns.at' fun o e => hk _ o hL e, fun b o hb' e => hk b o (fun hb => ?_) (F.keep b o hb' e)⟩, fun i x d e1 e2 e3 => ?_⟩
  · subst hb; rw [hI] at e; cases e
  · obtain ⟨v, hv, r⟩ := R i x d e1 e2 e3
    exact ⟨v, hv, r.keep sk⟩

/-- a for loop over anything that walks -/
theorem for_ok (C : Cx prog w hB h₀ mg mb us N sc Γ n name L a cd cs) {A : Around} {s s₀ : Shared} {ρ : List D} {i : Nat} {x : Str} {px : Pos} {body : List Stmt} {I : Addr} {fp : List Addr} {m : Nat} {P : Nat → Value → Prop} {SW : Nat → Heap → Prop}
    (hx : N[i]? = some x) (W : Walks prog w A I fp [I] m P SW) (hLI : L ≠ I) (hLf : L ∉ fp) (hI : h₀.get? I = none) (hnsq : ∀ k h o, SW k h → h.get? I = some o → ∀ items j, o.data ≠ .seq items j)
    (hst : SW 0 s.heap) (S : St h₀ L N ρ s) (htr : Tr L s₀ s) (hfresh : s₀.heap.get? I = none)
    (J : Nat → List D → Prop) (h0 : J 0 ρ) {Q : Option D → List D → Prop} {dd : Nat → D → Prop}
    (item : ∀ k v, k < m → P k v → ∃ d, dd k d ∧ ∀ h', SeqK s.heap h' → RV h' v d)
    (turn : ∀ k d ρ' (s₁ : Shared), k < m → dd k d → J k ρ' → St h₀ L N (ρ'.set i d) s₁ →
      wpAny (model prog w) A (execs body (eOf name sc L a cd cs)) (PostS h₀ L N s₁ (onN (fun ρ'' => J (k + 1) ρ'') Q)) Fls s₁)
    {R : Flow → Shared → Prop} (done : ∀ ρ' s', J m ρ' → St h₀ L N ρ' s' → Tr L s₀ s' → R .next s') (ret : ∀ v d ρ' s', Q (some d) ρ' → RV s'.heap v d → St h₀ L N ρ' s' → Tr L s₀ s' → R (.ret v) s')
    {E' : Value → Shared → Prop} :
    codeAny (model prog w) A (.forLoop (.Name x px) (.ref I) body [] (eOf name sc L a cd cs)) (fun r s' => match r with | .ok f => R f s' | .error e => E' e s') s := by
  have hsL : ∀ o, s.heap.get? I = some o → ∀ items k, o.data ≠ .seq items k := fun o e => hnsq 0 _ o hst e
  refine codeAny_forLoop (fun c s' => ∃ h' tk ρ' k, s' = { s with heap := h', toks := tk } ∧ SW k h' ∧ St h₀ L N ρ' s' ∧ J k ρ' ∧ k ≤ m ∧ c = m + 1 - k ∧ (∀ b o, b ≠ L → b ≠ I → s.heap.get? b = some o → h'.get? b = some o)) ?_ (m + 1)
    ⟨s.heap, s.toks, ρ, 0, rfl, hst, S, h0, Nat.zero_le _, rfl, fun _ _ _ _ e => e⟩
  rintro c s' ⟨h', tk, ρ', k, rfl, hst', S', hJ, hk, rfl, hkp⟩
  have trOf : ∀ (h'' : Heap) (tk' : Nat), (∀ b o, b ≠ L → b ≠ I → s.heap.get? b = some o → h''.get? b = some o) → Tr L s₀ { s with heap := h'', toks := tk' } := by
    intro h'' tk' hh
    obtain ⟨h₁, tk₁, rfl, hk₁⟩ := htr
    refine ⟨h'', tk', rfl, fun b o hb e => hh b o hb (fun e' => ?_) (hk₁ b o hb e)⟩
    subst e'; rw [hfresh] at e; cases e
  have seqOf : ∀ (h'' : Heap), (∀ b o, b ≠ L → b ≠ I → s.heap.get? b = some o → h''.get? b = some o) → SeqK s.heap h'' := by
    intro h'' hh b o items j e hd
    by_cases hb : b = I
    · subst hb; exact absurd hd (hsL o e items j)
    · by_cases hb' : b = L
      · subst hb'
        obtain ⟨oL, hoL, hn⟩ := st_frL S
        rw [e] at hoL; cases hoL; exact absurd hd (hn items j)
      · exact hh b o hb' hb e
  by_cases hlt : k < m
  · refine W.item k _ _ _ hlt hst' fun v h₁ tk₁ hP hst₁ hk₁ => ?_
    have S₁ : St h₀ L N ρ' { s with heap := h₁, toks := tk₁ } := S'.but hLI hI (fun o e => hnsq k _ o hst' e) fun b o hb e => hk₁ b o (by simpa using hb) e
    have kp₁ : ∀ b o, b ≠ L → b ≠ I → s.heap.get? b = some o → h₁.get? b = some o := fun b o h1 h2 e => hk₁ b o (by simpa using h2) (hkp b o h1 h2 e)
    obtain ⟨d, hd, hrv⟩ := item k v hlt hP
    refine PySem.wpAny_assign_Name (wpAny_mono (sto_ok (Q := fun _ s₂ => St h₀ L N (ρ'.set i d) s₂ ∧ Tr L { s with heap := h₁, toks := tk₁ } s₂) C S₁ hx (hrv h₁ (seqOf h₁ kp₁)) (fun s₂ S₂ t₂ => ⟨S₂, t₂⟩)) (fun _ s₂ h₂ => ?_) fun _ _ x => x.elim)
    obtain ⟨S₂, t₂⟩ := h₂
    refine wpAny_mono (turn k d ρ' s₂ hlt hd hJ S₂) (fun f s₃ h₃ => ?_) fun _ _ x => x.elim
    obtain ⟨t₃, o, ρ'', S₃, hf, hq⟩ := h₃
    have t13 := t₂.trans t₃
    obtain ⟨h₄, tk₄, rfl, kp₄⟩ := t13
    have kp : ∀ b o, b ≠ L → b ≠ I → s.heap.get? b = some o → h₄.get? b = some o := fun b o h1 h2 e => kp₄ b o h1 (kp₁ b o h1 h2 e)
    cases f with
    | next =>
      cases o with
      | none =>
        refine ⟨m + 1 - (k + 1), by (first | (clear C hx W hLI hLf hI hnsq hst S htr hfresh h0 item turn done ret hsL hst' S' hJ hk hkp trOf seqOf hP hst₁ hk₁ S₁ kp₁ hd hrv S₂ t₂ kp₄ t₃ S₃ kp hq hf; omega) | omega), h₄, tk₄, ρ'', k + 1, rfl, ?_, S₃, hq, hlt, rfl, kp⟩
        exact W.frame _ _ _ hst₁ fun b hb o e => kp₄ b o (fun e' => hLf (e' ▸ hb)) e
      | some d => exact hf.elim
    | ret v =>
      cases o with
      | none => exact hf.elim
      | some d => exact ret v d ρ'' _ hq hf S₃ (trOf h₄ tk₄ kp)
    | brk => cases o <;> exact hf.elim
    | cont => cases o <;> exact hf.elim
  · have hkm : k = m := by (first | (clear C hx W hLI hLf hI hnsq hst S htr hfresh h0 item turn done ret hsL hst' S' hJ hkp trOf seqOf; omega) | omega)
    subst hkm
    refine W.done _ _ _ hst' fun h₁ tk₁ hk₁ => wpAny_execs_nil ?_
    have S₁ : St h₀ L N ρ' { s with heap := h₁, toks := tk₁ } := S'.but hLI hI (fun o e => hnsq k _ o hst' e) fun b o hb e => hk₁ b o (by simpa using hb) e
    exact done ρ' _ hJ S₁ (trOf h₁ tk₁ fun b o h1 h2 e => hk₁ b o (by simpa using h2) (hkp b o h1 h2 e))
end sound


section sound
variable {prog : Program} {w : World} {hB h₀ : Heap} {mg mb : Str → Option Value} {us : Us} {N : List Str} {sc : Scope} {Γ : Str → List D → D → Prop} {n : Nat} {name : Str} {L : Addr} {a : Option Addr × Option Addr} {cd : Value} {cs : List (Str × Addr)}

theorem lt_of_fr {ρ : List D} {s : Shared} (S : St h₀ L N ρ s) : L < s.heap.objs.size ∧ h₀.get? s.heap.objs.size = none := by
  obtain ⟨m, F, _⟩ := S
  refine ⟨F.ns.lt, ?_⟩
  cases e : h₀.get? s.heap.objs.size with
  | none => rfl
  | some o => exact absurd (Heap.lt_size (F.keep _ o (fun h => Nat.lt_irrefl _ (h ▸ F.ns.lt)) e)) (Nat.lt_irrefl _)
theorem none_at {h : Heap} {I : Addr} (hI : h.objs.size ≤ I) : h.get? I = none := by
  cases e : h.get? I with
  | none => rfl
  | some o => exact absurd (Heap.lt_size e) (Nat.not_lt.mpr hI)

theorem fresh_of {s s₂ : Shared} (k : Keeps s s₂) : s.heap.get? s₂.heap.objs.size = none := by
  cases e : s.heap.get? s₂.heap.objs.size with
  | none => rfl
  | some o => exact absurd (Heap.lt_size (kAll k _ _ e)) (Nat.lt_irrefl _)
theorem rng_call {A : Around} {s : Shared} {vs : List Value} {ds : List D} {P : Int → Int → Int → Prop} (r : RVs s.heap vs ds) (h : rngP (fun a z c => c ≠ 0 ∧ c.natAbs < 2 ^ 30 ∧ P a z c) ds) :
    wpAny (model prog w) A (call (.type "range") vs) (fun v s' => Keeps s s' ∧ ∃ ad a z c t u v', v = .ref ad ∧ IsRange s'.heap ad a z c t u v' ∧ P a z c) Fls s := by
  rcases rngP_inv h with ⟨z, rfl, h⟩ | ⟨a, z, rfl, h⟩ | ⟨a, z, c, rfl, h⟩
  · obtain ⟨v, vs, rfl, r1, r⟩ := r.inv_cons; obtain rfl := r.inv_nil; obtain ⟨t, rfl⟩ := r1.inv_int
    exact call_range_1 ⟨⟨_, _, rfl, fun _ _ e => Heap.get?_push_of_some _ e⟩, _, _, _, _, _, _, _, rfl, IsRange.new .., h.2.2⟩
  · obtain ⟨v, vs, rfl, r1, r⟩ := r.inv_cons; obtain ⟨v2, vs, rfl, r2, r⟩ := r.inv_cons; obtain rfl := r.inv_nil; obtain ⟨t, rfl⟩ := r1.inv_int; obtain ⟨t2, rfl⟩ := r2.inv_int
    exact call_range_2 ⟨⟨_, _, rfl, fun _ _ e => Heap.get?_push_of_some _ e⟩, _, _, _, _, _, _, _, rfl, IsRange.new .., h.2.2⟩
  · obtain ⟨v, vs, rfl, r1, r⟩ := r.inv_cons; obtain ⟨v2, vs, rfl, r2, r⟩ := r.inv_cons; obtain ⟨v3, vs, rfl, r3, r⟩ := r.inv_cons; obtain rfl := r.inv_nil
    obtain ⟨t, rfl⟩ := r1.inv_int; obtain ⟨t2, rfl⟩ := r2.inv_int; obtain ⟨t3, rfl⟩ := r3.inv_int
    exact call_range_3 h.1 ⟨⟨_, _, rfl, fun _ _ e => Heap.get?_push_of_some _ e⟩, _, _, _, _, _, _, _, rfl, IsRange.new .., h.2.2⟩ (Or.inl (PyProof.noPylong_small (by have := h.2.1; (first | (clear h r1 r2 r3 r; omega) | omega))))

theorem notSet_fold {it : Expr} {env : Env} (h : notSet it = true) : ∀ x, foldedSetIterable it env x = pure x := by
  intro x; cases it <;> first | rfl | simp [notSet] at h

theorem rangeSize_nonneg (a z c : Int) : 0 ≤ Builtin.Range.rangeSize a z c := by
  unfold Builtin.Range.rangeSize
  split
  · split
    · rename_i h1 h2
      have := Int.ediv_nonneg (a := z - a - 1) (b := c) (by first | with_reducible assumption | with_reducible exact Int.le_of_lt (by assumption) | with_reducible exact Nat.le_of_lt (by assumption) | with_reducible exact qz1 (by assumption) | with_reducible exact qz2 (by assumption) | with_reducible exact qz3 (by assumption) | with_reducible exact qz4 (by assumption) | with_reducible exact qz5 (by assumption) | with_reducible exact qz6 (by assumption) | with_reducible exact qz7 (by assumption) | with_reducible exact qz8 (by assumption) | with_reducible exact qz9 (by assumption) | with_reducible exact qza (by assumption) | with_reducible exact qzb (by assumption) | with_reducible exact qzc | with_reducible exact qzd | with_reducible exact qze | (first | (clear h1; omega) | omega)) (by first | with_reducible assumption | with_reducible exact Int.le_of_lt (by assumption) | with_reducible exact Nat.le_of_lt (by assumption) | with_reducible exact qz1 (by assumption) | with_reducible exact qz2 (by assumption) | with_reducible exact qz3 (by assumption) | with_reducible exact qz4 (by assumption) | with_reducible exact qz5 (by assumption) | with_reducible exact qz6 (by assumption) | with_reducible exact qz7 (by assumption) | with_reducible exact qz8 (by assumption) | with_reducible exact qz9 (by assumption) | with_reducible exact qza (by assumption) | with_reducible exact qzb (by assumption) | with_reducible exact qzc | with_reducible exact qzd | with_reducible exact qze | omega)
      (first | (clear h1 h2; omega) | omega)
    · omega
  · split
    · rename_i h1 h2
      have := Int.ediv_nonneg (a := a - z - 1) (b := -c) (by first | with_reducible assumption | with_reducible exact Int.le_of_lt (by assumption) | with_reducible exact Nat.le_of_lt (by assumption) | with_reducible exact qz1 (by assumption) | with_reducible exact qz2 (by assumption) | with_reducible exact qz3 (by assumption) | with_reducible exact qz4 (by assumption) | with_reducible exact qz5 (by assumption) | with_reducible exact qz6 (by assumption) | with_reducible exact qz7 (by assumption) | with_reducible exact qz8 (by assumption) | with_reducible exact qz9 (by assumption) | with_reducible exact qza (by assumption) | with_reducible exact qzb (by assumption) | with_reducible exact qzc | with_reducible exact qzd | with_reducible exact qze | (first | (clear h1; omega) | omega)) (by first | with_reducible assumption | with_reducible exact Int.le_of_lt (by assumption) | with_reducible exact Nat.le_of_lt (by assumption) | with_reducible exact qz1 (by assumption) | with_reducible exact qz2 (by assumption) | with_reducible exact qz3 (by assumption) | with_reducible exact qz4 (by assumption) | with_reducible exact qz5 (by assumption) | with_reducible exact qz6 (by assumption) | with_reducible exact qz7 (by assumption) | with_reducible exact qz8 (by assumption) | with_reducible exact qz9 (by assumption) | with_reducible exact qza (by assumption) | with_reducible exact qzb (by assumption) | with_reducible exact qzc | with_reducible exact qzd | with_reducible exact qze | (first | (clear h2; omega) | omega))
      (first | (clear h1 h2; omega) | omega)
    · omega

theorem post_next {s s' : Shared} {Q : Option D → List D → Prop} {ρ : List D} (S : St h₀ L N ρ s') (t : Tr L s s') (h : Q none ρ) : PostS h₀ L N s Q .next s' := ⟨t, none, ρ, S, trivial, h⟩

/-- on behind a block that falls through -/
theorem then_rest {A : Around} {s s₁ : Shared} {rest : List Stmt} {Q : Option D → List D → Prop} {r : S}
    (ih : ∀ (s : Shared) (ρ : List D), St h₀ L N ρ s → wpS0 Γ r ρ Q → wpAny (model prog w) A (execs rest (eOf name sc L a cd cs)) (PostS h₀ L N s Q) Fls s)
    (t : Tr L s s₁) : ∀ (f : Flow) (s' : Shared), PostS h₀ L N s₁ (onN (fun ρ' => wpS0 Γ r ρ' Q) Q) f s' →
    match f with | .next => wpAny (model prog w) A (execs rest (eOf name sc L a cd cs)) (PostS h₀ L N s Q) Fls s' | f => PostS h₀ L N s Q f s' := by
  intro f s' h
  obtain ⟨t', o, ρ', S', hf, hq⟩ := h
  cases f with
  | next =>
    cases o with
    | none => exact wpAny_mono (ih s' ρ' S' hq) (fun _ _ x => x.tr (t.trans t')) fun _ _ x => x
    | some d => exact hf.elim
  | ret v =>
    cases o with
    | none => exact hf.elim
    | some d => exact ⟨t.trans t', some d, ρ', S', hf, hq⟩
  | brk => cases o <;> exact hf.elim
  | cont => cases o <;> exact hf.elim

theorem soundS (C : Cx prog w hB h₀ mg mb us N sc Γ n name L a cd cs) : ∀ (c : S) (stmts : List Stmt), chkS us N sc c stmts = true → ∀ (A : Around) (s : Shared) (ρ : List D) (Q : Option D → List D → Prop), (AOk n A ∧ us.k A) → St h₀ L N ρ s → wpS0 Γ c ρ Q →
    wpAny (model prog w) A (execs stmts (eOf name sc L a cd cs)) (PostS h₀ L N s Q) Fls s := by
  intro c
  induction c with
  | nil =>
    intro stmts hc A s ρ Q hA' S h
    have hA := hA'.1
    obtain rfl := inv_Nil hc
    simp only [wpS0] at h
    exact wpAny_execs_nil (post_next S (.refl L s) h)
  | rais => intro stmts hc A s ρ Q hA' S h; simp only [wpS0] at h
  | opq x r ih =>
    intro stmts hc A s ρ Q hA' S h
    have hA := hA'.1
    simp only [chkS, Bool.and_eq_true, Option.any_eq_true] at hc
    obtain ⟨⟨st, hst, hs⟩, hr⟩ := hc
    rw [head_cons hst]
    simp only [wpS0] at h
    obtain ⟨ρ', hg, hw⟩ := h
    refine wpAny_execs_cons (wpAny_mono (C.op x ρ ρ' st hg hs A s hA hA'.2 S) (fun f s' h' => ?_) fun _ _ x => x)
    obtain ⟨rfl, t, S'⟩ := h'
    exact wpAny_mono (ih _ hr A s' ρ' Q hA' S' hw) (fun _ _ x => x.tr t) fun _ _ x => x
  | ret e =>
    intro stmts hc A s ρ Q hA' S h
    have hA := hA'.1
    obtain ⟨x, p, rest, rfl, hc⟩ := inv_ret hc
    simp only [wpS0] at h
    refine wpAny_execs_cons (wpAny_Return_some (wpAny_mono ((sound C e).val _ hc A s ρ _ hA S h) (fun v s' h' => ?_) fun _ _ x => x))
    obtain ⟨k, d, r, hp⟩ := h'
    exact ⟨kTr k, some d, ρ, S.keeps k, r, hp⟩
  | set i e r ih =>
    intro stmts hc A s ρ Q hA' S h
    have hA := hA'.1
    obtain ⟨x, q, v, p, rest, rfl, h1, h2, h3, h4⟩ := inv_set hc
    simp only [wpS0] at h
    refine wpAny_execs_cons (wpAny_Assign_Name (wpAny_mono ((sound C e).val _ h3 A s ρ _ hA S h) (fun v s' h' => ?_) fun _ _ x => x) (noComp_swaps h2))
    obtain ⟨k, d, rv, hp⟩ := h'
    refine sto_ok C (S.keeps k) h1 rv fun s₂ S₂ t₂ => ?_
    exact wpAny_mono (ih _ h4 A s₂ _ Q hA' S₂ hp) (fun _ _ x => x.tr ((kTr k).trans t₂)) fun _ _ x => x
  | set2 i j e r ih =>
    intro stmts hc A s ρ Q hA' S h
    have hA := hA'.1
    obtain ⟨x, p, y, q, kk, tp, v, pos, rest, rfl, h0, h1, h2, h3, h4, h5, h6, h7⟩ := inv_set2 hc
    simp only [wpS0] at h
    refine wpAny_execs_cons (asg2_ok C hA.1 h0 h1 h2 h3 h4 h5 S ((sound C e).val _ h6 A s ρ _ hA S h) fun s₂ d1 d2 hp S₂ t₂ => ?_)
    exact wpAny_mono (ih _ h7 A s₂ _ Q hA' S₂ hp) (fun _ _ x => x.tr t₂) fun _ _ x => x
  | aug i op e r ih =>
    intro stmts hc A s ρ Q hA' S h
    have hA := hA'.1
    obtain ⟨x, q, v, p, rest, rfl, h1, h3, h4⟩ := inv_aug hc
    simp only [wpS0] at h
    obtain ⟨m, F, R⟩ := id S
    obtain ⟨v, hv, r1⟩ := R i _ _ h1 (get_eq rfl h.1) h.1
    refine wpAny_execs_cons (wpAny_AugAssign_Name (wpAny_loadName_local C.hk (C.loc _ (List.mem_of_getElem? h1)).1 F.ns hv ?_))
    refine wpAny_mono ((sound C e).val _ h3 A s ρ _ hA S h.2) (fun u s' h' => ?_) fun _ _ x => x
    obtain ⟨k, d, r2, hp⟩ := h'
    refine wpAny_mono (aug_ok (r1.keep (kSeq k)) r2 hp) (fun z s₂ h₂ => ?_) fun _ _ x => x
    obtain ⟨k2, d2, r3, hp2⟩ := h₂
    refine sto_ok C ((S.keeps k).keeps k2) h1 r3 fun s₃ S₃ t₃ => ?_
    exact wpAny_mono (ih _ h4 A s₃ _ Q hA' S₃ hp2) (fun _ _ x => x.tr ((kTr (kTrans k k2)).trans t₃)) fun _ _ x => x
  | ite c t e r iht ihe ihr =>
    intro stmts hc A s ρ Q hA' S h
    have hA := hA'.1
    obtain ⟨x, b, o, p, rest, rfl, h1, h2, h3, h4⟩ := inv_iteS hc
    simp only [wpS0] at h
    refine wpAny_execs_cons (wpAny_If (wpAny_mono ((sound C c).tst _ h1 A s ρ (fun b => if b = true then wpS0 Γ t ρ (onN (fun ρ' => wpS0 Γ r ρ' Q) Q) else wpS0 Γ e ρ (onN (fun ρ' => wpS0 Γ r ρ' Q) Q)) hA S h) (fun b s' h' => ?_) fun _ _ x => x))
    obtain ⟨k, hp⟩ := h'
    cases b with
    | true =>
      simp only [if_true] at hp ⊢
      exact wpAny_mono (iht _ h2 A s' ρ _ hA' (S.keeps k) hp) (then_rest (fun s ρ S h => ihr _ h4 A s ρ Q hA' S h) (kTr k)) fun _ _ x => x
    | false =>
      simp only [Bool.false_eq_true, if_false] at hp ⊢
      exact wpAny_mono (ihe _ h3 A s' ρ _ hA' (S.keeps k) hp) (then_rest (fun s ρ S h => ihr _ h4 A s ρ Q hA' S h) (kTr k)) fun _ _ x => x
  | whl c b r ihb ihr =>
    intro stmts hc A s ρ Q hA' S h
    have hA := hA'.1
    obtain ⟨x, body, p, rest, rfl, h1, h2, h3⟩ := inv_whl hc
    simp only [wpS0] at h
    obtain ⟨I, n₀, hI0, hI⟩ := h
    refine wpAny_execs_cons (wpAny_While (codeAny_whileLoop (fun k s' => Tr L s s' ∧ ∃ ρ', St h₀ L N ρ' s' ∧ I k ρ') ?_ n₀ ⟨.refl L s, ρ, S, hI0⟩))
    rintro k s' ⟨t', ρ', S', hk⟩
    refine wpAny_mono ((sound C c).tst _ h1 A s' ρ' (fun t => if t = true then wpS0 Γ b ρ' (onN (fun ρ'' => ∃ m, m < k ∧ I m ρ'') Q) else wpS0 Γ r ρ' Q) hA S' (hI k ρ' hk)) (fun t s₂ h₂ => ?_) fun _ _ x => x.elim
    obtain ⟨k2, hp⟩ := h₂
    have S₂ := S'.keeps k2
    have t₂ := t'.trans (kTr k2)
    cases t with
    | true =>
      simp only [if_true] at hp ⊢
      refine wpAny_mono (ihb _ h2 A s₂ ρ' _ hA' S₂ hp) (fun f s₃ h₃ => ?_) fun _ _ x => x.elim
      obtain ⟨t₃, o, ρ'', S₃, hf, hq⟩ := h₃
      cases f with
      | next =>
        cases o with
        | none => obtain ⟨m, hm, hIm⟩ := hq; exact ⟨m, hm, t₂.trans t₃, ρ'', S₃, hIm⟩
        | some d => exact hf.elim
      | ret v =>
        cases o with
        | none => exact hf.elim
        | some d => exact ⟨t₂.trans t₃, some d, ρ'', S₃, hf, hq⟩
      | brk => cases o <;> exact hf.elim
      | cont => cases o <;> exact hf.elim
    | false =>
      simp only [Bool.false_eq_true, if_false] at hp ⊢
      exact wpAny_execs_nil (wpAny_mono (ihr _ h3 A s₂ ρ' Q hA' S₂ hp) (fun _ _ x => x.tr t₂) fun _ _ x => x)
  | forR i l b r ihb ihr =>
    intro stmts hc A s ρ Q hA' S h
    have hA := hA'.1
    obtain ⟨xn, q, g, gq, e, es, cp, body, p, rest, rfl, h1, h2, h3, h4, h5, h6, h7⟩ := inv_forR hc
    simp only [wpS0] at h
    have ne := cons_of h5
    obtain ⟨x, rr, rfl⟩ := ne
    obtain ⟨e', es', e1, hs, _, _⟩ := inv_cons h5
    cases e1
    refine wpAny_execs_cons (wpAny_For (Call_ (bi_name C S h2 rfl h3 h4 (callB hs (chkEs_stars h5) (val_cases .range rfl) (wpAny_mono ((sound C (.cons x rr)).lst _ _ h5 A s ρ _ hA S h) (fun vs s₁ h₁ => ?_) fun _ _ x => x)))) (fun _ => rfl))
    obtain ⟨k, ds, rs, hp⟩ := h₁
    refine wpAny_mono (rng_call rs hp) (fun v s₂ h₂ => ?_) fun _ _ x => x
    obtain ⟨k2, ad, a₀, z, c, t, u, v', rfl, hr, hsm, I, hI0, hturn, hdone⟩ := h₂
    refine wpAny_pyIter_range hr hsm ?_
    have k12 := kTrans k k2
    have S₂ := (S.keeps k12)
    obtain ⟨hLs, hLh⟩ := lt_of_fr S₂
    have k3 : Keeps s₂ { s₂ with heap := s₂.heap.push { cls := .type "range_iterator", data := .fields #[rawInt a₀, rawInt (Builtin.Range.rangeSize a₀ z c), rawInt c] } } := push_keeps _
    have hcnt : ((cnt a₀ z c : Nat) : Int) = Builtin.Range.rangeSize a₀ z c := by unfold cnt; exact Int.toNat_of_nonneg (rangeSize_nonneg a₀ z c)
    refine for_ok (s₀ := s) C h1 (Walks.range hA.1 s₂.heap.objs.size a₀ c (cnt a₀ z c)) (Nat.ne_of_lt hLs) (by simpa using Nat.ne_of_lt hLs) hLh ?_ ?_ (S₂.keeps k3) (kTr (kTrans k12 k3)) ?_ I hI0
      (dd := fun k d => d = .int (a₀ + k * c)) (Q := Q) ?_ ?_ ?_ ?_
    · intro j h o hst ho items q
      rw [hst] at ho; cases ho; simp
    · show IsRangeIter _ _ _ _ _
      rw [hcnt]
      simpa using Heap.get?_push_size _ rfl
    · exact fresh_of k12
    · rintro j v hj ⟨t, rfl⟩
      exact ⟨_, rfl, fun h' _ => .int _ _⟩
    · rintro j d ρ' s₁ hj rfl hJ S₁
      exact ihb _ h6 A s₁ _ _ hA' S₁ (hturn j ρ' hj hJ)
    · intro ρ' s' hJ S' t'
      exact wpAny_mono (ihr _ h7 A s' ρ' Q hA' S' (hdone ρ' hJ)) (fun _ _ x => x.tr t') fun _ _ x => x
    · intro v d ρ' s' hq hrv S' t'
      exact ⟨t', some d, ρ', S', hrv, hq⟩
  | forL i e b r ihb ihr =>
    intro stmts hc A s ρ Q hA' S h
    have hA := hA'.1
    obtain ⟨xn, q, it, body, p, rest, rfl, h1, h2, h5, h6, h7⟩ := inv_forL hc
    simp only [wpS0] at h
    refine wpAny_execs_cons (wpAny_For (wpAny_mono ((sound C e).val _ h5 A s ρ _ hA S h) (fun v s₂ h₂ => ?_) fun _ _ x => x) (notSet_fold h2))
    obtain ⟨k12, d, rv, hp⟩ := h₂
    obtain ⟨ds, rfl, hp⟩ := lP_inv hp
    obtain ⟨ad, vs, rfl, hl, hv⟩ := rv.inv_list
    obtain ⟨I, hI0, hturn, hdone⟩ := hp
    refine wpAny_pyIter_list hl ?_
    have S₂ := (S.keeps k12)
    obtain ⟨hLs, hLh⟩ := lt_of_fr S₂
    have k3 : Keeps s₂ { s₂ with heap := s₂.heap.push { cls := .type "list_iterator", data := .fields #[.ref ad, .int 0 0] } } := push_keeps _
    have hne : ad ≠ s₂.heap.objs.size := by obtain ⟨o, ho, _⟩ := hl; exact Nat.ne_of_lt (Heap.lt_size ho)
    have hLad : L ≠ ad := by
      intro e; subst e
      obtain ⟨oL, hoL, hn⟩ := st_frL S₂
      obtain ⟨o, ho, _, q, hd⟩ := hl
      rw [hoL] at ho; cases ho; exact hn _ _ hd
    have hsz : vs.toArray.size = ds.length := by rw [List.size_toArray, hv.1]
    have W := Walks.list (prog := prog) (w := w) hA.1 s₂.heap.objs.size ad hne vs.toArray
    rw [hsz] at W
    refine for_ok (s₀ := s) C h1 W (Nat.ne_of_lt hLs) (by simp [Nat.ne_of_lt hLs, hLad]) hLh ?_ ?_ (S₂.keeps k3) (kTr (kTrans k12 k3)) ?_ I hI0
      (dd := fun k d => ds[k]? = some d) (Q := Q) ?_ ?_ ?_ ?_
    · intro j h o hst ho items q
      obtain ⟨⟨o', ho', _, hd'⟩, _⟩ := hst
      rw [ho'] at ho; cases ho; rw [hd']; simp
    · exact ⟨⟨_, Heap.get?_push_size _ rfl, rfl, rfl⟩, hl.at fun o e => Heap.get?_push_of_some _ e⟩
    · exact fresh_of k12
    · intro j v hj hP
      have hP : vs[j]? = some v := by simpa using hP
      have hjv : j < ds.length := hj
      refine ⟨ds[j], List.getElem?_eq_getElem hjv, fun h' sk => ?_⟩
      exact ((hv.2 j v _ hP (List.getElem?_eq_getElem hjv)).keep (kSeq k3)).keep sk
    · intro j d ρ' s₁ hj hd hJ S₁
      exact ihb _ h6 A s₁ _ _ hA' S₁ (hturn j d ρ' hd hJ)
    · intro ρ' s' hJ S' t'
      exact wpAny_mono (ihr _ h7 A s' ρ' Q hA' S' (hdone ρ' hJ)) (fun _ _ x => x.tr t') fun _ _ x => x
    · intro v d ρ' s' hq hrv S' t'
      exact ⟨t', some d, ρ', S', hrv, hq⟩
end sound


noncomputable def chkFn (us : List B) (N names : List Str) (c : S) (fd : FuncData) : Bool :=
  (match fd.body with | .stmts body => chkS (pl us) N fd.scope c body | _ => false) && fd.globals == mainGlobals && fd.builtins == builtinsNs && fd.closure.isEmpty && fd.scope.kind == .function && !fd.scope.isCoroutine && !fd.scope.isGenerator &&
    fd.scope.names.all (fun x => x.2 != .cell) && N.all (fun x => fd.scope.names.lookup x == some .local && x != "__debug__") && decide N.Nodup && names.isPrefixOf N

noncomputable def fnAt (K : Frag) (f : Str) : Option (Addr × FuncData) :=
  match nsIn K mainGlobals f with
  | some (some (.ref a)) => (match K.lookup a with
      | some o => (match o.data with
          | .func fd => if codeIn K fd.code fd.qualname then some (a, fd) else none
          | _ => none)
      | _ => none)
  | _ => none

theorem fnAt_spec {K : Frag} {f : Str} {a : Addr} {fd : FuncData} (h : fnAt K f = some (a, fd)) :
    nsIn K mainGlobals f = some (some (.ref a)) ∧ (∃ o, K.lookup a = some o ∧ o.data = .func fd) ∧ codeIn K fd.code fd.qualname = true := by
  unfold fnAt at h
  split at h
  · rename_i a' hn
    split at h
    · rename_i o ho
      split at h
      · rename_i fd' hd
        split at h
        · rename_i hc
          cases h
          exact ⟨hn, ⟨o, ho, hd⟩, hc⟩
        · cases h
      · cases h
    · cases h
  · cases h

theorem lookup_zip {names : List Str} {vs : List Value} {i : Nat} {x : Str} {v : Value} (hnd : names.Nodup) (hx : names[i]? = some x) (hv : vs[i]? = some v) : (names.zip vs).reverse.lookup x = some v := by
  induction names generalizing vs i with
  | nil => simp at hx
  | cons y names ih =>
    cases vs with
    | nil => simp at hv
    | cons u vs =>
      rw [List.zip_cons_cons, List.reverse_cons, List.lookup_append]
      rw [List.nodup_cons] at hnd
      cases i with
      | zero =>
        simp at hx hv
        subst hx; subst hv
        have : (names.zip vs).reverse.lookup y = none := by
          rw [List.lookup_eq_none_iff]
          intro p hp
          have hp := List.mem_reverse.mp hp
          have := (List.of_mem_zip hp).1
          exact bne_iff_ne.mpr fun e => hnd.1 (e ▸ this)
        rw [this]; simp
      | succ i =>
        simp at hx hv
        rw [ih hnd.2 hx hv]; rfl

theorem callsTo_of {prog : Program} {w : World} {hB : Heap} {mg mb : Str → Option Value} {us : List B} {N names : List Str} {Γ : Str → List D → D → Prop} {n : Nat} {f : Str} {a : Addr} {fd : FuncData} {K : Frag} {c : S} {ds : List D} {r : D}
    (KX : K.In hB) (W : Wd hB mg mb us) (hf : fnAt K f = some (a, fd)) (hchk : chkFn us N names c fd = true) (hG : ∀ f ds r, Γ f ds r → CallsTo prog w hB mg n f ds r)
    (hbind : ∀ (s : Shared) (vs : List Value), Kp hB s.heap → vs.length = names.length → BindsTo s fd ⟨vs, []⟩ (names.zip vs)) (hlen : ds.length = names.length)
    (hsp : wpS0 Γ c (ds ++ List.replicate (N.length - names.length) .undef) (fun o _ => o = some r)) : CallsTo prog w hB mg (n + 1) f ds r := by
  obtain ⟨hn, ⟨o, ho, hd⟩, hcd⟩ := fnAt_spec hf
  have hmg := mg_of KX W.g hn
  refine ⟨a, o, fd, hmg, KX _ _ ho, hd, fun A s vs hA hk rs => ?_⟩
  unfold chkFn at hchk
  simp only [Bool.and_eq_true, beq_iff_eq, Bool.not_eq_true', decide_eq_true_eq, List.all_eq_true, bne_iff_ne, ne_eq, List.isEmpty_iff] at hchk
  obtain ⟨⟨⟨⟨⟨⟨⟨⟨⟨⟨h1, hg⟩, hb⟩, hcl⟩, hkd⟩, hco⟩, hge⟩, hce⟩, hlo⟩, hnd⟩, hpf⟩ := hchk
  obtain ⟨rest, rfl⟩ := List.isPrefixOf_iff_prefix.mp hpf
  split at h1
  · rename_i body hbody
    refine wpAny_call (codeAny_call_def (fd := fd) (binds := names.zip vs) (by have := hA.2; (first | (clear KX W hf hG hbind hlen hn hcd ho hd hmg hA hk rs hce hge hco hkd hcl hb hg hsp hpf hnd hlo hbody h1; omega) | omega)) (hk _ _ (KX _ _ ho)) hd (W.nl.keeps hk) (codeRec_of (KX.keeps hk) hcd) hbody
      (hbind s vs hk (by rw [rs.1, hlen])) hce ?_ ?_ hco hge hkd)
    · intro x hx
      have := (List.of_mem_zip (a := x.1) (b := x.2) hx).1
      exact (hlo x.1 (List.mem_append_left _ this)).1
    · intro h₁ hns hk₁
      have henv : callEnv fd s.heap.objs.size a = eOf (fd.qualname ++ ".<locals>.") fd.scope s.heap.objs.size (some a, some s.heap.objs.size) fd.code [] := by
        unfold callEnv eOf newEnv
        rw [hg, hb, hcl]
      rw [henv]
      have F : Fm s.heap s.heap.objs.size h₁ (fun x => (names.zip vs).reverse.lookup x) := ⟨hns, fun b o _ e => hk₁ b o e⟩
      have C : Cx prog w hB s.heap mg mb (pl us) (names ++ rest) fd.scope Γ n (fd.qualname ++ ".<locals>.") s.heap.objs.size (some a, some s.heap.objs.size) fd.code [] := ⟨W, fun f ds r _ h => hG f ds r h, hkd, fun x hx => ⟨(hlo x hx).1, beq_eq_false_iff_ne.mpr (hlo x hx).2⟩, hnd,
        fun b o e => ⟨Nat.ne_of_lt (Heap.lt_size (hk b o e)), hk b o e⟩, fun _ _ _ _ _ _ h => (by cases h), fun _ _ _ _ _ h => (by cases h), fun _ _ _ _ _ h => (by cases h)⟩
      have S₁ : St s.heap s.heap.objs.size (names ++ rest) (ds ++ List.replicate ((names ++ rest).length - names.length) .undef) { s with heap := h₁, toks := s.toks + (names.zip vs).length } := by
        refine ⟨_, F, fun i x d e1 e2 e3 => ?_⟩
        have hi : i < ds.length := by
          refine Nat.not_le.mp fun hle => e3 ?_
          rw [List.getElem?_append_right hle, List.getElem?_replicate] at e2
          split at e2
          · exact (Option.some.inj e2).symm
          · cases e2
        rw [List.getElem?_append_left hi] at e2
        rw [List.getElem?_append_left (by first | with_reducible assumption | with_reducible exact Int.le_of_lt (by assumption) | with_reducible exact Nat.le_of_lt (by assumption) | with_reducible exact qz1 (by assumption) | with_reducible exact qz2 (by assumption) | with_reducible exact qz3 (by assumption) | with_reducible exact qz4 (by assumption) | with_reducible exact qz5 (by assumption) | with_reducible exact qz6 (by assumption) | with_reducible exact qz7 (by assumption) | with_reducible exact qz8 (by assumption) | with_reducible exact qz9 (by assumption) | with_reducible exact qza (by assumption) | with_reducible exact qzb (by assumption) | with_reducible exact qzc | with_reducible exact qzd | with_reducible exact qze | (first | (clear KX W hf hG hbind hn hcd ho hd hmg hA hk rs hce hge hco hkd hcl hb hg hsp hpf hnd hlo hbody h1 hns hk₁ henv F C e1 e2 e3; omega) | omega))] at e1
        obtain ⟨v, hv, rv⟩ := getElem_to rs e2
        exact ⟨v, lookup_zip (List.nodup_append.mp hnd).1 e1 hv, rv.keep (SeqK.of hk₁)⟩
      refine wpAny_mono (soundS C c body h1 (A.deeper (eOf (fd.qualname ++ ".<locals>.") fd.scope s.heap.objs.size (some a, some s.heap.objs.size) fd.code [])) _ _ _ ⟨⟨hA.1, by show A.depth + 1 + n < recursionLimit ∧ A.units + 3 + 3 * n + 200 < cLine; have := hA.2; (first | (clear KX W hf hG hbind hlen hn hcd ho hd hmg hA hk rs hce hge hco hkd hcl hb hg hsp hpf hnd hlo hbody h1 hns hk₁ henv F C S₁; omega) | omega)⟩, trivial⟩ S₁ hsp) (fun fl s' h' => ?_) fun _ _ x => x.elim
      obtain ⟨t, o', ρ', S', hf, rfl⟩ := h'
      cases fl with
      | ret v =>
        refine ⟨?_, hf⟩
        obtain ⟨m, F', _⟩ := S'
        obtain ⟨h₂, tk, rfl, _⟩ := t
        exact ⟨h₂, tk, rfl, fun b o e => F'.keep b o (Nat.ne_of_lt (Heap.lt_size e)) e⟩
      | next => exact hf.elim
      | brk => exact hf.elim
      | cont => exact hf.elim
  · cases h1


noncomputable def chkB (K : Frag) : B → Bool
  | .fn x => (fnAt K x).isSome
  | f => (nsIn K mainGlobals f.name == some none && bootBuiltins f.name == some f.val && f.name != "__name__") || nsIn K mainGlobals f.name == some (some f.val)

theorem wd_of {K : Frag} {hB : Heap} {p : Program} {loose : List Str} {mean : ExcName → Option Value} {mg mb : Str → Option Value} {us : List B} (KX : K.In hB) (T : Top p loose mean mg mb hB) (h : us.all (chkB K) = true) : Wd hB mg mb us := by
  rw [List.all_eq_true] at h
  refine ⟨T.g, T.b, T.nolimit, fun x hx => ?_, fun f hf hpl => ?_⟩
  · have := h _ hx
    simp only [chkB] at this
    obtain ⟨⟨a, fd⟩, e⟩ := Option.isSome_iff_exists.mp this
    obtain ⟨hn, ⟨o, ho, hd⟩, _⟩ := fnAt_spec e
    exact ⟨a, o, fd, mg_of KX T.g hn, KX _ _ ho, hd⟩
  · have h' := h _ hf
    have e : chkB K f = ((nsIn K mainGlobals f.name == some none && bootBuiltins f.name == some f.val && f.name != "__name__") || nsIn K mainGlobals f.name == some (some f.val)) := by
      cases f <;> first | rfl | cases hpl
    rw [e] at h'
    simp only [Bool.or_eq_true, Bool.and_eq_true, beq_iff_eq, bne_iff_ne, ne_eq] at h'
    rcases h' with ⟨⟨h1, h2⟩, h3⟩ | h1
    · exact .inl ⟨mg_none_of KX T.g h1, (T.builtins _ h3).trans h2⟩
    · exact .inr (mg_of KX T.g h1)

theorem ints_rv {h : Heap} {vs : List Value} {ns : List Int} (hi : IntsAre vs ns) : RVs h vs (ns.map .int) := by
  induction hi with
  | nil => exact RVs.nil
  | cons n t _ ih => exact RVs.cons (.int n t) ih

/-! the same functions, sealed: known by their equations alone -/
abbrev WP : Type := E → List D → (D → Prop) → Prop
abbrev WPL : Type := E → List D → (List D → Prop) → Prop
noncomputable def sl (Γ : Str → List D → D → Prop) : { t : WP × WP × WP × WPL // t = (wp0 Γ, wpAnd0 Γ, wpOr0 Γ, wpL0 Γ) } := Classical.choice ⟨⟨_, rfl⟩⟩
noncomputable def slS (Γ : Str → List D → D → Prop) : { t : S → List D → (Option D → List D → Prop) → Prop // t = wpS0 Γ } := Classical.choice ⟨⟨_, rfl⟩⟩
section
variable (Γ : Str → List D → D → Prop)
noncomputable def wp : WP := (sl Γ).1.1
noncomputable def wpAnd : WP := (sl Γ).1.2.1
noncomputable def wpOr : WP := (sl Γ).1.2.2.1
noncomputable def wpL : WPL := (sl Γ).1.2.2.2
noncomputable def wpS : S → List D → (Option D → List D → Prop) → Prop := (slS Γ).1
theorem rw1 : wp Γ = wp0 Γ := by unfold wp; rw [(sl Γ).2]
theorem rw2 : wpAnd Γ = wpAnd0 Γ := by unfold wpAnd; rw [(sl Γ).2]
theorem rw3 : wpOr Γ = wpOr0 Γ := by unfold wpOr; rw [(sl Γ).2]
theorem rw4 : wpL Γ = wpL0 Γ := by unfold wpL; rw [(sl Γ).2]
theorem rw5 : wpS Γ = wpS0 Γ := by unfold wpS; rw [(slS Γ).2]
end
section
variable {Γ : Str → List D → D → Prop} {ρ : List D} {P : D → Prop} {Q : Option D → List D → Prop} {a b c l r lo hi : E} {t e s : S} {op : Operator} {o o1 o2 : CmpOp} {i j k : Nat}
@[simp] theorem wlit {i : Int} : wp Γ (.lit i) ρ P = P (.int i) := by rw [rw1]; rfl
@[simp] theorem wbo {i : Bool} : wp Γ (.bo i) ρ P = P (.bool i) := by rw [rw1]; rfl
@[simp] theorem wvar : wp Γ (.var i) ρ P = (get ρ i ≠ .undef ∧ P (get ρ i)) := by rw [rw1]; rfl
@[simp] theorem wbin : wp Γ (.bin op a b) ρ P = wp Γ a ρ fun x => wp Γ b ρ fun y => binW op x y P := by rw [rw1]; rfl
@[simp] theorem wneg : wp Γ (.neg a) ρ P = wp Γ a ρ (intP fun i => P (.int (-i))) := by rw [rw1]; rfl
@[simp] theorem wnot : wp Γ (.not a) ρ P = wp Γ a ρ fun x => ∃ b, truth x = some b ∧ P (.bool !b) := by rw [rw1]; rfl
@[simp] theorem wcmp : wp Γ (.cmp o a b) ρ P = wp Γ a ρ fun x => wp Γ b ρ fun y => cmpW o x y fun c => P (.bool c) := by rw [rw1]; rfl
@[simp] theorem wcmp2 : wp Γ (.cmp2 a o1 b o2 c) ρ P = wp Γ a ρ fun x => wp Γ b ρ fun y => cmpW o1 x y fun t => if t = true then wp Γ c ρ fun z => cmpW o2 y z fun u => P (.bool u) else P (.bool false) := by rw [rw1]; rfl
@[simp] theorem wany : wp Γ (.any l) ρ P = wpOr Γ l ρ P := by rw [rw1, rw3]; rfl
@[simp] theorem wite : wp Γ (.ite c a b) ρ P = wp Γ c ρ fun x => ∃ t, truth x = some t ∧ if t = true then wp Γ a ρ P else wp Γ b ρ P := by rw [rw1]; rfl
@[simp] theorem wcall {f : Str} : wp Γ (.call f l) ρ P = wpL Γ l ρ fun ds => ∃ r, Γ f ds r ∧ P r := by rw [rw1, rw4]; rfl
@[simp] theorem wbi {f : B} : wp Γ (.bi f l) ρ P = wpL Γ l ρ fun ds => biW f ds P := by rw [rw1, rw4]; rfl
@[simp] theorem wisI : wp Γ (.isI a) ρ P = wp Γ a ρ (isIP P) := by rw [rw1]; rfl
@[simp] theorem wisB : wp Γ (.isB a) ρ P = wp Γ a ρ (isBP P) := by rw [rw1]; rfl
@[simp] theorem wlst : wp Γ (.lst l) ρ P = wpL Γ l ρ fun ds => ds.length ≤ 2 ^ 20 ∧ P (.list ds) := by rw [rw1, rw4]; rfl
@[simp] theorem wtup : wp Γ (.tup l) ρ P = wpL Γ l ρ fun ds => ds.length ≤ 2 ^ 20 ∧ P (.tup ds) := by rw [rw1, rw4]; rfl
@[simp] theorem widx : wp Γ (.idx a b) ρ P = wp Γ a ρ fun x => wp Γ b ρ fun k => idxW x k P := by rw [rw1]; rfl
@[simp] theorem wslc : wp Γ (.slc a lo hi) ρ P = wp Γ a ρ fun x => partP lo.isNil (wp Γ lo ρ) fun i => partP hi.isNil (wp Γ hi ρ) fun j => cutP i j P x := by rw [rw1]; rfl
@[simp] theorem wand : wpAnd Γ (.cons a r) ρ P = wp Γ a ρ fun d => if r.isNil = true then P d else ∃ b, truth d = some b ∧ if b = true then wpAnd Γ r ρ P else P d := by rw [rw1, rw2]; rfl
@[simp] theorem wor : wpOr Γ (.cons a r) ρ P = wp Γ a ρ fun d => if r.isNil = true then P d else ∃ b, truth d = some b ∧ if b = true then P d else wpOr Γ r ρ P := by rw [rw1, rw3]; rfl
@[simp] theorem wnil {P : List D → Prop} : wpL Γ .nil ρ P = P [] := by rw [rw4]; rfl
@[simp] theorem wcons {P : List D → Prop} : wpL Γ (.cons a r) ρ P = wp Γ a ρ fun d => wpL Γ r ρ fun ds => P (d :: ds) := by rw [rw1, rw4]; rfl
@[simp] theorem snil : wpS Γ .nil ρ Q = Q none ρ := by rw [rw5]; rfl
@[simp] theorem worc {x : Str} : wp Γ (.orc x) ρ P = ∃ r, Γ x ρ r ∧ P r := by rw [rw1]; rfl
@[simp] theorem sopq {x : Str} : wpS Γ (.opq x s) ρ Q = ∃ ρ', Γ x ρ (.list ρ') ∧ wpS Γ s ρ' Q := by rw [rw5]; rfl
@[simp] theorem srais : wpS Γ .rais ρ Q = False := by rw [rw5]; rfl
@[simp] theorem sret : wpS Γ (.ret a) ρ Q = wp Γ a ρ fun d => Q (some d) ρ := by rw [rw1, rw5]; rfl
@[simp] theorem sset : wpS Γ (.set i a s) ρ Q = wp Γ a ρ fun d => wpS Γ s (ρ.set i d) Q := by rw [rw1, rw5]; rfl
@[simp] theorem sset2 : wpS Γ (.set2 i j a s) ρ Q = wp Γ a ρ (t2P fun x y => wpS Γ s ((ρ.set i x).set j y) Q) := by rw [rw1, rw5]; rfl
@[simp] theorem saug : wpS Γ (.aug i op a s) ρ Q = (get ρ i ≠ .undef ∧ wp Γ a ρ fun d => augW op (get ρ i) d fun x => wpS Γ s (ρ.set i x) Q) := by rw [rw1, rw5]; rfl
@[simp] theorem site : wpS Γ (.ite a t e s) ρ Q = wp Γ a ρ fun d => ∃ b, truth d = some b ∧ if b = true then wpS Γ t ρ (onN (fun ρ' => wpS Γ s ρ' Q) Q) else wpS Γ e ρ (onN (fun ρ' => wpS Γ s ρ' Q) Q) := by rw [rw1, rw5]; rfl
theorem wp_mono' {e : E} {ρ : List D} {P P' : D → Prop} (h : wp Γ e ρ P) (hp : ∀ d, P d → P' d) : wp Γ e ρ P' := by rw [rw1] at *; exact wp_mono h hp
theorem whl_ok (I : Nat → List D → Prop) (n₀ : Nat) (h0 : I n₀ ρ)
    (h : ∀ n ρ', I n ρ' → wp Γ c ρ' fun d => ∃ t, truth d = some t ∧ if t = true then wpS Γ e ρ' (onN (fun ρ'' => ∃ m, m < n ∧ I m ρ'') Q) else wpS Γ s ρ' Q) : wpS Γ (.whl c e s) ρ Q := by
  rw [rw1, rw5] at *
  exact ⟨I, n₀, h0, h⟩
theorem forR_ok (a z c : Int) (hl : wpL Γ l ρ fun ds => ds = [.int z] ∧ a = 0 ∧ c = 1 ∨ ds = [.int a, .int z] ∧ c = 1 ∨ ds = [.int a, .int z, .int c])
    (hc : c ≠ 0) (hc2 : c.natAbs < 2 ^ 30) (hsm : Builtin.Range.small a z c = true) (I : Nat → List D → Prop) (h0 : I 0 ρ)
    (h : ∀ k ρ', k < cnt a z c → I k ρ' → wpS Γ e (ρ'.set i (.int (a + k * c))) (onN (fun ρ'' => I (k + 1) ρ'') Q)) (hr : ∀ ρ', I (cnt a z c) ρ' → wpS Γ s ρ' Q) : wpS Γ (.forR i l e s) ρ Q := by
  rw [rw4] at hl
  rw [rw5] at *
  refine (mono l).l ρ _ _ (fun ds hd => ?_) hl
  rcases hd with ⟨rfl, rfl, rfl⟩ | ⟨rfl, rfl⟩ | rfl <;> exact ⟨hc, hc2, hsm, I, h0, h, hr⟩
theorem forL_ok (ds : List D) (hl : wp Γ a ρ fun d => d = .list ds) (I : Nat → List D → Prop) (h0 : I 0 ρ)
    (h : ∀ (k : Nat) x ρ', ds[k]? = some x → I k ρ' → wpS Γ e (ρ'.set i x) (onN (fun ρ'' => I (k + 1) ρ'') Q)) (hr : ∀ ρ', I ds.length ρ' → wpS Γ s ρ' Q) : wpS Γ (.forL i a e s) ρ Q := by
  rw [rw1] at hl
  rw [rw5] at *
  refine wp_mono hl fun d hd => ?_
  subst hd
  exact ⟨I, h0, h, hr⟩
end

theorem callsTo_ok {prog : Program} {w : World} {hB : Heap} {mg mb : Str → Option Value} {us : List B} {N names : List Str} {Γ : Str → List D → D → Prop} {n : Nat} {f : Str} {a : Addr} {fd : FuncData} {K : Frag} {c : S} {ds : List D} {r : D}
    (KX : K.In hB) (W : Wd hB mg mb us) (hf : fnAt K f = some (a, fd)) (hchk : chkFn us N names c fd = true) (hG : ∀ f ds r, Γ f ds r → CallsTo prog w hB mg n f ds r)
    (hbind : ∀ (s : Shared) (vs : List Value), Kp hB s.heap → vs.length = names.length → BindsTo s fd ⟨vs, []⟩ (names.zip vs)) (hlen : ds.length = names.length)
    (hsp : wpS Γ c (ds ++ List.replicate (N.length - names.length) .undef) (fun o _ => o = some r)) : CallsTo prog w hB mg (n + 1) f ds r :=
  callsTo_of KX W hf hchk hG hbind hlen (by rw [rw5] at hsp; exact hsp)
theorem two_zip {names : List Str} {fd : FuncData} {x y : Str} (hn : names = [x, y]) (hb : ∀ a b, bindArgs fd ⟨[a, b], []⟩ = pure [(x, a), (y, b)]) (s : Shared) (vs : List Value) (hl : vs.length = names.length) : BindsTo s fd ⟨vs, []⟩ (names.zip vs) := by
  subst hn
  match vs, hl with
  | [a, b], _ => exact BindsTo.of_eq (hb a b)
theorem three_zip {names : List Str} {fd : FuncData} {x y z : Str} (hn : names = [x, y, z]) (hb : ∀ a b c, bindArgs fd ⟨[a, b, c], []⟩ = pure [(x, a), (y, b), (z, c)]) (s : Shared) (vs : List Value) (hl : vs.length = names.length) : BindsTo s fd ⟨vs, []⟩ (names.zip vs) := by
  subst hn
  match vs, hl with
  | [a, b, c], _ => exact BindsTo.of_eq (hb a b c)
theorem aok_law (env : Env) : AOk 20 (callerA.deeper env) := ⟨rfl, by show 1 + claimMargin + 1 + 20 < recursionLimit ∧ 4 + 3 + 3 * 20 + 200 < cLine; decide⟩
theorem AOk.le {n m : Nat} {A : Around} (h : AOk m A) (hn : n ≤ m) : AOk n A := ⟨h.1, by have := h.2; (first | (clear h; omega) | omega)⟩


/-! plain facts about whole numbers -/
theorem sqn (x : Int) : 0 ≤ x * x := by
  rcases Int.le_total 0 x with h | h
  · exact Int.mul_nonneg h h
  · exact Int.mul_nonneg_of_nonpos_of_nonpos h h

/-- the nearest whole number to a / b, of two as near the even one -/
noncomputable def divN (a b : Int) : Int := a.fdiv b + if 2 * a.fmod b + Builtin.bitAnd (a.fdiv b) 1 > b then 1 else 0

theorem half_hi {q r b : Int} (h4 : 0 ≤ r) (h5 : r < b) (h : 2 * r + q % 2 > b) : -b ≤ 2 * (r - b) ∧ 2 * (r - b) ≤ b ∧ (2 * (r - b) = b → (q + 1) % 2 = 0) ∧ (2 * (r - b) = -b → (q + 1) % 2 = 0) := by omega
theorem half_lo {q r b : Int} (h4 : 0 ≤ r) (h5 : r < b) (h : ¬ 2 * r + q % 2 > b) : -b ≤ 2 * r ∧ 2 * r ≤ b ∧ (2 * r = b → (q + 0) % 2 = 0) ∧ (2 * r = -b → (q + 0) % 2 = 0) := by omega
theorem divN_spec (a b : Int) (hb : 0 < b) : ∃ e, a = divN a b * b + e ∧ -b ≤ 2 * e ∧ 2 * e ≤ b ∧ (2 * e = b → divN a b % 2 = 0) ∧ (2 * e = -b → divN a b % 2 = 0) := by
  obtain ⟨h1, _, h3, _⟩ := fdiv_fmod_facts a b
  obtain ⟨h4, h5⟩ := h3 hb
  unfold divN
  rw [PyProof.Rows.bitAnd_m1]
  generalize hq : a.fdiv b = q at *
  generalize hr : a.fmod b = r at *
  clear h3 hq hr
  split
  · rename_i h
    obtain ⟨a1, a2, a3, a4⟩ := half_hi h4 h5 h
    exact ⟨r - b, by rw [← h1]; (first | (clear hb h4 h5 h1 h a1 a2 a3 a4; grind) | grind), a1, a2, a3, a4⟩
  · rename_i h
    obtain ⟨a1, a2, a3, a4⟩ := half_lo h4 h5 h
    exact ⟨r, by rw [← h1]; (first | (clear hb h4 h5 h1 h a1 a2 a3 a4; grind) | grind), a1, a2, a3, a4⟩


/-- small enough to be a factor -/
noncomputable def Sm (a : Int) : Prop := Builtin.Int.intBits a ≤ 60000000
theorem Sm.mul {a b : Int} (ha : Sm a) (hb : Sm b) : IntMulOk a b := mulOk_of_bits ha hb (by decide)
theorem Sm.of {a : Int} (k : Nat) (h : a.natAbs < 2 ^ k) (hk : k ≤ 60000000 := by decide) : Sm a := Nat.le_trans (intBits_le h) hk
theorem lg {b : Int} (k : Nat) (h : b.natAbs < 2 ^ k) (hk : k ≤ 9000 := by decide) : b.natAbs.log2 < 9000 := by
  by_cases h0 : b.natAbs = 0
  · rw [h0]; decide
  · exact Nat.lt_of_lt_of_le ((Nat.log2_lt h0).mpr h) hk
theorem mul2 {a : Int} : IntMulOk 2 a := .of_left (by decide)
theorem bigger {x : Nat} (k m : Nat) (h : x < 2 ^ k) (hk : k ≤ m := by decide) : x < 2 ^ m := Nat.lt_of_lt_of_le h (Nat.pow_le_pow_right (by decide) hk)

noncomputable def n_divnearest : List Str := ["a", "b", "q", "r"]
noncomputable def p_divnearest : List Str := ["a", "b"]
noncomputable def u_divnearest : List B := [.divmod]
noncomputable def s_divnearest : S :=
  (.set2 2 3 (.bi .divmod (.cons (.var 0) (.cons (.var 1) .nil)))
  (.ret (.bin .Add (.var 2) (.cmp .Gt (.bin .Add (.bin .Mult (.lit 2) (.var 3)) (.bin .BitAnd (.var 2) (.lit 1))) (.var 1)))))

theorem div_body {Γ : Str → List D → D → Prop} (a b : Int) (hb : 0 < b) (hs : b.natAbs.log2 < 9000) :
    wpS Γ s_divnearest [.int a, .int b, .undef, .undef] (fun o _ => o = some (.int (divN a b))) := by
  have hb0 : b ≠ 0 := by (first | (clear hs; omega) | omega)
  simp [s_divnearest, hb0, hs, mul2, divN]

theorem cut_to (l : List D) (k : Nat) : cut l none (some (k : Int)) = l.take k := by
  unfold cut
  simp only [Option.elim, clipAt_nat, List.drop_zero, Nat.sub_zero]
  rw [List.take_eq_take_iff]; omega
theorem cut_both (l : List D) (j k : Nat) (hjk : j ≤ k) : cut l (some (j : Int)) (some (k : Int)) = (l.drop j).take (k - j) := by
  unfold cut
  simp only [Option.elim, clipAt_nat]
  rcases Nat.le_total j l.length with h | h
  · rw [Nat.min_eq_left h]
    rcases Nat.le_total k l.length with h2 | h2
    · rw [Nat.min_eq_left h2]
    · rw [Nat.min_eq_right h2, List.take_of_length_le (by rw [List.length_drop]; exact Nat.le_refl _), List.take_of_length_le (by rw [List.length_drop]; exact Nat.sub_le_sub_right h2 _)]
  · rw [Nat.min_eq_right h, Nat.min_eq_right (Nat.le_trans h hjk), List.drop_length, List.drop_of_length_le h, List.take_nil, List.take_nil]
theorem idxI {row : List Int} {k : Int} {P : D → Prop} (h0 : 0 ≤ k) (h1 : k < row.length) (hl : row.length < 2 ^ 60) (h : P (.int (row.getD k.toNat 0))) : idxW (.list (row.map .int)) (.int k) P := by
  have hk : ¬ k < 0 := by (first | (clear h1 hl h; omega) | omega)
  have hlt : k.toNat < row.length := by (first | (clear h hk; omega) | omega)
  unfold idxW
  simp only [intP, tlP]
  refine ⟨by (first | (clear h1 hl h hk hlt; omega) | omega), by (first | (clear h0 h hk hlt; omega) | omega), .int (row.getD k.toNat 0), ?_, ?_, h⟩
  · rw [if_neg hk]; simp [List.getD, hlt]
  · rw [if_neg hk]; exact h0
theorem small_gen {a z c : Int} (ha : -(2 ^ 60) ≤ a) (ha' : a ≤ 2 ^ 60) (hz : -(2 ^ 60) ≤ z) (hz' : z ≤ 2 ^ 60) (hc : c ≠ 0) (hc2 : c.natAbs < 2 ^ 30) : Builtin.Range.small a z c = true := by
  have hs : Builtin.Range.rangeSize a z c ≤ 2 ^ 62 := by
    unfold Builtin.Range.rangeSize
    split
    · split
      · have := Int.ediv_le_self (a := z - a - 1) c (by first | with_reducible assumption | with_reducible exact Int.le_of_lt (by assumption) | with_reducible exact Nat.le_of_lt (by assumption) | with_reducible exact qz1 (by assumption) | with_reducible exact qz2 (by assumption) | with_reducible exact qz3 (by assumption) | with_reducible exact qz4 (by assumption) | with_reducible exact qz5 (by assumption) | with_reducible exact qz6 (by assumption) | with_reducible exact qz7 (by assumption) | with_reducible exact qz8 (by assumption) | with_reducible exact qz9 (by assumption) | with_reducible exact qza (by assumption) | with_reducible exact qzb (by assumption) | with_reducible exact qzc | with_reducible exact qzd | with_reducible exact qze | (first | (clear ha ha' hz hz' hc hc2; omega) | omega))
        (first | (clear hc hc2; omega) | omega)
      · decide
    · split
      · have := Int.ediv_le_self (a := a - z - 1) (-c) (by first | with_reducible assumption | with_reducible exact Int.le_of_lt (by assumption) | with_reducible exact Nat.le_of_lt (by assumption) | with_reducible exact qz1 (by assumption) | with_reducible exact qz2 (by assumption) | with_reducible exact qz3 (by assumption) | with_reducible exact qz4 (by assumption) | with_reducible exact qz5 (by assumption) | with_reducible exact qz6 (by assumption) | with_reducible exact qz7 (by assumption) | with_reducible exact qz8 (by assumption) | with_reducible exact qz9 (by assumption) | with_reducible exact qza (by assumption) | with_reducible exact qzb (by assumption) | with_reducible exact qzc | with_reducible exact qzd | with_reducible exact qze | (first | (clear ha ha' hz hz' hc hc2; omega) | omega))
        (first | (clear hc hc2; omega) | omega)
      · decide
  have hs0 := rangeSize_nonneg a z c
  unfold Builtin.Range.small Builtin.Range.rangeFitsLong
  generalize Builtin.Range.rangeSize a z c = q at *
  simp only [Bool.and_eq_true, Bool.or_eq_true, decide_eq_true_eq, beq_iff_eq]
  refine ⟨⟨⟨⟨by (first | (clear hz hz' hc hc2 hs hs0; omega) | omega), by (first | (clear ha ha' hc hc2 hs hs0; omega) | omega)⟩, by (first | (clear ha ha' hz hz' hc hs hs0; omega) | omega)⟩, by (first | (clear ha ha' hz hz' hc hc2; omega) | omega)⟩, .inr ?_⟩
  split <;> simp only [Bool.and_eq_true, decide_eq_true_eq] <;> (first | (clear ha ha' hc hs hs0; omega) | omega)
theorem ipow_le {c : Int} (hc : 1 ≤ c) {a b : Nat} (h : a ≤ b) : c ^ a ≤ c ^ b := by
  obtain ⟨d, rfl⟩ := Nat.exists_eq_add_of_le h
  rw [Int.pow_add]
  have h1 : 0 < c ^ a := Int.pow_pos (by first | with_reducible assumption | with_reducible exact Int.le_of_lt (by assumption) | with_reducible exact Nat.le_of_lt (by assumption) | with_reducible exact qz1 (by assumption) | with_reducible exact qz2 (by assumption) | with_reducible exact qz3 (by assumption) | with_reducible exact qz4 (by assumption) | with_reducible exact qz5 (by assumption) | with_reducible exact qz6 (by assumption) | with_reducible exact qz7 (by assumption) | with_reducible exact qz8 (by assumption) | with_reducible exact qz9 (by assumption) | with_reducible exact qza (by assumption) | with_reducible exact qzb (by assumption) | with_reducible exact qzc | with_reducible exact qzd | with_reducible exact qze | (first | (clear h; omega) | omega))
  have h2 : 0 < c ^ d := Int.pow_pos (by first | with_reducible assumption | with_reducible exact Int.le_of_lt (by assumption) | with_reducible exact Nat.le_of_lt (by assumption) | with_reducible exact qz1 (by assumption) | with_reducible exact qz2 (by assumption) | with_reducible exact qz3 (by assumption) | with_reducible exact qz4 (by assumption) | with_reducible exact qz5 (by assumption) | with_reducible exact qz6 (by assumption) | with_reducible exact qz7 (by assumption) | with_reducible exact qz8 (by assumption) | with_reducible exact qz9 (by assumption) | with_reducible exact qza (by assumption) | with_reducible exact qzb (by assumption) | with_reducible exact qzc | with_reducible exact qzd | with_reducible exact qze | (first | (clear h h1; omega) | omega))
  have := Int.mul_le_mul_of_nonneg_left (show 1 ≤ c ^ d by first | with_reducible assumption | with_reducible exact Int.le_of_lt (by assumption) | with_reducible exact Nat.le_of_lt (by assumption) | with_reducible exact qz1 (by assumption) | with_reducible exact qz2 (by assumption) | with_reducible exact qz3 (by assumption) | with_reducible exact qz4 (by assumption) | with_reducible exact qz5 (by assumption) | with_reducible exact qz6 (by assumption) | with_reducible exact qz7 (by assumption) | with_reducible exact qz8 (by assumption) | with_reducible exact qz9 (by assumption) | with_reducible exact qza (by assumption) | with_reducible exact qzb (by assumption) | with_reducible exact qzc | with_reducible exact qzd | with_reducible exact qze | (first | (clear hc h h1; omega) | omega)) (show 0 ≤ c ^ a by first | with_reducible assumption | with_reducible exact Int.le_of_lt (by assumption) | with_reducible exact Nat.le_of_lt (by assumption) | with_reducible exact qz1 (by assumption) | with_reducible exact qz2 (by assumption) | with_reducible exact qz3 (by assumption) | with_reducible exact qz4 (by assumption) | with_reducible exact qz5 (by assumption) | with_reducible exact qz6 (by assumption) | with_reducible exact qz7 (by assumption) | with_reducible exact qz8 (by assumption) | with_reducible exact qz9 (by assumption) | with_reducible exact qza (by assumption) | with_reducible exact qzb (by assumption) | with_reducible exact qzc | with_reducible exact qzd | with_reducible exact qze | omega)
  (first | (clear hc h h1 h2; omega) | omega)
/-! what _iexp computes -/
noncomputable def figs (M : Int) : Nat := (Str.ofString (toString M)).length
theorem figs_of {c e : Nat} (h1 : 10 ^ e ≤ c) (h2 : c < 10 ^ (e + 1)) : figs (c : Int) = e + 1 := by
  unfold figs
  have : Str.ofString (toString (c : Int)) = ⟨((Nat.toDigits 10 c).map Char.toNat).toArray⟩ := text_ofNat c
  rw [this]
  show (((Nat.toDigits 10 c).map Char.toNat).toArray).size = e + 1
  rw [List.size_toArray, List.length_map]
  exact Nat.le_antisymm (digits10_le (by first | with_reducible assumption | with_reducible exact Int.le_of_lt (by assumption) | with_reducible exact Nat.le_of_lt (by assumption) | with_reducible exact qz1 (by assumption) | with_reducible exact qz2 (by assumption) | with_reducible exact qz3 (by assumption) | with_reducible exact qz4 (by assumption) | with_reducible exact qz5 (by assumption) | with_reducible exact qz6 (by assumption) | with_reducible exact qz7 (by assumption) | with_reducible exact qz8 (by assumption) | with_reducible exact qz9 (by assumption) | with_reducible exact qza (by assumption) | with_reducible exact qzb (by assumption) | with_reducible exact qzc | with_reducible exact qzd | with_reducible exact qze | (first | (clear h1 h2 this; omega) | omega)) h2) (digits10_ge h1)
theorem pow10_ex (c : Nat) (hc : 0 < c) : ∃ e, 10 ^ e ≤ c ∧ c < 10 ^ (e + 1) := by
  induction c using Nat.strongRecOn with
  | _ c ih =>
    by_cases h : c < 10
    · exact ⟨0, by simp; (first | (clear ih; omega) | omega), by simpa using h⟩
    · obtain ⟨e, h1, h2⟩ := ih (c / 10) (by first | with_reducible assumption | with_reducible exact Int.le_of_lt (by assumption) | with_reducible exact Nat.le_of_lt (by assumption) | with_reducible exact qz1 (by assumption) | with_reducible exact qz2 (by assumption) | with_reducible exact qz3 (by assumption) | with_reducible exact qz4 (by assumption) | with_reducible exact qz5 (by assumption) | with_reducible exact qz6 (by assumption) | with_reducible exact qz7 (by assumption) | with_reducible exact qz8 (by assumption) | with_reducible exact qz9 (by assumption) | with_reducible exact qza (by assumption) | with_reducible exact qzb (by assumption) | with_reducible exact qzc | with_reducible exact qzd | with_reducible exact qze | (first | (clear ih hc; omega) | omega)) (by first | with_reducible assumption | with_reducible exact Int.le_of_lt (by assumption) | with_reducible exact Nat.le_of_lt (by assumption) | with_reducible exact qz1 (by assumption) | with_reducible exact qz2 (by assumption) | with_reducible exact qz3 (by assumption) | with_reducible exact qz4 (by assumption) | with_reducible exact qz5 (by assumption) | with_reducible exact qz6 (by assumption) | with_reducible exact qz7 (by assumption) | with_reducible exact qz8 (by assumption) | with_reducible exact qz9 (by assumption) | with_reducible exact qza (by assumption) | with_reducible exact qzb (by assumption) | with_reducible exact qzc | with_reducible exact qzd | with_reducible exact qze | (first | (clear ih hc; omega) | omega))
      refine ⟨e + 1, ?_, ?_⟩
      · rw [Nat.pow_succ]; (first | (clear ih hc h h2; omega) | omega)
      · rw [Nat.pow_succ]; (first | (clear ih hc h h1; omega) | omega)
theorem figs_ex {M : Int} (hM : 0 < M) : ∃ e : Nat, figs M = e + 1 ∧ (10 : Int) ^ e ≤ M ∧ M < 10 ^ (e + 1) := by
  obtain ⟨c, rfl⟩ := Int.eq_ofNat_of_zero_le (show 0 ≤ M by first | with_reducible assumption | with_reducible exact Int.le_of_lt (by assumption) | with_reducible exact Nat.le_of_lt (by assumption) | with_reducible exact qz1 (by assumption) | with_reducible exact qz2 (by assumption) | with_reducible exact qz3 (by assumption) | with_reducible exact qz4 (by assumption) | with_reducible exact qz5 (by assumption) | with_reducible exact qz6 (by assumption) | with_reducible exact qz7 (by assumption) | with_reducible exact qz8 (by assumption) | with_reducible exact qz9 (by assumption) | with_reducible exact qza (by assumption) | with_reducible exact qzb (by assumption) | with_reducible exact qzc | with_reducible exact qzd | with_reducible exact qze | omega)
  obtain ⟨e, h1, h2⟩ := pow10_ex c (by first | with_reducible assumption | with_reducible exact Int.le_of_lt (by assumption) | with_reducible exact Nat.le_of_lt (by assumption) | with_reducible exact qz1 (by assumption) | with_reducible exact qz2 (by assumption) | with_reducible exact qz3 (by assumption) | with_reducible exact qz4 (by assumption) | with_reducible exact qz5 (by assumption) | with_reducible exact qz6 (by assumption) | with_reducible exact qz7 (by assumption) | with_reducible exact qz8 (by assumption) | with_reducible exact qz9 (by assumption) | with_reducible exact qza (by assumption) | with_reducible exact qzb (by assumption) | with_reducible exact qzc | with_reducible exact qzd | with_reducible exact qze | omega)
  refine ⟨e, figs_of h1 h2, ?_, ?_⟩
  · exact_mod_cast h1
  · exact_mod_cast h2
theorem figs_le {M : Int} {k : Nat} (hM : 0 < M) (h : M < 10 ^ k) : figs M ≤ k := by
  obtain ⟨e, h1, h2, _⟩ := figs_ex hM
  rw [h1]
  refine Nat.not_lt.mp fun hlt => ?_
  have : (10 : Int) ^ k ≤ 10 ^ e := ipow_le (by decide) (by first | with_reducible assumption | with_reducible exact Int.le_of_lt (by assumption) | with_reducible exact Nat.le_of_lt (by assumption) | with_reducible exact qz1 (by assumption) | with_reducible exact qz2 (by assumption) | with_reducible exact qz3 (by assumption) | with_reducible exact qz4 (by assumption) | with_reducible exact qz5 (by assumption) | with_reducible exact qz6 (by assumption) | with_reducible exact qz7 (by assumption) | with_reducible exact qz8 (by assumption) | with_reducible exact qz9 (by assumption) | with_reducible exact qza (by assumption) | with_reducible exact qzb (by assumption) | with_reducible exact qzc | with_reducible exact qzd | with_reducible exact qze | (first | (clear hM h h1 h2; omega) | omega))
  (first | (clear hM h1 hlt; omega) | omega)

noncomputable def nR (x M L : Int) : Nat := Builtin.Int.intBits ((x * 2 ^ L.toNat).fdiv M)
noncomputable def nT (M L : Int) : Int := -((-10 * (figs M : Int)).fdiv (3 * L))
noncomputable def ser (x S : Int) : Nat → Int → Int
  | 0, y => y
  | n + 1, y => ser x S n (divN (x * (S + y)) (S * ((n : Int) + 1)))
noncomputable def dbl (M : Int) : Nat → Int → Int
  | 0, y => y
  | n + 1, y => dbl M n (divN (y * (y + M * 2 ^ (n + 2))) (M * 2 ^ (n + 2)))
noncomputable def iexp (x M L : Int) : Int := M + dbl M (nR x M L) (ser x (M * 2 ^ nR x M L) (nT M L - 1).toNat (divN x (nT M L)))

theorem p2pos (n : Nat) : (0 : Int) < 2 ^ n := Int.pow_pos (by decide)

theorem nT_facts {M L : Int} (hM : 0 < M) (hL : 1 ≤ L) : 1 ≤ nT M L ∧ 10 * (figs M : Int) ≤ nT M L * (3 * L) ∧ (nT M L - 1) * (3 * L) < 10 * (figs M : Int) := by
  obtain ⟨h1, _, h3, _⟩ := fdiv_fmod_facts (-10 * (figs M : Int)) (3 * L)
  obtain ⟨h4, h5⟩ := h3 (by first | with_reducible assumption | with_reducible exact Int.le_of_lt (by assumption) | with_reducible exact Nat.le_of_lt (by assumption) | with_reducible exact qz1 (by assumption) | with_reducible exact qz2 (by assumption) | with_reducible exact qz3 (by assumption) | with_reducible exact qz4 (by assumption) | with_reducible exact qz5 (by assumption) | with_reducible exact qz6 (by assumption) | with_reducible exact qz7 (by assumption) | with_reducible exact qz8 (by assumption) | with_reducible exact qz9 (by assumption) | with_reducible exact qza (by assumption) | with_reducible exact qzb (by assumption) | with_reducible exact qzc | with_reducible exact qzd | with_reducible exact qze | (first | (clear hM h1 h3; omega) | omega))
  obtain ⟨e, he, _, _⟩ := figs_ex hM
  unfold nT
  generalize (-10 * (figs M : Int)).fdiv (3 * L) = q at *
  generalize (-10 * (figs M : Int)).fmod (3 * L) = r at *
  have hq : -q * (3 * L) = 10 * (figs M : Int) + r := by (first | (clear hM hL h3 h4 h5; grind) | grind)
  refine ⟨?_, by (first | (clear hM hL h3 h5; omega) | omega), by (first | (clear hM h4 h5 hq; grind) | grind)⟩
  refine Int.not_lt.mp fun hlt => ?_
  have : -q * (3 * L) ≤ 0 := Int.mul_nonpos_of_nonpos_of_nonneg (by first | with_reducible assumption | with_reducible exact Int.le_of_lt (by assumption) | with_reducible exact Nat.le_of_lt (by assumption) | with_reducible exact qz1 (by assumption) | with_reducible exact qz2 (by assumption) | with_reducible exact qz3 (by assumption) | with_reducible exact qz4 (by assumption) | with_reducible exact qz5 (by assumption) | with_reducible exact qz6 (by assumption) | with_reducible exact qz7 (by assumption) | with_reducible exact qz8 (by assumption) | with_reducible exact qz9 (by assumption) | with_reducible exact qza (by assumption) | with_reducible exact qzb (by assumption) | with_reducible exact qzc | with_reducible exact qzd | with_reducible exact qze | (first | (clear hM hL he h3 h4 h5 h1 hq; omega) | omega)) (by first | with_reducible assumption | with_reducible exact Int.le_of_lt (by assumption) | with_reducible exact Nat.le_of_lt (by assumption) | with_reducible exact qz1 (by assumption) | with_reducible exact qz2 (by assumption) | with_reducible exact qz3 (by assumption) | with_reducible exact qz4 (by assumption) | with_reducible exact qz5 (by assumption) | with_reducible exact qz6 (by assumption) | with_reducible exact qz7 (by assumption) | with_reducible exact qz8 (by assumption) | with_reducible exact qz9 (by assumption) | with_reducible exact qza (by assumption) | with_reducible exact qzb (by assumption) | with_reducible exact qzc | with_reducible exact qzd | with_reducible exact qze | (first | (clear hM he h3 h4 h5 h1 hq hlt; omega) | omega))
  (first | (clear hM hL h3 h5 hlt; omega) | omega)
theorem nT_le {M L : Int} {k : Nat} (hM : 0 < M) (hL : 1 ≤ L) (hk : M < 10 ^ k) : nT M L ≤ 4 * k + 1 := by
  obtain ⟨h1, h2, h3⟩ := nT_facts hM hL
  have := figs_le hM hk
  have h4 : (nT M L - 1) * 3 ≤ (nT M L - 1) * (3 * L) := Int.mul_le_mul_of_nonneg_left (by first | with_reducible assumption | with_reducible exact Int.le_of_lt (by assumption) | with_reducible exact Nat.le_of_lt (by assumption) | with_reducible exact qz1 (by assumption) | with_reducible exact qz2 (by assumption) | with_reducible exact qz3 (by assumption) | with_reducible exact qz4 (by assumption) | with_reducible exact qz5 (by assumption) | with_reducible exact qz6 (by assumption) | with_reducible exact qz7 (by assumption) | with_reducible exact qz8 (by assumption) | with_reducible exact qz9 (by assumption) | with_reducible exact qza (by assumption) | with_reducible exact qzb (by assumption) | with_reducible exact qzc | with_reducible exact qzd | with_reducible exact qze | (first | (clear hM hk h1 h2 h3 this; omega) | omega)) (by first | with_reducible assumption | with_reducible exact Int.le_of_lt (by assumption) | with_reducible exact Nat.le_of_lt (by assumption) | with_reducible exact qz1 (by assumption) | with_reducible exact qz2 (by assumption) | with_reducible exact qz3 (by assumption) | with_reducible exact qz4 (by assumption) | with_reducible exact qz5 (by assumption) | with_reducible exact qz6 (by assumption) | with_reducible exact qz7 (by assumption) | with_reducible exact qz8 (by assumption) | with_reducible exact qz9 (by assumption) | with_reducible exact qza (by assumption) | with_reducible exact qzb (by assumption) | with_reducible exact qzc | with_reducible exact qzd | with_reducible exact qze | (first | (clear hM hL hk h2 h3 this; omega) | omega))
  (first | (clear hM hL hk h1 h2; omega) | omega)

/-- the doublings' number: from where on the scale is great enough -/
theorem nR_facts {x M L : Int} (hM : 0 < M) :
    x.natAbs * 2 ^ L.toNat + (if x < 0 then M else 1) ≤ M * 2 ^ nR x M L ∧ ∀ j < nR x M L, M * 2 ^ j < x.natAbs * 2 ^ L.toNat + (if x < 0 then M else 1) := by
  obtain ⟨h1, _, h3, _⟩ := fdiv_fmod_facts (x * 2 ^ L.toNat) M
  obtain ⟨h4, h5⟩ := h3 hM
  have hp := p2pos L.toNat
  have hr : ∀ m, nR x M L ≤ m ↔ ((x * 2 ^ L.toNat).fdiv M).natAbs < 2 ^ m := fun m => intBits_le_iff
  have key : ∀ m : Nat, ((x * 2 ^ L.toNat).fdiv M).natAbs < 2 ^ m ↔ x.natAbs * 2 ^ L.toNat + (if x < 0 then M else 1) ≤ M * 2 ^ m := by
    intro m
    generalize (x * 2 ^ L.toNat).fdiv M = q at *
    generalize (x * 2 ^ L.toNat).fmod M = r at *
    generalize (2 : Int) ^ L.toNat = p at *
    have e2 : ((2 ^ m : Nat) : Int) = 2 ^ m := by norm_cast
    have hlt : q.natAbs < 2 ^ m ↔ (q.natAbs : Int) < 2 ^ m := by rw [← e2]; (first | (clear hM hr h3 h4 h5 hp h1; omega) | omega)
    rw [hlt]
    have hpm := p2pos m
    generalize (2 : Int) ^ m = P at *
    by_cases hx : x < 0
    · rw [if_pos hx]
      have e1 : (x.natAbs : Int) = -x := by (first | (clear hM hr h3 h4 h5 hp h1 e2 hlt hpm; omega) | omega)
      rw [e1]
      have hq : q ≤ 0 := by
        refine Int.not_lt.mp fun hlt => ?_
        have : 0 < q * M := Int.mul_pos hlt hM
        have : x * p < 0 := Int.mul_neg_of_neg_of_pos hx hp
        (first | (clear hM hr h3 h5 hp e2 hpm hx e1 hlt; omega) | omega)
      have e3 : (q.natAbs : Int) = -q := by (first | (clear hM hr h3 h4 h5 hp h1 e2 hlt hpm hx e1; omega) | omega)
      rw [e3]
      have e4 : -x * p = -q * M - r := by (first | (clear hM hr h3 h4 h5 hp e2 hlt hpm hx e1 hq e3; grind) | grind)
      rw [e4]
      constructor
      · intro h
        have : (-q + 1) * M ≤ P * M := Int.mul_le_mul_of_nonneg_right (by first | with_reducible assumption | with_reducible exact Int.le_of_lt (by assumption) | with_reducible exact Nat.le_of_lt (by assumption) | with_reducible exact qz1 (by assumption) | with_reducible exact qz2 (by assumption) | with_reducible exact qz3 (by assumption) | with_reducible exact qz4 (by assumption) | with_reducible exact qz5 (by assumption) | with_reducible exact qz6 (by assumption) | with_reducible exact qz7 (by assumption) | with_reducible exact qz8 (by assumption) | with_reducible exact qz9 (by assumption) | with_reducible exact qza (by assumption) | with_reducible exact qzb (by assumption) | with_reducible exact qzc | with_reducible exact qzd | with_reducible exact qze | (first | (clear hM hr h3 h4 h5 hp h1 e2 hlt hpm hx e1 hq e4; omega) | omega)) (by first | with_reducible assumption | with_reducible exact Int.le_of_lt (by assumption) | with_reducible exact Nat.le_of_lt (by assumption) | with_reducible exact qz1 (by assumption) | with_reducible exact qz2 (by assumption) | with_reducible exact qz3 (by assumption) | with_reducible exact qz4 (by assumption) | with_reducible exact qz5 (by assumption) | with_reducible exact qz6 (by assumption) | with_reducible exact qz7 (by assumption) | with_reducible exact qz8 (by assumption) | with_reducible exact qz9 (by assumption) | with_reducible exact qza (by assumption) | with_reducible exact qzb (by assumption) | with_reducible exact qzc | with_reducible exact qzd | with_reducible exact qze | omega)
        (first | (clear hr h4 h5 hp e2 hlt hpm hx e1 hq e3 e4 h; grind) | grind)
      · intro h
        refine Int.not_le.mp fun hle => ?_
        have : P * M ≤ -q * M := Int.mul_le_mul_of_nonneg_right hle (by first | with_reducible assumption | with_reducible exact Int.le_of_lt (by assumption) | with_reducible exact Nat.le_of_lt (by assumption) | with_reducible exact qz1 (by assumption) | with_reducible exact qz2 (by assumption) | with_reducible exact qz3 (by assumption) | with_reducible exact qz4 (by assumption) | with_reducible exact qz5 (by assumption) | with_reducible exact qz6 (by assumption) | with_reducible exact qz7 (by assumption) | with_reducible exact qz8 (by assumption) | with_reducible exact qz9 (by assumption) | with_reducible exact qza (by assumption) | with_reducible exact qzb (by assumption) | with_reducible exact qzc | with_reducible exact qzd | with_reducible exact qze | omega)
        (first | (clear hr h4 h5 hp e2 hlt hpm hx e1 hq e3 e4 hle; grind) | grind)
    · rw [if_neg hx]
      have e1 : (x.natAbs : Int) = x := by (first | (clear hM hr h3 h4 h5 hp h1 e2 hlt hpm; omega) | omega)
      rw [e1]
      have hq : 0 ≤ q := by
        refine Int.not_lt.mp fun hlt => ?_
        have : (q + 1) * M ≤ 0 := Int.mul_nonpos_of_nonpos_of_nonneg (by first | with_reducible assumption | with_reducible exact Int.le_of_lt (by assumption) | with_reducible exact Nat.le_of_lt (by assumption) | with_reducible exact qz1 (by assumption) | with_reducible exact qz2 (by assumption) | with_reducible exact qz3 (by assumption) | with_reducible exact qz4 (by assumption) | with_reducible exact qz5 (by assumption) | with_reducible exact qz6 (by assumption) | with_reducible exact qz7 (by assumption) | with_reducible exact qz8 (by assumption) | with_reducible exact qz9 (by assumption) | with_reducible exact qza (by assumption) | with_reducible exact qzb (by assumption) | with_reducible exact qzc | with_reducible exact qzd | with_reducible exact qze | (first | (clear hM hr h3 h4 h5 hp h1 e2 hpm hx e1; omega) | omega)) (by first | with_reducible assumption | with_reducible exact Int.le_of_lt (by assumption) | with_reducible exact Nat.le_of_lt (by assumption) | with_reducible exact qz1 (by assumption) | with_reducible exact qz2 (by assumption) | with_reducible exact qz3 (by assumption) | with_reducible exact qz4 (by assumption) | with_reducible exact qz5 (by assumption) | with_reducible exact qz6 (by assumption) | with_reducible exact qz7 (by assumption) | with_reducible exact qz8 (by assumption) | with_reducible exact qz9 (by assumption) | with_reducible exact qza (by assumption) | with_reducible exact qzb (by assumption) | with_reducible exact qzc | with_reducible exact qzd | with_reducible exact qze | omega)
        have : 0 ≤ x * p := Int.mul_nonneg (by first | with_reducible assumption | with_reducible exact Int.le_of_lt (by assumption) | with_reducible exact Nat.le_of_lt (by assumption) | with_reducible exact qz1 (by assumption) | with_reducible exact qz2 (by assumption) | with_reducible exact qz3 (by assumption) | with_reducible exact qz4 (by assumption) | with_reducible exact qz5 (by assumption) | with_reducible exact qz6 (by assumption) | with_reducible exact qz7 (by assumption) | with_reducible exact qz8 (by assumption) | with_reducible exact qz9 (by assumption) | with_reducible exact qza (by assumption) | with_reducible exact qzb (by assumption) | with_reducible exact qzc | with_reducible exact qzd | with_reducible exact qze | (first | (clear hM hr h3 h4 h5 hp h1 e2 hpm hlt this; omega) | omega)) (by first | with_reducible assumption | with_reducible exact Int.le_of_lt (by assumption) | with_reducible exact Nat.le_of_lt (by assumption) | with_reducible exact qz1 (by assumption) | with_reducible exact qz2 (by assumption) | with_reducible exact qz3 (by assumption) | with_reducible exact qz4 (by assumption) | with_reducible exact qz5 (by assumption) | with_reducible exact qz6 (by assumption) | with_reducible exact qz7 (by assumption) | with_reducible exact qz8 (by assumption) | with_reducible exact qz9 (by assumption) | with_reducible exact qza (by assumption) | with_reducible exact qzb (by assumption) | with_reducible exact qzc | with_reducible exact qzd | with_reducible exact qze | omega)
        (first | (clear hr h4 h5 hp e2 hpm hx e1 hlt; grind) | grind)
      have e3 : (q.natAbs : Int) = q := by (first | (clear hM hr h3 h4 h5 hp h1 e2 hlt hpm hx e1; omega) | omega)
      rw [e3]
      constructor
      · intro h
        have : (q + 1) * M ≤ P * M := Int.mul_le_mul_of_nonneg_right (by first | with_reducible assumption | with_reducible exact Int.le_of_lt (by assumption) | with_reducible exact Nat.le_of_lt (by assumption) | with_reducible exact qz1 (by assumption) | with_reducible exact qz2 (by assumption) | with_reducible exact qz3 (by assumption) | with_reducible exact qz4 (by assumption) | with_reducible exact qz5 (by assumption) | with_reducible exact qz6 (by assumption) | with_reducible exact qz7 (by assumption) | with_reducible exact qz8 (by assumption) | with_reducible exact qz9 (by assumption) | with_reducible exact qza (by assumption) | with_reducible exact qzb (by assumption) | with_reducible exact qzc | with_reducible exact qzd | with_reducible exact qze | (first | (clear hM hr h3 h4 h5 hp h1 e2 hlt hpm hx e1 hq; omega) | omega)) (by first | with_reducible assumption | with_reducible exact Int.le_of_lt (by assumption) | with_reducible exact Nat.le_of_lt (by assumption) | with_reducible exact qz1 (by assumption) | with_reducible exact qz2 (by assumption) | with_reducible exact qz3 (by assumption) | with_reducible exact qz4 (by assumption) | with_reducible exact qz5 (by assumption) | with_reducible exact qz6 (by assumption) | with_reducible exact qz7 (by assumption) | with_reducible exact qz8 (by assumption) | with_reducible exact qz9 (by assumption) | with_reducible exact qza (by assumption) | with_reducible exact qzb (by assumption) | with_reducible exact qzc | with_reducible exact qzd | with_reducible exact qze | omega)
        (first | (clear hr h4 h5 hp e2 hlt hpm hx e1 hq e3 h; grind) | grind)
      · intro h
        refine Int.not_le.mp fun hle => ?_
        have : P * M ≤ q * M := Int.mul_le_mul_of_nonneg_right hle (by first | with_reducible assumption | with_reducible exact Int.le_of_lt (by assumption) | with_reducible exact Nat.le_of_lt (by assumption) | with_reducible exact qz1 (by assumption) | with_reducible exact qz2 (by assumption) | with_reducible exact qz3 (by assumption) | with_reducible exact qz4 (by assumption) | with_reducible exact qz5 (by assumption) | with_reducible exact qz6 (by assumption) | with_reducible exact qz7 (by assumption) | with_reducible exact qz8 (by assumption) | with_reducible exact qz9 (by assumption) | with_reducible exact qza (by assumption) | with_reducible exact qzb (by assumption) | with_reducible exact qzc | with_reducible exact qzd | with_reducible exact qze | omega)
        (first | (clear hr h4 h5 hp e2 hlt hpm hx e1 hq e3 hle; grind) | grind)
  refine ⟨(key _).mp ((hr _).mp (Nat.le_refl _)), fun j hj => ?_⟩
  refine Int.not_le.mp fun hle => ?_
  have := (hr j).mpr ((key j).mpr hle)
  (first | (clear hM h1 h3 h4 h5 hp hr key hle; omega) | omega)
/-- a lies within b of nought -/
noncomputable def Wi (a b : Rat) : Prop := -b ≤ a ∧ a ≤ b
theorem Wi.mul {a b c e : Rat} (h : Wi a b) (k : Wi c e) : Wi (a * c) (b * e) := by
  obtain ⟨h1, h2⟩ := h
  obtain ⟨k1, k2⟩ := k
  have x1 := Rat.mul_nonneg (show 0 ≤ b - a by (first | (clear h1 k1 k2; grind) | grind)) (show 0 ≤ e - c by (first | (clear h1 h2 k1; grind) | grind))
  have x2 := Rat.mul_nonneg (show 0 ≤ b + a by (first | (clear h2 k1 k2 x1; grind) | grind)) (show 0 ≤ e + c by (first | (clear h1 h2 k2 x1; grind) | grind))
  have x3 := Rat.mul_nonneg (show 0 ≤ b - a by (first | (clear h1 k1 k2 x1 x2; grind) | grind)) (show 0 ≤ e + c by (first | (clear h1 h2 k2 x1 x2; grind) | grind))
  have x4 := Rat.mul_nonneg (show 0 ≤ b + a by (first | (clear h2 k1 k2 x1 x2 x3; grind) | grind)) (show 0 ≤ e - c by (first | (clear h1 h2 k1 x1 x2 x3; grind) | grind))
  constructor <;> (first | (clear h1 h2 k1 k2; grind) | grind)
theorem Wi.add {a b c e : Rat} (h : Wi a b) (k : Wi c e) : Wi (a + c) (b + e) := by
  obtain ⟨h1, h2⟩ := h
  obtain ⟨k1, k2⟩ := k
  constructor <;> grind
theorem Wi.le {a b c : Rat} (h : Wi a b) (k : b ≤ c) : Wi a c := by
  obtain ⟨h1, h2⟩ := h
  constructor <;> grind
/-- dividing by something positive -/
theorem Wi.div {a b c : Rat} (hc : 0 < c) (h : Wi (c * a) (c * b)) : Wi a b := by
  obtain ⟨h1, h2⟩ := h
  exact ⟨div_le' hc (by first | with_reducible assumption | with_reducible exact Rat.le_of_lt (by assumption) | (first | (clear hc h2; grind) | grind)), div_le' hc h2⟩
theorem rdiv_nonneg {a b : Rat} (ha : 0 ≤ a) (hb : 0 < b) : 0 ≤ a / b := by
  refine div_le' hb ?_
  rw [Rat.mul_zero, Rat.mul_comm, Rat.div_mul_cancel (by first | with_reducible assumption | with_reducible exact Rat.le_of_lt (by assumption) | (first | (clear ha; grind) | grind))]
  exact ha
theorem rdiv_anti {a b c : Rat} (ha : 0 ≤ a) (hb : 0 < b) (h : b ≤ c) : a / c ≤ a / b := by
  refine div_le' (Rat.mul_pos hb (show 0 < c by (first | (clear ha; grind) | grind))) ?_
  have := Rat.mul_le_mul_of_nonneg_left h ha
  have e1 : b * c * (a / c) = a * b := by (first | (clear ha this; grind) | grind)
  have e2 : b * c * (a / b) = a * c := by (first | (clear ha h this e1; grind) | grind)
  rw [e1, e2]; exact this
theorem half_split {b m : Rat} (hm : 0 < m) : b / (2 * m) = b / (4 * m) + b / (4 * m) ∧ b / (2 * (m * 2)) = b / (4 * m) := by
  constructor <;> grind
theorem ipos {a : Int} (h : 0 < a) : (0 : Rat) < (a : Rat) := Rat.intCast_pos.mpr h
theorem divN_rat {a b : Int} (hb : 0 < b) : Wi ((b : Rat) * (divN a b : Int) - (a : Rat)) ((b : Rat) / 2) := by
  obtain ⟨e, h1, h2, h3, _⟩ := divN_spec a b hb
  have e1 : (a : Rat) = (divN a b : Int) * (b : Rat) + (e : Rat) := by
    rw [← Rat.intCast_mul, ← Rat.intCast_add, ← h1]
  have h2' : ((-b : Int) : Rat) ≤ ((2 * e : Int) : Rat) := Rat.intCast_le_intCast.mpr h2
  have h3' : ((2 * e : Int) : Rat) ≤ (b : Rat) := Rat.intCast_le_intCast.mpr h3
  rw [Rat.intCast_mul] at h2' h3'
  rw [Rat.intCast_neg] at h2'
  rw [show ((2 : Int) : Rat) = 2 from rfl] at h2' h3'
  constructor <;> (first | (clear hb h1 h2 h3; grind) | grind)
/-- the rows by Horner, each row rounded -/
theorem ser_err {x S : Int} {t u : Rat} (hS : 0 < S) (ht : (x : Rat) = (S : Rat) * t) (hu : Wi t u) : ∀ (n : Nat) (y : Int) (h a : Rat), Wi ((y : Rat) - (S : Rat) * h) (a / 2) →
    Wi ((ser x S n y : Int) - (S : Rat) * (sm n t + tm n t * h - 1)) ((sm n u - tm n u + tm n u * a) / 2)
  | 0, y, h, a, hy => by
    show Wi ((y : Rat) - (S : Rat) * (1 + 1 * h - 1)) ((1 - 1 + 1 * a) / 2)
    rw [show (1 + 1 * h - 1 : Rat) = h by (first | (clear hS ht hu hy; grind) | grind), show ((1 - 1 + 1 * a) / 2 : Rat) = a / 2 by (first | (clear hS ht hu hy; grind) | grind)]
    exact hy
  | n + 1, y, h, a, hy => by
    have hS' := ipos hS
    have hn := npos n
    have hi : 0 < S * ((n : Int) + 1) := Int.mul_pos hS (by first | with_reducible assumption | with_reducible exact Int.le_of_lt (by assumption) | with_reducible exact Nat.le_of_lt (by assumption) | with_reducible exact qz1 (by assumption) | with_reducible exact qz2 (by assumption) | with_reducible exact qz3 (by assumption) | with_reducible exact qz4 (by assumption) | with_reducible exact qz5 (by assumption) | with_reducible exact qz6 (by assumption) | with_reducible exact qz7 (by assumption) | with_reducible exact qz8 (by assumption) | with_reducible exact qz9 (by assumption) | with_reducible exact qza (by assumption) | with_reducible exact qzb (by assumption) | with_reducible exact qzc | with_reducible exact qzd | with_reducible exact qze | omega)
    have hq := divN_rat (a := x * (S + y)) hi
    have ec : (((S * ((n : Int) + 1) : Int)) : Rat) = (S : Rat) * ((n : Rat) + 1) := by rw [Rat.intCast_mul, Rat.intCast_add, Rat.intCast_natCast]; rfl
    have ex' : ((x * (S + y) : Int) : Rat) = (S : Rat) * t * ((S : Rat) + (y : Rat)) := by rw [Rat.intCast_mul, Rat.intCast_add, ht]
    rw [ec, ex'] at hq
    have ih := ser_err hS ht hu n (divN (x * (S + y)) (S * ((n : Int) + 1))) (t / ((n : Rat) + 1) * (1 + h)) (1 + u / ((n : Rat) + 1) * a)
    show Wi ((ser x S n (divN (x * (S + y)) (S * ((n : Int) + 1))) : Int) - (S : Rat) * (sm n t + tm n t * t / ((n : Rat) + 1) + tm n t * t / ((n : Rat) + 1) * h - 1)) ((sm n u + tm n u * u / ((n : Rat) + 1) - tm n u * u / ((n : Rat) + 1) + tm n u * u / ((n : Rat) + 1) * a) / 2)
    have e1 : sm n t + tm n t * t / ((n : Rat) + 1) + tm n t * t / ((n : Rat) + 1) * h - 1 = sm n t + tm n t * (t / ((n : Rat) + 1) * (1 + h)) - 1 := by (first | (clear hS ht hu hy hS' hn hi hq ec ex' ih; grind) | grind)
    have e2 : (sm n u + tm n u * u / ((n : Rat) + 1) - tm n u * u / ((n : Rat) + 1) + tm n u * u / ((n : Rat) + 1) * a) / 2 = (sm n u - tm n u + tm n u * (1 + u / ((n : Rat) + 1) * a)) / 2 := by (first | (clear hS ht hu hy hS' hn hi hq ec ex' ih e1; grind) | grind)
    rw [e1, e2]
    refine ih ?_
    generalize (((divN (x * (S + y)) (S * ((n : Int) + 1)) : Int)) : Rat) = q at *
    generalize (n : Rat) + 1 = i at *
    have hw := hu.mul hy
    refine Wi.div (Rat.mul_pos hS' hn) ?_
    have e3 : (S : Rat) * i * (q - (S : Rat) * (t / i * (1 + h))) = (S : Rat) * i * q - (S : Rat) * t * ((S : Rat) + (y : Rat)) + (S : Rat) * (t * ((y : Rat) - (S : Rat) * h)) := by (first | (clear hS hu hy hS' hi ex' e1 e2 hq ih hw; grind) | grind)
    have e4 : (S : Rat) * i * ((1 + u / i * a) / 2) = (S : Rat) * i / 2 + (S : Rat) * (u * (a / 2)) := by (first | (clear hS ht hu hy hS' hi ex' e1 e2 hq ih hw e3; grind) | grind)
    rw [e3, e4]
    refine hq.add ?_
    have := Rat.mul_le_mul_of_nonneg_left hw.1 (Rat.le_of_lt hS')
    have := Rat.mul_le_mul_of_nonneg_left hw.2 (Rat.le_of_lt hS')
    constructor <;> (first | (clear hS ht hu hy hS' hi ex' hn ec e1 e2 hq ih hw e3 e4; grind) | grind)
/-- the halves of the doublings, as parts of the answer -/
noncomputable def sE (d : Rat) : Nat → Int → Rat
  | 0, _ => 0
  | n + 1, Q => ex d (-(2 * Q)) / 2 + sE d n (2 * Q)
theorem sE_nonneg {d : Rat} (hd : 0 < d) : ∀ (n : Nat) (Q : Int), 0 ≤ sE d n Q
  | 0, _ => Rat.le_refl
  | n + 1, Q => by
    have := sE_nonneg hd n (2 * Q)
    have := ex_pos hd (-(2 * Q))
    show 0 ≤ ex d (-(2 * Q)) / 2 + sE d n (2 * Q)
    (first | (clear hd; grind) | grind)
theorem pow2pos (n : Nat) : (0 : Rat) < 2 ^ n := Rat.pow_pos (by decide)
theorem pow2ge (n : Nat) : (1 : Rat) ≤ 2 ^ n := by
  induction n with
  | zero => rw [Rat.pow_zero]; exact Rat.le_refl
  | succ n ih => rw [Rat.pow_succ]; grind
theorem icast_p2 (M : Int) (n : Nat) : ((M * 2 ^ n : Int) : Rat) = (M : Rat) * 2 ^ n := by rw [Rat.intCast_mul, Rat.intCast_pow]; rfl
/-- one doubling -/
theorem dbl_one {M : Int} (hM : 0 < M) (n : Nat) (y : Int) (e D : Rat) (hD : (M : Rat) * 2 ^ n * 2 + (y : Rat) - (M : Rat) * 2 ^ n * 2 * e = D) :
    Wi (4 * ((M : Rat) * 2 ^ n) * ((M : Rat) * 2 ^ n + (divN (y * (y + M * 2 ^ (n + 2))) (M * 2 ^ (n + 2)) : Int) - (M : Rat) * 2 ^ n * (e * e)) - (D * D + 4 * ((M : Rat) * 2 ^ n) * (e * D))) (2 * ((M : Rat) * 2 ^ n)) := by
  have hp : 0 < M * 2 ^ (n + 2) := Int.mul_pos hM (Int.pow_pos (by decide))
  have hq := divN_rat (a := y * (y + M * 2 ^ (n + 2))) hp
  have e1 : ((M * 2 ^ (n + 2) : Int) : Rat) = 4 * ((M : Rat) * 2 ^ n) := by rw [icast_p2, Rat.pow_succ, Rat.pow_succ]; (first | (clear hM hD hp hq; grind) | grind)
  have e2 : ((y * (y + M * 2 ^ (n + 2)) : Int) : Rat) = (y : Rat) * ((y : Rat) + 4 * ((M : Rat) * 2 ^ n)) := by rw [Rat.intCast_mul, Rat.intCast_add, e1]
  rw [e1, e2] at hq
  generalize (((divN (y * (y + M * 2 ^ (n + 2))) (M * 2 ^ (n + 2)) : Int)) : Rat) = q at *
  generalize (M : Rat) * 2 ^ n = m at *
  subst hD
  obtain ⟨h1, h2⟩ := hq
  constructor <;> (first | (clear hM hp e1 e2; grind) | grind)
theorem dbl_alg {m a b e f : Rat} (hm : 0 < m) : 4 * m * ((a + b / (4 * m) + f / 2) * e) = 4 * m * a * e + b * e + 2 * m * (e * f) := by grind
theorem dbl_rel {d : Rat} (hd : 0 < d) {M : Int} (hM : 0 < M) {B tot : Rat} (hB : tot ≤ B) : ∀ (n : Nat) (y Q : Int) (a : Rat), 0 ≤ a →
    Wi ((M : Rat) * 2 ^ n + (y : Rat) - (M : Rat) * 2 ^ n * ex d Q) (a * ex d Q) → a + sE d n Q + B * B / (2 * (M : Rat)) - B * B / (2 * ((M : Rat) * 2 ^ n)) ≤ tot →
    Wi ((M : Rat) + (dbl M n y : Int) - (M : Rat) * ex d (2 ^ n * Q)) (tot * ex d (2 ^ n * Q))
  | 0, y, Q, a, ha, hy, ht => by
    rw [show (2 : Int) ^ 0 * Q = Q by simp]
    rw [show (M : Rat) * 2 ^ 0 = (M : Rat) by rw [Rat.pow_zero]; (first | (clear hd hM hB ha hy ht; grind) | grind)] at hy ht
    have e : sE d 0 Q = 0 := rfl
    rw [e] at ht
    exact hy.le (Rat.mul_le_mul_of_nonneg_right (by first | with_reducible assumption | with_reducible exact Rat.le_of_lt (by assumption) | (first | (clear hd hM hB ha hy e; grind) | grind)) (Rat.le_of_lt (ex_pos hd Q)))
  | n + 1, y, Q, a, ha, hy, ht => by
    have hM' := ipos hM
    have hm : 0 < (M : Rat) * 2 ^ n := Rat.mul_pos hM' (pow2pos n)
    have e1 : (M : Rat) * 2 ^ (n + 1) = (M : Rat) * 2 ^ n * 2 := by rw [Rat.pow_succ]; (first | (clear hd hM hB ha hy ht hM' hm; grind) | grind)
    have e2 : (2 : Int) ^ (n + 1) * Q = 2 ^ n * (2 * Q) := by rw [Int.pow_succ]; (first | (clear hd hM hB ha hy ht hM' hm e1; grind) | grind)
    have hs := sE_nonneg hd n (2 * Q)
    have hE : sE d (n + 1) Q = ex d (-(2 * Q)) / 2 + sE d n (2 * Q) := rfl
    have hx := ex_pos hd (-(2 * Q))
    have hge : (M : Rat) ≤ (M : Rat) * 2 ^ n := by
      have := Rat.mul_le_mul_of_nonneg_left (pow2ge n) (Rat.le_of_lt hM')
      (first | (clear hd hM hB ha hy ht hM' hm e1 e2 hs hE hx; grind) | grind)
    have hBB : 0 ≤ B * B := by
      rcases Rat.le_total (a := 0) (b := B) with h | h
      · exact Rat.mul_nonneg h h
      · have := Rat.mul_nonneg (show 0 ≤ -B by (first | (clear hd hM hB ha hy ht hM' hm e1 e2 hs hE hx hge; grind) | grind)) (show 0 ≤ -B by (first | (clear hd hM hB ha hy ht hM' hm e1 e2 hs hE hx hge; grind) | grind)); (first | (clear hd hM hB ha hy ht hM' hm e1 e2 hs hE hx hge h; grind) | grind)
    have hone := dbl_one hM n y (ex d Q) _ rfl
    rw [e1] at hy ht
    rw [e2]
    have ih := dbl_rel hd hM hB n (divN (y * (y + M * 2 ^ (n + 2))) (M * 2 ^ (n + 2))) (2 * Q) (a + B * B / (4 * ((M : Rat) * 2 ^ n)) + ex d (-(2 * Q)) / 2)
    have hinv : 0 ≤ B * B / (4 * ((M : Rat) * 2 ^ n)) := rdiv_nonneg hBB (Rat.mul_pos (by decide) hm)
    obtain ⟨s1, s2⟩ := half_split (b := B * B) hm
    have hdiff : B * B / (2 * ((M : Rat) * 2 ^ n)) ≤ B * B / (2 * (M : Rat)) := rdiv_anti hBB (Rat.mul_pos (by decide) hM') (Rat.mul_le_mul_of_nonneg_left hge (by decide))
    rw [s2] at ht
    rw [hE] at ht
    clear e1 e2
    generalize hb4 : B * B / (4 * ((M : Rat) * 2 ^ n)) = b4 at *
    generalize B * B / (2 * ((M : Rat) * 2 ^ n)) = b2 at *
    generalize B * B / (2 * (M : Rat)) = b0 at *
    have haB : a ≤ B := by clear ih hone hy; (first | (clear hd hM ha hM' hm hE hge hBB hb4 s2; grind) | grind)
    refine ih (by clear ih hone hy; (first | (clear hd hM hB hM' hm hs hE hge hBB hb4 s2 s1 ht hdiff haB; grind) | grind)) ?_ (by clear ih hone hy; (first | (clear hd hM hB ha hM' hm hs hE hx hge hBB hb4 hinv s2 hdiff haB; grind) | grind))
    clear ih
    · have he := ex_pos hd Q
      subst hb4
      have e3 : ex d (2 * Q) = ex d Q * ex d Q := ex_two hd Q
      have e4 : ex d (2 * Q) * ex d (-(2 * Q)) = 1 := ex_neg hd (2 * Q)
      rw [e3] at e4 ⊢
      have hDD := hy.mul hy
      have haa : a * a ≤ B * B := rmul ha (by first | with_reducible assumption | with_reducible exact Rat.le_of_lt (by assumption) | (first | (clear hd hM hB hy hM' hm hs hE hx hge hBB hone hdiff he hinv s2 s1 ht e3 e4 hDD; grind) | grind)) haB haB
      have hee : 0 < ex d Q * ex d Q := Rat.mul_pos he he
      have h5 := Rat.mul_le_mul_of_nonneg_right haa (Rat.le_of_lt hee)
      have h6 := Rat.mul_le_mul_of_nonneg_left hy.1 (Rat.mul_nonneg (Rat.le_of_lt hm) (Rat.le_of_lt he))
      have h7 := Rat.mul_le_mul_of_nonneg_left hy.2 (Rat.mul_nonneg (Rat.le_of_lt hm) (Rat.le_of_lt he))
      generalize (((divN (y * (y + M * 2 ^ (n + 2))) (M * 2 ^ (n + 2)) : Int)) : Rat) = q at *
      generalize (M : Rat) * 2 ^ n = m at *
      generalize ex d Q = e at *
      generalize ex d (-(2 * Q)) = f at *
      generalize m * 2 + (y : Rat) - m * 2 * e = D at *
      refine Wi.div (c := 4 * m) (by first | with_reducible assumption | with_reducible exact Rat.le_of_lt (by assumption) | (first | (clear hd hM hB ha hs hBB hdiff haB haa hm hinv s2 s1 he e3 hee h5 hE hx ht e4 hy hDD h6 h7 hone; grind) | grind)) ?_
      have e5 : 4 * m * ((a + B * B / (4 * m) + f / 2) * (e * e)) = 4 * m * a * (e * e) + B * B * (e * e) + 2 * m * (e * e * f) := dbl_alg hm
      rw [e5, e4]
      obtain ⟨o1, o2⟩ := hone
      obtain ⟨d1, d2⟩ := hDD
      constructor <;> (first | (clear hd hM hB ha hM' hs hBB hdiff haB haa hm hge hinv s2 s1 he e3 hee hE hx ht e4 hy e5; grind) | grind)

theorem hor_err {x S : Int} {t u : Rat} (hS : 0 < S) (ht : (x : Rat) = (S : Rat) * t) (hu : Wi t u) (n : Nat) :
    Wi ((ser x S n (divN x ((n : Int) + 1)) : Int) - (S : Rat) * (sm (n + 1) t - 1)) (sm n u / 2) := by
  have hn := npos n
  have hd := divN_rat (a := x) (b := (n : Int) + 1) (by first | with_reducible assumption | with_reducible exact Int.le_of_lt (by assumption) | with_reducible exact Nat.le_of_lt (by assumption) | with_reducible exact qz1 (by assumption) | with_reducible exact qz2 (by assumption) | with_reducible exact qz3 (by assumption) | with_reducible exact qz4 (by assumption) | with_reducible exact qz5 (by assumption) | with_reducible exact qz6 (by assumption) | with_reducible exact qz7 (by assumption) | with_reducible exact qz8 (by assumption) | with_reducible exact qz9 (by assumption) | with_reducible exact qza (by assumption) | with_reducible exact qzb (by assumption) | with_reducible exact qzc | with_reducible exact qzd | with_reducible exact qze | omega)
  have e0 : (((n : Int) + 1 : Int) : Rat) = (n : Rat) + 1 := by rw [Rat.intCast_add, Rat.intCast_natCast]; rfl
  rw [e0, ht] at hd
  have h1 : Wi ((divN x ((n : Int) + 1) : Int) - (S : Rat) * (t / ((n : Rat) + 1))) (1 / 2) := by
    refine Wi.div hn ?_
    generalize (((divN x ((n : Int) + 1) : Int)) : Rat) = q at *
    generalize (n : Rat) + 1 = i at *
    have e1 : i * (q - (S : Rat) * (t / i)) = i * q - (S : Rat) * t := by (first | (clear hS hu hd; grind) | grind)
    have e2 : i * (1 / 2) = i / 2 := by (first | (clear hS ht hu hn e0 hd e1; grind) | grind)
    rw [e1, e2]; exact hd
  have h2 := ser_err hS ht hu n _ _ 1 h1
  have e1 : sm n t + tm n t * (t / ((n : Rat) + 1)) - 1 = sm (n + 1) t - 1 := by
    show sm n t + tm n t * (t / ((n : Rat) + 1)) - 1 = sm n t + tm n t * t / ((n : Rat) + 1) - 1
    (first | (clear hS ht hu hn hd e0 h1 h2; grind) | grind)
  have e2 : (sm n u - tm n u + tm n u * 1) / 2 = sm n u / 2 := by (first | (clear hS ht hu hn hd e0 h1 h2 e1; grind) | grind)
  rw [e1, e2] at h2
  exact h2
/-- the rows' number -/
noncomputable def nN (M L : Int) : Nat := (nT M L - 1).toNat
theorem nN_eq {M L : Int} (hM : 0 < M) (hL : 1 ≤ L) : nT M L = (nN M L : Int) + 1 := by
  have := (nT_facts hM hL).1
  unfold nN
  (first | (clear hM hL; omega) | omega)
noncomputable def iy (x M L : Int) : Int := ser x (M * 2 ^ nR x M L) (nN M L) (divN x ((nN M L : Int) + 1))
theorem iexp_iy {x M L : Int} (hM : 0 < M) (hL : 1 ≤ L) : iexp x M L = M + dbl M (nR x M L) (iy x M L) := by
  unfold iexp iy
  rw [nN_eq hM hL]
  show _ = M + dbl M (nR x M L) (ser x (M * 2 ^ nR x M L) (nN M L) (divN x ((nN M L : Int) + 1)))
  have : ((nN M L : Int) + 1 - 1).toNat = nN M L := by (first | (clear hM hL; omega) | omega)
  rw [this]
section
variable {d : Rat} (hd : 0 < d)
include hd
/-- the number at the great scale -/
theorem top_err {x S P : Int} {u mx : Rat} (hS : 0 < S) (hP : (x : Rat) = (S : Rat) * ((P : Rat) * d)) (hu : u = (P.natAbs : Rat) * d) (hu1 : u ≤ 1) (hd1 : d ≤ 1) (hm1 : 1 ≤ mx) (hm2 : ex d P ≤ mx) (n : Nat) :
    Wi ((S : Rat) + (ser x S n (divN x ((n : Int) + 1)) : Int) - (S : Rat) * ex d P) (sm n u / 2 + (S : Rat) * tm (n + 2) u * mx + (4 * (n : Rat) + 7) * ((S : Rat) * d)) := by
  have hS' := ipos hS
  have hu0 : 0 ≤ u := by rw [hu]; exact Rat.mul_nonneg Rat.natCast_nonneg (Rat.le_of_lt hd)
  have hwu : Wi ((P : Rat) * d) u := by
    rw [hu]
    rcases Int.le_total 0 P with h | h
    · obtain ⟨p, rfl⟩ := Int.eq_ofNat_of_zero_le h
      rw [show ((p : Int).natAbs : Rat) = (p : Rat) by simp, Rat.intCast_natCast]
      rw [show ((p : Int).natAbs : Rat) = (p : Rat) by simp] at hu
      constructor <;> (first | (clear hd hS hu1 hd1 hm1 hS' hP hm2 h; grind) | grind)
    · obtain ⟨p, hp⟩ := Int.eq_ofNat_of_zero_le (show 0 ≤ -P by first | with_reducible assumption | with_reducible exact Int.le_of_lt (by assumption) | with_reducible exact Nat.le_of_lt (by assumption) | with_reducible exact qz1 (by assumption) | with_reducible exact qz2 (by assumption) | with_reducible exact qz3 (by assumption) | with_reducible exact qz4 (by assumption) | with_reducible exact qz5 (by assumption) | with_reducible exact qz6 (by assumption) | with_reducible exact qz7 (by assumption) | with_reducible exact qz8 (by assumption) | with_reducible exact qz9 (by assumption) | with_reducible exact qza (by assumption) | with_reducible exact qzb (by assumption) | with_reducible exact qzc | with_reducible exact qzd | with_reducible exact qze | (first | (clear hd hS hP hu hu1 hd1 hm1 hm2 hS' hu0; omega) | omega))
      have : P = -(p : Int) := by (first | (clear hd hS hP hu hu1 hd1 hm1 hm2 hS' hu0 h; omega) | omega)
      subst this
      rw [show ((-(p : Int)).natAbs : Rat) = (p : Rat) by simp, Rat.intCast_neg, Rat.intCast_natCast]
      rw [show ((-(p : Int)).natAbs : Rat) = (p : Rat) by simp] at hu
      constructor <;> (first | (clear hd hS hu1 hd1 hm1 hS' hP hm2 h hp; grind) | grind)
  have h1 := hor_err hS hP hwu n
  have hT := tm_nonneg hu0 (n + 2)
  have key : Wi (sm (n + 1) ((P : Rat) * d) - ex d P) (tm (n + 2) u * mx + (4 * (n : Rat) + 7) * d) := by
    have hn : (0 : Rat) ≤ (n : Rat) := Rat.natCast_nonneg
    have hnd := Rat.mul_nonneg hn (Rat.le_of_lt hd)
    have hmx := Rat.mul_le_mul_of_nonneg_left hm1 hT
    have hmx2 := Rat.mul_le_mul_of_nonneg_left hm2 hT
    rcases Int.le_total 0 P with h | h
    · obtain ⟨p, rfl⟩ := Int.eq_ofNat_of_zero_le h
      rw [show ((p : Int).natAbs : Rat) = (p : Rat) by simp] at hu
      rw [Rat.intCast_natCast]
      rw [← hu]
      have h2 := ex_up hd (n + 1) p
      have hdd : (p : Rat) * d * d ≤ 1 := by rw [← hu]; exact Rat.le_trans (rmul hu0 (by decide) hu1 hd1) (by first | with_reducible assumption | with_reducible exact Rat.le_of_lt (by assumption) | (first | (clear hd hS hu1 hd1 hm1 hS' hu0 hT hn hnd hmx hP hu hm2 hwu h1 hmx2 h h2; grind) | grind))
      have h3 := ex_dn hd (n + 1) p hdd
      rw [← hu] at h2 h3
      have h4 := Rat.le_trans (sm_mono hu0 hu1 (n + 1)) (sm_one_le (n + 1))
      have h5 := rmul (sm_ge_one hu0 (n + 1) |> fun h => Rat.le_trans (by decide) h) (Rat.le_of_lt hd) h4 (show u * d ≤ d by have := Rat.mul_le_mul_of_nonneg_right hu1 (Rat.le_of_lt hd); (first | (clear hd hS hu1 hd1 hm1 hS' hu0 hT hn hnd hmx hP hu hm2 hwu h1 hmx2 h h2 hdd h3 h4; grind) | grind))
      rw [show n + 1 + 1 = n + 2 from rfl] at h2
      generalize tm (n + 2) u = tt at *
      generalize sm (n + 1) u = ss at *
      generalize ex d (p : Int) = e at *
      constructor <;> (first | (clear hS hu1 hd1 hm1 hS' hu0 hn hP hu hwu h1 h hdd h4 hm2; grind) | grind)
    · obtain ⟨p, hp⟩ := Int.eq_ofNat_of_zero_le (show 0 ≤ -P by first | with_reducible assumption | with_reducible exact Int.le_of_lt (by assumption) | with_reducible exact Nat.le_of_lt (by assumption) | with_reducible exact qz1 (by assumption) | with_reducible exact qz2 (by assumption) | with_reducible exact qz3 (by assumption) | with_reducible exact qz4 (by assumption) | with_reducible exact qz5 (by assumption) | with_reducible exact qz6 (by assumption) | with_reducible exact qz7 (by assumption) | with_reducible exact qz8 (by assumption) | with_reducible exact qz9 (by assumption) | with_reducible exact qza (by assumption) | with_reducible exact qzb (by assumption) | with_reducible exact qzc | with_reducible exact qzd | with_reducible exact qze | (first | (clear hd hS hP hu hu1 hd1 hm1 hm2 hS' hu0 hwu h1 hT hn hnd hmx hmx2; omega) | omega))
      have : P = -(p : Int) := by (first | (clear hd hS hP hu hu1 hd1 hm1 hm2 hS' hu0 hwu h1 hT hn hnd hmx hmx2 h; omega) | omega)
      subst this
      rw [show ((-(p : Int)).natAbs : Rat) = (p : Rat) by simp] at hu
      rw [Rat.intCast_neg, Rat.intCast_natCast]
      have h2 := ex_alt hd (n + 1) p (by rw [← hu]; exact hu1)
      rw [show -(p : Rat) * d = -((p : Rat) * d) by (first | (clear hd hS hu1 hd1 hm1 hS' hu0 hT hn hnd hmx hP hu hm2 hwu h1 hmx2 h hp h2; grind) | grind)]
      rw [← hu] at h2 ⊢
      have h3 := Rat.mul_le_mul_of_nonneg_left hu1 (show 0 ≤ 4 * ((n : Rat) + 1) * d by (first | (clear hS hu1 hd1 hm1 hS' hu0 hT hn hmx hP hu hm2 hwu h1 hmx2 h hp h2; grind) | grind))
      rw [cast_succ] at h2
      rw [show n + 1 + 1 = n + 2 from rfl] at h2
      generalize tm (n + 2) u = tt at *
      generalize sm (n + 1) (-u) = ss at *
      generalize ex d (-(p : Int)) = e at *
      obtain ⟨h21, h22⟩ := h2
      constructor <;> (first | (clear hS hu1 hd1 hm1 hS' hu0 hn hnd hP hu hwu h1 h hp hT hm2 hmx2; grind) | grind)
  have h6 := Rat.mul_le_mul_of_nonneg_left key.1 (Rat.le_of_lt hS')
  have h7 := Rat.mul_le_mul_of_nonneg_left key.2 (Rat.le_of_lt hS')
  obtain ⟨h8, h9⟩ := h1
  generalize (((ser x S n (divN x ((n : Int) + 1)) : Int)) : Rat) = y at *
  generalize tm (n + 2) u = tt at *
  generalize sm (n + 1) ((P : Rat) * d) = ss at *
  generalize ex d P = e at *
  generalize sm n u = sn at *
  constructor <;> (first | (clear hd hS hP hu hu1 hd1 hm1 hS' hu0 hwu hT hm2 key; grind) | grind)
end

theorem rpow_add (a : Rat) (m n : Nat) : a ^ (m + n) = a ^ m * a ^ n := by
  induction n with
  | zero => rw [Nat.add_zero, Rat.pow_zero]; grind
  | succ n ih => rw [← Nat.add_assoc, Rat.pow_succ, ih, Rat.pow_succ]; (first | (clear ih; grind) | grind)
theorem rpow_mul (a : Rat) (m n : Nat) : a ^ (m * n) = (a ^ m) ^ n := by
  induction n with
  | zero => rw [Nat.mul_zero, Rat.pow_zero, Rat.pow_zero]
  | succ n ih => rw [Nat.mul_succ, rpow_add, ih, Rat.pow_succ]
/-- the great scale -/
noncomputable def sS (x M L : Int) : Int := M * 2 ^ nR x M L
theorem sS_pos {x M L : Int} (hM : 0 < M) : 0 < sS x M L := Int.mul_pos hM (Int.pow_pos (by decide))
/-- the size of x by the great scale, times 2 ^ L, is at most 1 -/
theorem u_le {x M L : Int} {u : Rat} (hM : 0 < M) (hu : (x.natAbs : Rat) = (sS x M L : Rat) * u) : u * 2 ^ L.toNat ≤ 1 := by
  have h := (nR_facts (x := x) (L := L) hM).1
  have hS := ipos (sS_pos (x := x) (L := L) hM)
  have h2 : (x.natAbs : Int) * 2 ^ L.toNat ≤ sS x M L := by
    unfold sS
    split at h <;> (first | (clear hu hS; omega) | omega)
  have h3 : (((x.natAbs : Int) * 2 ^ L.toNat : Int) : Rat) ≤ (sS x M L : Rat) := Rat.intCast_le_intCast.mpr h2
  rw [icast_p2, Rat.intCast_natCast, hu] at h3
  refine div_le' hS ?_
  (first | (clear hM hu h hS h2; grind) | grind)
theorem cube_lt {a b : Nat} (h : a ^ 3 < b ^ 3) : a < b := by
  refine Nat.not_le.mp fun hle => ?_
  have := Nat.pow_le_pow_left hle 3
  (first | (clear hle; omega) | omega)
/-- as many rows as the figures of M want -/
theorem M_lt {M L : Int} (hM : 0 < M) (hL : 1 ≤ L) : M < 2 ^ (L.toNat * (nN M L + 1)) := by
  obtain ⟨_, h2, _⟩ := nT_facts hM hL
  rw [nN_eq hM hL] at h2
  obtain ⟨e, he, _, h3⟩ := figs_ex hM
  rw [← he] at h3
  obtain ⟨l, rfl⟩ := Int.eq_ofNat_of_zero_le (show 0 ≤ L by first | with_reducible assumption | with_reducible exact Int.le_of_lt (by assumption) | with_reducible exact Nat.le_of_lt (by assumption) | with_reducible exact qz1 (by assumption) | with_reducible exact qz2 (by assumption) | with_reducible exact qz3 (by assumption) | with_reducible exact qz4 (by assumption) | with_reducible exact qz5 (by assumption) | with_reducible exact qz6 (by assumption) | with_reducible exact qz7 (by assumption) | with_reducible exact qz8 (by assumption) | with_reducible exact qz9 (by assumption) | with_reducible exact qza (by assumption) | with_reducible exact qzb (by assumption) | with_reducible exact qzc | with_reducible exact qzd | with_reducible exact qze | omega)
  obtain ⟨m, rfl⟩ := Int.eq_ofNat_of_zero_le (show 0 ≤ M by first | with_reducible assumption | with_reducible exact Int.le_of_lt (by assumption) | with_reducible exact Nat.le_of_lt (by assumption) | with_reducible exact qz1 (by assumption) | with_reducible exact qz2 (by assumption) | with_reducible exact qz3 (by assumption) | with_reducible exact qz4 (by assumption) | with_reducible exact qz5 (by assumption) | with_reducible exact qz6 (by assumption) | with_reducible exact qz7 (by assumption) | with_reducible exact qz8 (by assumption) | with_reducible exact qz9 (by assumption) | with_reducible exact qza (by assumption) | with_reducible exact qzb (by assumption) | with_reducible exact qzc | with_reducible exact qzd | with_reducible exact qze | omega)
  have h4 : m < 10 ^ figs (m : Int) := by exact_mod_cast h3
  rw [show ((l : Int)).toNat = l by (first | (clear hM he h3 h2 h4; omega) | omega)]
  generalize figs (m : Int) = f at *
  generalize nN (m : Int) (l : Int) = n at *
  have h5 : 10 * f ≤ (l * (n + 1)) * 3 := by
    have e1 : ((n : Int) + 1) * (3 * (l : Int)) = (((l * (n + 1)) * 3 : Nat) : Int) := by
      rw [Int.natCast_mul, Int.natCast_mul]; (first | (clear hL hM he h3 h4 h2; grind) | grind)
    rw [e1] at h2
    (first | (clear hL hM h3 h4 e1; omega) | omega)
  have key : m < 2 ^ (l * (n + 1)) := by
    refine cube_lt ?_
    rw [← Nat.pow_mul]
    have h6 : m ^ 3 < (10 ^ f) ^ 3 := Nat.pow_lt_pow_left h4 (by decide)
    have h7 : (10 ^ f) ^ 3 ≤ 2 ^ (10 * f) := by
      rw [← Nat.pow_mul, Nat.mul_comm f 3, Nat.pow_mul, Nat.pow_mul]
      exact Nat.pow_le_pow_left (by decide) f
    have h8 : 2 ^ (10 * f) ≤ 2 ^ (l * (n + 1) * 3) := Nat.pow_le_pow_right (by decide) h5
    (first | (clear hL hM he h3 h4 h2 h5; omega) | omega)
  exact_mod_cast key
theorem pow_scale {u p : Rat} (hu : 0 ≤ u) (hp : 0 ≤ p) (h : u * p ≤ 1) (n : Nat) : u ^ n * p ^ n ≤ 1 := by
  induction n with
  | zero => rw [Rat.pow_zero, Rat.pow_zero]; (first | (clear hu hp h; grind) | grind)
  | succ n ih =>
    rw [Rat.pow_succ, Rat.pow_succ]
    have h1 := rmul (Rat.mul_nonneg hu hp) (show (0 : Rat) ≤ 1 by decide) h ih
    (first | (clear hu hp h ih; grind) | grind)
/-- the power that the rows leave out is less than the M-th part -/
theorem u_pow {x M L : Int} {u : Rat} (hM : 0 < M) (hL : 1 ≤ L) (hu0 : 0 ≤ u) (hu : (x.natAbs : Rat) = (sS x M L : Rat) * u) : u ^ (nN M L + 1) * (M : Rat) ≤ 1 := by
  have h1 := u_le hM hu
  have h2 := pow_scale hu0 (Rat.le_of_lt (pow2pos L.toNat)) h1 (nN M L + 1)
  have h3 : (M : Rat) ≤ ((2 ^ (L.toNat * (nN M L + 1)) : Int) : Rat) := Rat.intCast_le_intCast.mpr (Int.le_of_lt (M_lt hM hL))
  have e : ((2 ^ (L.toNat * (nN M L + 1)) : Int) : Rat) = (2 ^ L.toNat) ^ (nN M L + 1) := by
    rw [Rat.intCast_pow]
    exact rpow_mul 2 L.toNat (nN M L + 1)
  rw [e] at h3
  have h4 := Rat.mul_le_mul_of_nonneg_left h3 (Rat.pow_nonneg hu0 (n := nN M L + 1))
  (first | (clear hM hL hu0 hu h1 h3 e; grind) | grind)
theorem sm_le_inv {u : Rat} (hu : 0 ≤ u) (n : Nat) : sm n u * (1 - u) ≤ 1 := by
  have h := sm_hi' (x := 0) (by decide) hu n
  rw [sm_zero, show (0 : Rat) + u = u by (first | (clear hu h; grind) | grind)] at h
  exact h

theorem pow_mono {u v : Rat} (hu : 0 ≤ u) (h : u ≤ v) (m : Nat) : u ^ m ≤ v ^ m := by
  induction m with
  | zero => rw [Rat.pow_zero, Rat.pow_zero]; exact Rat.le_refl
  | succ m ih => rw [Rat.pow_succ, Rat.pow_succ]; exact rmul (Rat.pow_nonneg hu) (by first | with_reducible assumption | with_reducible exact Rat.le_of_lt (by assumption) | (first | (clear ih; grind) | grind)) ih h
section
variable {d : Rat} (hd : 0 < d)
include hd
end

theorem rdiv_le {a b c : Rat} (hb : 0 < b) (h : a ≤ c * b) : a / b ≤ c := by
  refine div_le' hb ?_
  have : b * (a / b) = a := by (first | (clear h; grind) | grind)
  rw [this]; (first | (clear hb this; grind) | grind)
theorem ncast_le {a b : Nat} (h : a ≤ b) : (a : Rat) ≤ (b : Rat) := Rat.natCast_le_natCast.mpr h
theorem icast_le {a b : Int} (h : a ≤ b) : (a : Rat) ≤ (b : Rat) := Rat.intCast_le_intCast.mpr h
section
variable {d : Rat} (hd : 0 < d)
include hd
theorem iexp_rel {x M L P : Int} {B tot a : Rat} (hM : 0 < M) (hL : 1 ≤ L) (ha : 0 ≤ a) (htop : Wi ((sS x M L : Rat) + (iy x M L : Int) - (sS x M L : Rat) * ex d P) (a * ex d P)) (hB : tot ≤ B)
    (ht : a + sE d (nR x M L) P + B * B / (2 * (M : Rat)) ≤ tot) : Wi ((iexp x M L : Rat) - (M : Rat) * ex d (2 ^ nR x M L * P)) (tot * ex d (2 ^ nR x M L * P)) := by
  rw [iexp_iy hM hL, Rat.intCast_add]
  unfold sS at htop
  rw [icast_p2] at htop
  refine dbl_rel hd hM hB _ _ _ a ha htop ?_
  have hBB : 0 ≤ B * B := by
    rcases Rat.le_total (a := 0) (b := B) with h | h
    · exact Rat.mul_nonneg h h
    · have := Rat.mul_nonneg (show 0 ≤ -B by (first | (clear hd hM hL ha htop hB ht; grind) | grind)) (show 0 ≤ -B by (first | (clear hd hM hL ha htop hB ht; grind) | grind)); (first | (clear hd hM hL ha htop hB ht h; grind) | grind)
  have := rdiv_nonneg hBB (Rat.mul_pos (show (0 : Rat) < 2 by decide) (Rat.mul_pos (ipos hM) (pow2pos (nR x M L))))
  (first | (clear hd hM hL ha htop hB hBB; grind) | grind)
theorem iexp_top {x M L P : Int} {u mx : Rat} (hM : 0 < M) (hP : (x : Rat) = (sS x M L : Rat) * ((P : Rat) * d)) (hu : u = (P.natAbs : Rat) * d) (hu1 : u ≤ 1) (hd1 : d ≤ 1) (hm1 : 1 ≤ mx) (hm2 : ex d P ≤ mx) :
    Wi ((sS x M L : Rat) + (iy x M L : Int) - (sS x M L : Rat) * ex d P) (sm (nN M L) u / 2 + (sS x M L : Rat) * tm (nN M L + 2) u * mx + (4 * (nN M L : Rat) + 7) * ((sS x M L : Rat) * d)) :=
  top_err hd (sS_pos hM) hP hu hu1 hd1 hm1 hm2 (nN M L)
end
/-- the size of x by the step -/
theorem abs_u {d : Rat} (hd : 0 < d) {x S P : Int} (hS' : 0 < S) (hP : (x : Rat) = (S : Rat) * ((P : Rat) * d)) : (x.natAbs : Rat) = (S : Rat) * ((P.natAbs : Rat) * d) := by
  have hS := ipos hS'
  have e1 : (0 : Rat) ≤ (P : Rat) * d ∨ (P : Rat) * d ≤ 0 := Rat.le_total
  rcases Int.le_total 0 P with h | h
  · have hx0 : 0 ≤ x := by
      have : (0 : Rat) ≤ (x : Rat) := by rw [hP]; exact Rat.mul_nonneg (Rat.le_of_lt hS) (Rat.mul_nonneg (Rat.intCast_nonneg.mpr h) (Rat.le_of_lt hd))
      exact Rat.intCast_nonneg.mp this
    obtain ⟨p, rfl⟩ := Int.eq_ofNat_of_zero_le h
    obtain ⟨y, rfl⟩ := Int.eq_ofNat_of_zero_le hx0
    rw [Rat.intCast_natCast, Rat.intCast_natCast] at hP
    simpa using hP
  · obtain ⟨p, hp⟩ := Int.eq_ofNat_of_zero_le (show 0 ≤ -P by first | with_reducible assumption | with_reducible exact Int.le_of_lt (by assumption) | with_reducible exact Nat.le_of_lt (by assumption) | with_reducible exact qz1 (by assumption) | with_reducible exact qz2 (by assumption) | with_reducible exact qz3 (by assumption) | with_reducible exact qz4 (by assumption) | with_reducible exact qz5 (by assumption) | with_reducible exact qz6 (by assumption) | with_reducible exact qz7 (by assumption) | with_reducible exact qz8 (by assumption) | with_reducible exact qz9 (by assumption) | with_reducible exact qza (by assumption) | with_reducible exact qzb (by assumption) | with_reducible exact qzc | with_reducible exact qzd | with_reducible exact qze | (first | (clear hd hS' hP hS e1; omega) | omega))
    have : P = -(p : Int) := by (first | (clear hd hS' hP hS e1 h; omega) | omega)
    subst this
    have hx0 : 0 ≤ -x := by
      have : (0 : Rat) ≤ ((-x : Int) : Rat) := by
        rw [Rat.intCast_neg, hP, Rat.intCast_neg, Rat.intCast_natCast]
        have := Rat.mul_nonneg (Rat.le_of_lt hS) (Rat.mul_nonneg (show (0 : Rat) ≤ (p : Rat) from Rat.natCast_nonneg) (Rat.le_of_lt hd))
        (first | (clear hd hS' hS hP e1 h hp; grind) | grind)
      exact Rat.intCast_nonneg.mp this
    obtain ⟨y, hy⟩ := Int.eq_ofNat_of_zero_le hx0
    have : x = -(y : Int) := by (first | (clear hd hS' hS hP e1 h hp hx0; omega) | omega)
    subst this
    rw [Rat.intCast_neg, Rat.intCast_neg, Rat.intCast_natCast, Rat.intCast_natCast] at hP
    rw [show (-(y : Int)).natAbs = y by (first | (clear hd hS' hS e1 h hp hP hy; omega) | omega), show (-(p : Int)).natAbs = p by (first | (clear hd hS' hS e1 hp hP hx0 hy; omega) | omega)]
    (first | (clear hd hS' hS e1 h hp hx0 hy; grind) | grind)

theorem divN_nonneg {a b : Int} (ha : 0 ≤ a) (hb : 0 < b) : 0 ≤ divN a b := by
  obtain ⟨e, h1, h2, h3, _⟩ := divN_spec a b hb
  refine Int.not_lt.mp fun hlt => ?_
  have : divN a b * b ≤ -1 * b := Int.mul_le_mul_of_nonneg_right (by first | with_reducible assumption | with_reducible exact Int.le_of_lt (by assumption) | with_reducible exact Nat.le_of_lt (by assumption) | with_reducible exact qz1 (by assumption) | with_reducible exact qz2 (by assumption) | with_reducible exact qz3 (by assumption) | with_reducible exact qz4 (by assumption) | with_reducible exact qz5 (by assumption) | with_reducible exact qz6 (by assumption) | with_reducible exact qz7 (by assumption) | with_reducible exact qz8 (by assumption) | with_reducible exact qz9 (by assumption) | with_reducible exact qza (by assumption) | with_reducible exact qzb (by assumption) | with_reducible exact qzc | with_reducible exact qzd | with_reducible exact qze | (first | (clear ha hb h1 h2 h3; omega) | omega)) (by first | with_reducible assumption | with_reducible exact Int.le_of_lt (by assumption) | with_reducible exact Nat.le_of_lt (by assumption) | with_reducible exact qz1 (by assumption) | with_reducible exact qz2 (by assumption) | with_reducible exact qz3 (by assumption) | with_reducible exact qz4 (by assumption) | with_reducible exact qz5 (by assumption) | with_reducible exact qz6 (by assumption) | with_reducible exact qz7 (by assumption) | with_reducible exact qz8 (by assumption) | with_reducible exact qz9 (by assumption) | with_reducible exact qza (by assumption) | with_reducible exact qzb (by assumption) | with_reducible exact qzc | with_reducible exact qzd | with_reducible exact qze | omega)
  (first | (clear h2 hlt; omega) | omega)
theorem divN_ge {a b q : Int} (hb : 0 < b) (h : q * b ≤ a) : q ≤ divN a b := by
  obtain ⟨e, h1, h2, h3, _⟩ := divN_spec a b hb
  refine Int.not_lt.mp fun hlt => ?_
  have : divN a b * b ≤ (q - 1) * b := Int.mul_le_mul_of_nonneg_right (by first | with_reducible assumption | with_reducible exact Int.le_of_lt (by assumption) | with_reducible exact Nat.le_of_lt (by assumption) | with_reducible exact qz1 (by assumption) | with_reducible exact qz2 (by assumption) | with_reducible exact qz3 (by assumption) | with_reducible exact qz4 (by assumption) | with_reducible exact qz5 (by assumption) | with_reducible exact qz6 (by assumption) | with_reducible exact qz7 (by assumption) | with_reducible exact qz8 (by assumption) | with_reducible exact qz9 (by assumption) | with_reducible exact qza (by assumption) | with_reducible exact qzb (by assumption) | with_reducible exact qzc | with_reducible exact qzd | with_reducible exact qze | (first | (clear hb h h1 h2 h3; omega) | omega)) (by first | with_reducible assumption | with_reducible exact Int.le_of_lt (by assumption) | with_reducible exact Nat.le_of_lt (by assumption) | with_reducible exact qz1 (by assumption) | with_reducible exact qz2 (by assumption) | with_reducible exact qz3 (by assumption) | with_reducible exact qz4 (by assumption) | with_reducible exact qz5 (by assumption) | with_reducible exact qz6 (by assumption) | with_reducible exact qz7 (by assumption) | with_reducible exact qz8 (by assumption) | with_reducible exact qz9 (by assumption) | with_reducible exact qza (by assumption) | with_reducible exact qzb (by assumption) | with_reducible exact qzc | with_reducible exact qzd | with_reducible exact qze | omega)
  have e2 : (q - 1) * b = q * b - b := by (first | (clear hb h h1 h2 h3 hlt this; grind) | grind)
  (first | (clear h2 hlt; omega) | omega)
/-- with two rows or more the answer is no less than x -/
theorem ser_ge {x S : Int} (hx : 0 ≤ x) (hS : 0 < S) : ∀ (n : Nat) (y : Int), 0 ≤ y → x ≤ ser x S (n + 1) y
  | 0, y, h => by
    show x ≤ divN (x * (S + y)) (S * (((0 : Nat) : Int) + 1))
    refine divN_ge (Int.mul_pos hS (by decide)) ?_
    have := Int.mul_nonneg hx h
    (first | (clear hx hS h; grind) | grind)
  | n + 1, y, h => ser_ge hx hS n _ (divN_nonneg (Int.mul_nonneg hx (by first | with_reducible assumption | with_reducible exact Int.le_of_lt (by assumption) | with_reducible exact Nat.le_of_lt (by assumption) | with_reducible exact qz1 (by assumption) | with_reducible exact qz2 (by assumption) | with_reducible exact qz3 (by assumption) | with_reducible exact qz4 (by assumption) | with_reducible exact qz5 (by assumption) | with_reducible exact qz6 (by assumption) | with_reducible exact qz7 (by assumption) | with_reducible exact qz8 (by assumption) | with_reducible exact qz9 (by assumption) | with_reducible exact qza (by assumption) | with_reducible exact qzb (by assumption) | with_reducible exact qzc | with_reducible exact qzd | with_reducible exact qze | (first | (clear hx; omega) | omega))) (Int.mul_pos hS (by first | with_reducible assumption | with_reducible exact Int.le_of_lt (by assumption) | with_reducible exact Nat.le_of_lt (by assumption) | with_reducible exact qz1 (by assumption) | with_reducible exact qz2 (by assumption) | with_reducible exact qz3 (by assumption) | with_reducible exact qz4 (by assumption) | with_reducible exact qz5 (by assumption) | with_reducible exact qz6 (by assumption) | with_reducible exact qz7 (by assumption) | with_reducible exact qz8 (by assumption) | with_reducible exact qz9 (by assumption) | with_reducible exact qza (by assumption) | with_reducible exact qzb (by assumption) | with_reducible exact qzc | with_reducible exact qzd | with_reducible exact qze | omega)))
theorem nN_ge2 {M L : Int} (hM : 1000 ≤ M) (hL : 1 ≤ L) (hL2 : L ≤ 12) : 1 ≤ nN M L := by
  obtain ⟨h1, h2, h3⟩ := nT_facts (show 0 < M by first | with_reducible assumption | with_reducible exact Int.le_of_lt (by assumption) | with_reducible exact Nat.le_of_lt (by assumption) | with_reducible exact qz1 (by assumption) | with_reducible exact qz2 (by assumption) | with_reducible exact qz3 (by assumption) | with_reducible exact qz4 (by assumption) | with_reducible exact qz5 (by assumption) | with_reducible exact qz6 (by assumption) | with_reducible exact qz7 (by assumption) | with_reducible exact qz8 (by assumption) | with_reducible exact qz9 (by assumption) | with_reducible exact qza (by assumption) | with_reducible exact qzb (by assumption) | with_reducible exact qzc | with_reducible exact qzd | with_reducible exact qze | omega) (show 1 ≤ L by first | with_reducible assumption | with_reducible exact Int.le_of_lt (by assumption) | with_reducible exact Nat.le_of_lt (by assumption) | with_reducible exact qz1 (by assumption) | with_reducible exact qz2 (by assumption) | with_reducible exact qz3 (by assumption) | with_reducible exact qz4 (by assumption) | with_reducible exact qz5 (by assumption) | with_reducible exact qz6 (by assumption) | with_reducible exact qz7 (by assumption) | with_reducible exact qz8 (by assumption) | with_reducible exact qz9 (by assumption) | with_reducible exact qza (by assumption) | with_reducible exact qzb (by assumption) | with_reducible exact qzc | with_reducible exact qzd | with_reducible exact qze | omega)
  obtain ⟨e, he, h4, h5⟩ := figs_ex (show 0 < M by first | with_reducible assumption | with_reducible exact Int.le_of_lt (by assumption) | with_reducible exact Nat.le_of_lt (by assumption) | with_reducible exact qz1 (by assumption) | with_reducible exact qz2 (by assumption) | with_reducible exact qz3 (by assumption) | with_reducible exact qz4 (by assumption) | with_reducible exact qz5 (by assumption) | with_reducible exact qz6 (by assumption) | with_reducible exact qz7 (by assumption) | with_reducible exact qz8 (by assumption) | with_reducible exact qz9 (by assumption) | with_reducible exact qza (by assumption) | with_reducible exact qzb (by assumption) | with_reducible exact qzc | with_reducible exact qzd | with_reducible exact qze | omega)
  have h6 : 3 ≤ e := by
    refine Nat.not_lt.mp fun hlt => ?_
    have : (10 : Int) ^ (e + 1) ≤ 10 ^ 3 := ipow_le (by decide) (by first | with_reducible assumption | with_reducible exact Int.le_of_lt (by assumption) | with_reducible exact Nat.le_of_lt (by assumption) | with_reducible exact qz1 (by assumption) | with_reducible exact qz2 (by assumption) | with_reducible exact qz3 (by assumption) | with_reducible exact qz4 (by assumption) | with_reducible exact qz5 (by assumption) | with_reducible exact qz6 (by assumption) | with_reducible exact qz7 (by assumption) | with_reducible exact qz8 (by assumption) | with_reducible exact qz9 (by assumption) | with_reducible exact qza (by assumption) | with_reducible exact qzb (by assumption) | with_reducible exact qzc | with_reducible exact qzd | with_reducible exact qze | (first | (clear hM hL hL2 h1 h2 h3 he h4 h5; omega) | omega))
    (first | (clear hL hL2 h1 h2 h3 he hlt; omega) | omega)
  rw [he] at h2
  unfold nN
  have h7 : 2 ≤ nT M L := by
    refine Int.not_lt.mp fun hlt => ?_
    have : nT M L = 1 := by (first | (clear hM hL hL2 h3 h2 he h4 h5 h6; omega) | omega)
    rw [this] at h2
    (first | (clear hM h1 h3 he h4 h5 hlt this; omega) | omega)
  (first | (clear hM hL hL2 h1 h3 h2 he h4 h5 h6; omega) | omega)
theorem divN_natAbs {a b : Int} (hb : 0 < b) : 2 * ((divN a b).natAbs : Int) * b ≤ 2 * (a.natAbs : Int) + b := by
  obtain ⟨e, he, e1, e2, _, _⟩ := divN_spec a b hb
  generalize divN a b = q at *
  rcases Int.le_total 0 q with h | h
  · have e3 : (q.natAbs : Int) = q := by (first | (clear hb e1 e2 he; omega) | omega)
    rw [e3]
    have : 2 * q * b = 2 * (q * b) := by (first | (clear hb e1 e2 he h e3; grind) | grind)
    (first | (clear hb e2 h e3; omega) | omega)
  · have e3 : (q.natAbs : Int) = -q := by (first | (clear hb e1 e2 he; omega) | omega)
    rw [e3]
    have : 2 * -q * b = -2 * (q * b) := by (first | (clear hb e1 e2 he h e3; grind) | grind)
    (first | (clear hb e1 h e3; omega) | omega)
theorem add_sz {a b : Int} {n m : Nat} (hm : m = n + 1) (ha : a.natAbs < 2 ^ n) (hb : b.natAbs < 2 ^ n) : (a + b).natAbs < 2 ^ m := by
  subst hm
  rw [Nat.pow_succ]
  generalize 2 ^ n = v at *
  omega
theorem mul_natAbs_le {x y : Int} {a b : Int} (hx : (x.natAbs : Int) ≤ a) (hy : (y.natAbs : Int) ≤ b) : ((x * y).natAbs : Int) ≤ a * b := by
  rw [Int.natAbs_mul, Int.natCast_mul]
  exact Int.mul_le_mul hx hy (by first | with_reducible assumption | with_reducible exact Int.le_of_lt (by assumption) | with_reducible exact Nat.le_of_lt (by assumption) | with_reducible exact qz1 (by assumption) | with_reducible exact qz2 (by assumption) | with_reducible exact qz3 (by assumption) | with_reducible exact qz4 (by assumption) | with_reducible exact qz5 (by assumption) | with_reducible exact qz6 (by assumption) | with_reducible exact qz7 (by assumption) | with_reducible exact qz8 (by assumption) | with_reducible exact qz9 (by assumption) | with_reducible exact qza (by assumption) | with_reducible exact qzb (by assumption) | with_reducible exact qzc | with_reducible exact qzd | with_reducible exact qze | omega) (by first | with_reducible assumption | with_reducible exact Int.le_of_lt (by assumption) | with_reducible exact Nat.le_of_lt (by assumption) | with_reducible exact qz1 (by assumption) | with_reducible exact qz2 (by assumption) | with_reducible exact qz3 (by assumption) | with_reducible exact qz4 (by assumption) | with_reducible exact qz5 (by assumption) | with_reducible exact qz6 (by assumption) | with_reducible exact qz7 (by assumption) | with_reducible exact qz8 (by assumption) | with_reducible exact qz9 (by assumption) | with_reducible exact qza (by assumption) | with_reducible exact qzb (by assumption) | with_reducible exact qzc | with_reducible exact qzd | with_reducible exact qze | (first | (clear hy; omega) | omega))

theorem ser_step {x S y i : Int} (hS : 0 < S) (hx : 2 * (x.natAbs : Int) ≤ S) (hi : 1 ≤ i) (hy : (y.natAbs : Int) ≤ 2 * x.natAbs + 1) :
    ((divN (x * (S + y)) (S * i)).natAbs : Int) ≤ 2 * x.natAbs + 1 := by
  have hSi : 0 < S * i := Int.mul_pos hS (by first | with_reducible assumption | with_reducible exact Int.le_of_lt (by assumption) | with_reducible exact Nat.le_of_lt (by assumption) | with_reducible exact qz1 (by assumption) | with_reducible exact qz2 (by assumption) | with_reducible exact qz3 (by assumption) | with_reducible exact qz4 (by assumption) | with_reducible exact qz5 (by assumption) | with_reducible exact qz6 (by assumption) | with_reducible exact qz7 (by assumption) | with_reducible exact qz8 (by assumption) | with_reducible exact qz9 (by assumption) | with_reducible exact qza (by assumption) | with_reducible exact qzb (by assumption) | with_reducible exact qzc | with_reducible exact qzd | with_reducible exact qze | (first | (clear hS hx hy; omega) | omega))
  have h1 := divN_natAbs (a := x * (S + y)) hSi
  have h2 : ((x * (S + y)).natAbs : Int) ≤ x.natAbs * (S + (2 * x.natAbs + 1)) := mul_natAbs_le (Int.le_refl _) (by first | with_reducible assumption | with_reducible exact Int.le_of_lt (by assumption) | with_reducible exact Nat.le_of_lt (by assumption) | with_reducible exact qz1 (by assumption) | with_reducible exact qz2 (by assumption) | with_reducible exact qz3 (by assumption) | with_reducible exact qz4 (by assumption) | with_reducible exact qz5 (by assumption) | with_reducible exact qz6 (by assumption) | with_reducible exact qz7 (by assumption) | with_reducible exact qz8 (by assumption) | with_reducible exact qz9 (by assumption) | with_reducible exact qza (by assumption) | with_reducible exact qzb (by assumption) | with_reducible exact qzc | with_reducible exact qzd | with_reducible exact qze | (first | (clear hi hSi h1; omega) | omega))
  generalize ((divN (x * (S + y)) (S * i)).natAbs : Int) = q at *
  generalize hX : (x.natAbs : Int) = X at *
  have hX0 : 0 ≤ X := by (first | (clear hS hi hSi h1 hX hx h2; omega) | omega)
  refine Int.not_lt.mp fun hlt => ?_
  have h3 : 2 * (2 * X + 2) * (S * i) ≤ 2 * q * (S * i) := Int.mul_le_mul_of_nonneg_right (by first | with_reducible assumption | with_reducible exact Int.le_of_lt (by assumption) | with_reducible exact Nat.le_of_lt (by assumption) | with_reducible exact qz1 (by assumption) | with_reducible exact qz2 (by assumption) | with_reducible exact qz3 (by assumption) | with_reducible exact qz4 (by assumption) | with_reducible exact qz5 (by assumption) | with_reducible exact qz6 (by assumption) | with_reducible exact qz7 (by assumption) | with_reducible exact qz8 (by assumption) | with_reducible exact qz9 (by assumption) | with_reducible exact qza (by assumption) | with_reducible exact qzb (by assumption) | with_reducible exact qzc | with_reducible exact qzd | with_reducible exact qze | (first | (clear hS hi hSi h1 hX hx hy h2 hX0; omega) | omega)) (by first | with_reducible assumption | with_reducible exact Int.le_of_lt (by assumption) | with_reducible exact Nat.le_of_lt (by assumption) | with_reducible exact qz1 (by assumption) | with_reducible exact qz2 (by assumption) | with_reducible exact qz3 (by assumption) | with_reducible exact qz4 (by assumption) | with_reducible exact qz5 (by assumption) | with_reducible exact qz6 (by assumption) | with_reducible exact qz7 (by assumption) | with_reducible exact qz8 (by assumption) | with_reducible exact qz9 (by assumption) | with_reducible exact qza (by assumption) | with_reducible exact qzb (by assumption) | with_reducible exact qzc | with_reducible exact qzd | with_reducible exact qze | omega)
  have h4 : (2 * X) * (2 * X + 1) ≤ S * (2 * X + 1) := Int.mul_le_mul_of_nonneg_right hx (by first | with_reducible assumption | with_reducible exact Int.le_of_lt (by assumption) | with_reducible exact Nat.le_of_lt (by assumption) | with_reducible exact qz1 (by assumption) | with_reducible exact qz2 (by assumption) | with_reducible exact qz3 (by assumption) | with_reducible exact qz4 (by assumption) | with_reducible exact qz5 (by assumption) | with_reducible exact qz6 (by assumption) | with_reducible exact qz7 (by assumption) | with_reducible exact qz8 (by assumption) | with_reducible exact qz9 (by assumption) | with_reducible exact qza (by assumption) | with_reducible exact qzb (by assumption) | with_reducible exact qzc | with_reducible exact qzd | with_reducible exact qze | (first | (clear hS hi hSi h1 hX hx hy h2 hlt h3; omega) | omega))
  have h5 : S * 1 ≤ S * i := Int.mul_le_mul_of_nonneg_left hi (by first | with_reducible assumption | with_reducible exact Int.le_of_lt (by assumption) | with_reducible exact Nat.le_of_lt (by assumption) | with_reducible exact qz1 (by assumption) | with_reducible exact qz2 (by assumption) | with_reducible exact qz3 (by assumption) | with_reducible exact qz4 (by assumption) | with_reducible exact qz5 (by assumption) | with_reducible exact qz6 (by assumption) | with_reducible exact qz7 (by assumption) | with_reducible exact qz8 (by assumption) | with_reducible exact qz9 (by assumption) | with_reducible exact qza (by assumption) | with_reducible exact qzb (by assumption) | with_reducible exact qzc | with_reducible exact qzd | with_reducible exact qze | omega)
  have h6 : X * S ≤ X * (S * i) := Int.mul_le_mul_of_nonneg_left (by first | with_reducible assumption | with_reducible exact Int.le_of_lt (by assumption) | with_reducible exact Nat.le_of_lt (by assumption) | with_reducible exact qz1 (by assumption) | with_reducible exact qz2 (by assumption) | with_reducible exact qz3 (by assumption) | with_reducible exact qz4 (by assumption) | with_reducible exact qz5 (by assumption) | with_reducible exact qz6 (by assumption) | with_reducible exact qz7 (by assumption) | with_reducible exact qz8 (by assumption) | with_reducible exact qz9 (by assumption) | with_reducible exact qza (by assumption) | with_reducible exact qzb (by assumption) | with_reducible exact qzc | with_reducible exact qzd | with_reducible exact qze | (first | (clear hS hi hSi h1 hX hx hy h2 hX0 hlt h3 h4; omega) | omega)) hX0
  generalize hQ : S * i = Q at *
  have e1 : 2 * (2 * X + 2) * Q = 4 * (X * Q) + 4 * Q := by (first | (clear hS hi hX hx hy h2 hX0 hlt h4 hQ hSi h1 h3 h5 h6; grind) | grind)
  have e2 : 2 * (X * (S + (2 * X + 1))) = 2 * (X * S) + (2 * X) * (2 * X + 1) := by (first | (clear hS hi hX hx hy h2 hX0 hlt h4 hQ hSi h1 h3 h5 h6 e1; grind) | grind)
  have e3 : S * (2 * X + 1) = 2 * (X * S) + S := by (first | (clear hS hi hX hx hy h2 hX0 hlt h4 hQ hSi h1 h3 h5 h6 e1 e2; grind) | grind)
  (first | (clear hS hi hX hx hy hX0 hlt hQ; omega) | omega)

theorem ipow_one (b : Int) : b ^ 1 = b := by rw [Int.pow_succ, Int.pow_zero, Int.one_mul]
noncomputable def n_iexp : List Str := ["x", "M", "L", "R", "T", "y", "Mshift", "i", "k"]
noncomputable def p_iexp : List Str := ["x", "M", "L"]
noncomputable def u_iexp : List B := [(.fn "_div_nearest"), .int, .len, .nbits, .range, .str]
noncomputable def s_iexp_1b : S :=
  (.set 5 (.call "_div_nearest" (.cons (.bin .Mult (.var 0) (.bin .Add (.var 6) (.var 5))) (.cons (.bin .Mult (.var 6) (.var 7)) .nil)))
  .nil)
noncomputable def s_iexp_2b : S :=
  (.set 6 (.bin .LShift (.var 1) (.bin .Add (.var 8) (.lit 2)))
  (.set 5 (.call "_div_nearest" (.cons (.bin .Mult (.var 5) (.bin .Add (.var 5) (.var 6))) (.cons (.var 6) .nil)))
  .nil))
noncomputable def s_iexp_2r : S :=
  (.ret (.bin .Add (.var 1) (.var 5)))
noncomputable def s_iexp_2 : S := .forR 8 (.cons (.bin .Sub (.var 3) (.lit 1)) (.cons (.neg (.lit 1)) (.cons (.neg (.lit 1)) .nil))) s_iexp_2b s_iexp_2r
noncomputable def s_iexp_1r : S :=
  s_iexp_2
noncomputable def s_iexp_1 : S := .forR 7 (.cons (.bin .Sub (.var 4) (.lit 1)) (.cons (.lit 0) (.cons (.neg (.lit 1)) .nil))) s_iexp_1b s_iexp_1r
noncomputable def s_iexp : S :=
  (.set 3 (.bi .nbits (.cons (.bin .FloorDiv (.bin .LShift (.var 0) (.var 2)) (.var 1)) .nil))
  (.set 4 (.neg (.bi .int (.cons (.bin .FloorDiv (.bin .Mult (.neg (.lit 10)) (.bi .len (.cons (.bi .str (.cons (.var 1) .nil)) .nil))) (.bin .Mult (.lit 3) (.var 2))) .nil)))
  (.set 5 (.call "_div_nearest" (.cons (.var 0) (.cons (.var 4) .nil)))
  (.set 6 (.bin .LShift (.var 1) (.var 3))
  s_iexp_1))))

inductive GD : Str → List D → D → Prop where
  | div (a b : Int) (hb : 0 < b) (hs : b.natAbs.log2 < 9000) : GD "_div_nearest" [.int a, .int b] (.int (divN a b))

theorem cnt_down (n : Nat) (z : Int) : cnt (z + n) z (-1) = n := by
  unfold cnt Builtin.Range.rangeSize
  rw [if_neg (by decide)]
  split
  · have : z + (n : Int) - z - 1 = n - 1 := by omega
    rw [this]
    have : ((n : Int) - 1) / (-(-1)) = n - 1 := by simp
    rw [this]; omega
  · omega

theorem nz' {a : Int} (h : 0 < a) : a ≠ 0 := by omega
theorem bits_add {a b : Int} {k : Nat} (h : a.natAbs < 2 ^ k) (hk : k ≤ 1000) (hb : b ≤ 1000) : (Builtin.Int.intBits a : Int) + b ≤ 2 ^ 27 := by
  have := intBits_le h
  (first | (clear h; omega) | omega)
theorem scale2 {x M L : Int} (hM : 0 < M) (hL : 1 ≤ L) : 2 * (x.natAbs : Int) ≤ M * 2 ^ nR x M L := by
  obtain ⟨hR1, _⟩ := nR_facts (x := x) (L := L) hM
  have hl2 : (2 : Int) ≤ 2 ^ L.toNat := by
    have := ipow_le (c := 2) (by decide) (show 1 ≤ L.toNat by first | with_reducible assumption | with_reducible exact Int.le_of_lt (by assumption) | with_reducible exact Nat.le_of_lt (by assumption) | with_reducible exact qz1 (by assumption) | with_reducible exact qz2 (by assumption) | with_reducible exact qz3 (by assumption) | with_reducible exact qz4 (by assumption) | with_reducible exact qz5 (by assumption) | with_reducible exact qz6 (by assumption) | with_reducible exact qz7 (by assumption) | with_reducible exact qz8 (by assumption) | with_reducible exact qz9 (by assumption) | with_reducible exact qza (by assumption) | with_reducible exact qzb (by assumption) | with_reducible exact qzc | with_reducible exact qzd | with_reducible exact qze | (first | (clear hM hR1; omega) | omega))
    rwa [ipow_one] at this
  have : (x.natAbs : Int) * 2 ≤ x.natAbs * 2 ^ L.toNat := Int.mul_le_mul_of_nonneg_left hl2 (by first | with_reducible assumption | with_reducible exact Int.le_of_lt (by assumption) | with_reducible exact Nat.le_of_lt (by assumption) | with_reducible exact qz1 (by assumption) | with_reducible exact qz2 (by assumption) | with_reducible exact qz3 (by assumption) | with_reducible exact qz4 (by assumption) | with_reducible exact qz5 (by assumption) | with_reducible exact qz6 (by assumption) | with_reducible exact qz7 (by assumption) | with_reducible exact qz8 (by assumption) | with_reducible exact qz9 (by assumption) | with_reducible exact qza (by assumption) | with_reducible exact qzb (by assumption) | with_reducible exact qzc | with_reducible exact qzd | with_reducible exact qze | omega)
  split at hR1 <;> (first | (clear hL hl2; omega) | omega)
theorem szp2 {M : Int} {R k : Nat} (hM : M.natAbs < 2 ^ 300) (hR : R ≤ k) : (M * 2 ^ R).natAbs < 2 ^ (300 + k) := by
  rw [Int.natAbs_mul, Nat.pow_add, Int.natAbs_pow]
  have h2 : (2 : Int).natAbs ^ R ≤ 2 ^ k := Nat.pow_le_pow_right (by decide) hR
  exact Nat.mul_lt_mul_of_lt_of_le hM h2 (Nat.pow_pos (by decide))
theorem le_sz {a b : Int} {k : Nat} (h : (a.natAbs : Int) ≤ 2 * b.natAbs + 1) (hb : b.natAbs < 2 ^ k) : a.natAbs < 2 ^ (k + 1) := by
  rw [Nat.pow_succ]
  generalize (2 : Nat) ^ k = p at *
  omega
theorem first_le {x T : Int} (hT : 1 ≤ T) : ((divN x T).natAbs : Int) ≤ 2 * x.natAbs + 1 := by
  have h1 := divN_natAbs (a := x) (show 0 < T by first | with_reducible assumption | with_reducible exact Int.le_of_lt (by assumption) | with_reducible exact Nat.le_of_lt (by assumption) | with_reducible exact qz1 (by assumption) | with_reducible exact qz2 (by assumption) | with_reducible exact qz3 (by assumption) | with_reducible exact qz4 (by assumption) | with_reducible exact qz5 (by assumption) | with_reducible exact qz6 (by assumption) | with_reducible exact qz7 (by assumption) | with_reducible exact qz8 (by assumption) | with_reducible exact qz9 (by assumption) | with_reducible exact qza (by assumption) | with_reducible exact qzb (by assumption) | with_reducible exact qzc | with_reducible exact qzd | with_reducible exact qze | omega)
  generalize ((divN x T).natAbs : Int) = q at *
  refine Int.not_lt.mp fun hlt => ?_
  have h2 : 2 * q * 1 ≤ 2 * q * T := Int.mul_le_mul_of_nonneg_left hT (by first | with_reducible assumption | with_reducible exact Int.le_of_lt (by assumption) | with_reducible exact Nat.le_of_lt (by assumption) | with_reducible exact qz1 (by assumption) | with_reducible exact qz2 (by assumption) | with_reducible exact qz3 (by assumption) | with_reducible exact qz4 (by assumption) | with_reducible exact qz5 (by assumption) | with_reducible exact qz6 (by assumption) | with_reducible exact qz7 (by assumption) | with_reducible exact qz8 (by assumption) | with_reducible exact qz9 (by assumption) | with_reducible exact qza (by assumption) | with_reducible exact qzb (by assumption) | with_reducible exact qzc | with_reducible exact qzd | with_reducible exact qze | (first | (clear hT h1; omega) | omega))
  have h3 : 2 * (2 * (x.natAbs : Int) + 2) * T ≤ 2 * q * T := Int.mul_le_mul_of_nonneg_right (by first | with_reducible assumption | with_reducible exact Int.le_of_lt (by assumption) | with_reducible exact Nat.le_of_lt (by assumption) | with_reducible exact qz1 (by assumption) | with_reducible exact qz2 (by assumption) | with_reducible exact qz3 (by assumption) | with_reducible exact qz4 (by assumption) | with_reducible exact qz5 (by assumption) | with_reducible exact qz6 (by assumption) | with_reducible exact qz7 (by assumption) | with_reducible exact qz8 (by assumption) | with_reducible exact qz9 (by assumption) | with_reducible exact qza (by assumption) | with_reducible exact qzb (by assumption) | with_reducible exact qzc | with_reducible exact qzd | with_reducible exact qze | (first | (clear hT h1 h2; omega) | omega)) (by first | with_reducible assumption | with_reducible exact Int.le_of_lt (by assumption) | with_reducible exact Nat.le_of_lt (by assumption) | with_reducible exact qz1 (by assumption) | with_reducible exact qz2 (by assumption) | with_reducible exact qz3 (by assumption) | with_reducible exact qz4 (by assumption) | with_reducible exact qz5 (by assumption) | with_reducible exact qz6 (by assumption) | with_reducible exact qz7 (by assumption) | with_reducible exact qz8 (by assumption) | with_reducible exact qz9 (by assumption) | with_reducible exact qza (by assumption) | with_reducible exact qzb (by assumption) | with_reducible exact qzc | with_reducible exact qzd | with_reducible exact qze | omega)
  have h4 : (x.natAbs : Int) * 1 ≤ x.natAbs * T := Int.mul_le_mul_of_nonneg_left hT (by first | with_reducible assumption | with_reducible exact Int.le_of_lt (by assumption) | with_reducible exact Nat.le_of_lt (by assumption) | with_reducible exact qz1 (by assumption) | with_reducible exact qz2 (by assumption) | with_reducible exact qz3 (by assumption) | with_reducible exact qz4 (by assumption) | with_reducible exact qz5 (by assumption) | with_reducible exact qz6 (by assumption) | with_reducible exact qz7 (by assumption) | with_reducible exact qz8 (by assumption) | with_reducible exact qz9 (by assumption) | with_reducible exact qza (by assumption) | with_reducible exact qzb (by assumption) | with_reducible exact qzc | with_reducible exact qzd | with_reducible exact qze | omega)
  (first | (clear hT; grind) | grind)
theorem iexp_turn {x S y : Int} {j : Nat} (hx : x.natAbs < 2 ^ 306) (hS : S.natAbs < 2 ^ 372) (hy : (y.natAbs : Int) ≤ 2 * x.natAbs + 1) (hj : j ≤ 1000) :
    IntMulOk x (S + y) ∧ IntMulOk S ((j : Int) + 1) ∧ (S * ((j : Int) + 1)).natAbs.log2 < 9000 := by
  have h1 := add_sz rfl hS (bigger 307 372 (le_sz hy hx))
  have h2 : ((j : Int) + 1).natAbs < 2 ^ 10 := by (first | (clear hx hS hy h1; omega) | omega)
  refine ⟨Sm.mul (.of _ hx) (.of _ h1), Sm.mul (.of _ hS) (.of _ h2), lg 382 ?_⟩
  rw [Int.natAbs_mul, show 382 = 372 + 10 from rfl, Nat.pow_add]
  exact Nat.mul_lt_mul'' hS h2
/-! the loop of _law_log -/
theorem fdiv_rat {a b : Int} (hb : 0 < b) : ((a.fdiv b : Int) : Rat) * (b : Rat) ≤ (a : Rat) ∧ (a : Rat) < ((a.fdiv b : Int) : Rat) * (b : Rat) + (b : Rat) := by
  rw [Int.fdiv_eq_ediv_of_nonneg _ (by first | with_reducible assumption | with_reducible exact Int.le_of_lt (by assumption) | with_reducible exact Nat.le_of_lt (by assumption) | with_reducible exact qz1 (by assumption) | with_reducible exact qz2 (by assumption) | with_reducible exact qz3 (by assumption) | with_reducible exact qz4 (by assumption) | with_reducible exact qz5 (by assumption) | with_reducible exact qz6 (by assumption) | with_reducible exact qz7 (by assumption) | with_reducible exact qz8 (by assumption) | with_reducible exact qz9 (by assumption) | with_reducible exact qza (by assumption) | with_reducible exact qzb (by assumption) | with_reducible exact qzc | with_reducible exact qzd | with_reducible exact qze | omega)]
  have h1 := Int.ediv_mul_le a (show b ≠ 0 by first | with_reducible assumption | with_reducible exact Int.le_of_lt (by assumption) | with_reducible exact Nat.le_of_lt (by assumption) | with_reducible exact qz1 (by assumption) | with_reducible exact qz2 (by assumption) | with_reducible exact qz3 (by assumption) | with_reducible exact qz4 (by assumption) | with_reducible exact qz5 (by assumption) | with_reducible exact qz6 (by assumption) | with_reducible exact qz7 (by assumption) | with_reducible exact qz8 (by assumption) | with_reducible exact qz9 (by assumption) | with_reducible exact qza (by assumption) | with_reducible exact qzb (by assumption) | with_reducible exact qzc | with_reducible exact qzd | with_reducible exact qze | omega)
  have h2 := Int.lt_ediv_add_one_mul_self a hb
  have h3 := icast_le h1
  have h4 := Rat.intCast_lt_intCast.mpr h2
  rw [Rat.intCast_mul] at h3
  rw [Rat.intCast_mul, Rat.intCast_add] at h4
  rw [show ((1 : Int) : Rat) = 1 from rfl] at h4
  constructor <;> (first | (clear hb h1 h2; grind) | grind)
/-! factorials -/
noncomputable def fct : Nat → Int
  | 0 => 1
  | n + 1 => fct n * ((n : Int) + 1)
theorem tm_fct (n : Nat) (u : Rat) : tm n u * (fct n : Rat) = u ^ n := by
  induction n with
  | zero => rw [Rat.pow_zero]; show (1 : Rat) * ((1 : Int) : Rat) = 1; rw [show ((1 : Int) : Rat) = 1 from rfl]; grind
  | succ n ih =>
    have h1 := tm_succ n u
    show tm (n + 1) u * ((fct n * ((n : Int) + 1) : Int) : Rat) = _
    rw [Rat.intCast_mul, Rat.intCast_add, Rat.intCast_natCast, show ((1 : Int) : Rat) = 1 from rfl, Rat.pow_succ, ← ih]
    (first | (clear ih; grind) | grind)
/-! sums -/
noncomputable def sumTo (f : Nat → Int) : Nat → Int
  | 0 => 0
  | n + 1 => sumTo f n + f n
theorem sE_sum {d c : Rat} {f : Nat → Int} : ∀ (n : Nat) (Q : Int), (∀ j < n, c * (ex d (-(2 ^ (n - j) * Q)) / 2) ≤ (f j : Rat)) → c * sE d n Q ≤ (sumTo f n : Rat)
  | 0, _, _ => by show c * 0 ≤ ((0 : Int) : Rat); rw [show ((0 : Int) : Rat) = 0 from rfl]; grind
  | n + 1, Q, h => by
    have ih := sE_sum (d := d) (c := c) (f := f) n (2 * Q) (fun j hj => by
      have := h j (by first | with_reducible assumption | with_reducible exact Int.le_of_lt (by assumption) | with_reducible exact Nat.le_of_lt (by assumption) | with_reducible exact qz1 (by assumption) | with_reducible exact qz2 (by assumption) | with_reducible exact qz3 (by assumption) | with_reducible exact qz4 (by assumption) | with_reducible exact qz5 (by assumption) | with_reducible exact qz6 (by assumption) | with_reducible exact qz7 (by assumption) | with_reducible exact qz8 (by assumption) | with_reducible exact qz9 (by assumption) | with_reducible exact qza (by assumption) | with_reducible exact qzb (by assumption) | with_reducible exact qzc | with_reducible exact qzd | with_reducible exact qze | (first | (clear h; omega) | omega))
      rw [show n + 1 - j = (n - j) + 1 by (first | (clear h this; omega) | omega), Int.pow_succ] at this
      rw [show (2 : Int) ^ (n - j) * (2 * Q) = 2 ^ (n - j) * 2 * Q by (first | (clear h hj this; grind) | grind)]
      exact this)
    have h2 := h n (by first | with_reducible assumption | with_reducible exact Int.le_of_lt (by assumption) | with_reducible exact Nat.le_of_lt (by assumption) | with_reducible exact qz1 (by assumption) | with_reducible exact qz2 (by assumption) | with_reducible exact qz3 (by assumption) | with_reducible exact qz4 (by assumption) | with_reducible exact qz5 (by assumption) | with_reducible exact qz6 (by assumption) | with_reducible exact qz7 (by assumption) | with_reducible exact qz8 (by assumption) | with_reducible exact qz9 (by assumption) | with_reducible exact qza (by assumption) | with_reducible exact qzb (by assumption) | with_reducible exact qzc | with_reducible exact qzd | with_reducible exact qze | (first | (clear h ih; omega) | omega))
    rw [show n + 1 - n = 1 by (first | (clear h ih h2; omega) | omega), show (2 : Int) ^ 1 = 2 from rfl] at h2
    show c * (ex d (-(2 * Q)) / 2 + sE d n (2 * Q)) ≤ ((sumTo f n + f n : Int) : Rat)
    rw [Rat.intCast_add]
    (first | (clear h; grind) | grind)
theorem rmul_pow (a b : Rat) (n : Nat) : (a * b) ^ n = a ^ n * b ^ n := by
  induction n with
  | zero => rw [Rat.pow_zero, Rat.pow_zero, Rat.pow_zero]; grind
  | succ n ih => rw [Rat.pow_succ, Rat.pow_succ, Rat.pow_succ, ih]; (first | (clear ih; grind) | grind)
theorem ex_mulN' {d : Rat} (hd : 0 < d) (k : Nat) (p : Int) : ex d ((k : Int) * p) = ex d p ^ k := by
  induction k with
  | zero => rw [show ((0 : Nat) : Int) * p = 0 by simp, ex_zero, Rat.pow_zero]
  | succ k ih => rw [show ((k + 1 : Nat) : Int) * p = (k : Int) * p + p by rw [Int.natCast_add]; (first | (clear hd ih; grind) | grind), ex_add hd, ih, Rat.pow_succ]
/-- exp(-t) is no more than 1 by 1 + t / k, k times multiplied by itself -/
theorem ex_pow_le {d : Rat} (hd : 0 < d) (k : Nat) {c m b : Int} (hm : 0 < m) (hmb : 0 < m + b) (h : (m : Rat) * ((c : Rat) * d) = (b : Rat)) : ex d (-((k : Int) * c)) * ((m + b : Int) : Rat) ^ k ≤ (m : Rat) ^ k := by
  have h1 := ex_ge hd c
  have hmr := ipos hm
  have e : ((m + b : Int) : Rat) = (m : Rat) * (1 + (c : Rat) * d) := by rw [Rat.intCast_add, ← h]; (first | (clear hd hm hmb h h1 hmr; grind) | grind)
  have hp : 0 < 1 + (c : Rat) * d := by
    have := ipos hmb
    rw [e] at this
    refine Rat.not_le.mp fun hle => ?_
    have := Rat.mul_le_mul_of_nonneg_left hle (Rat.le_of_lt hmr)
    (first | (clear hd hm hmb h h1 hmr e hle; grind) | grind)
  rw [e, rmul_pow]
  have h2 := pow_mono (Rat.le_of_lt hp) h1 k
  have h3 := ex_neg hd ((k : Int) * c)
  rw [ex_mulN' hd k c] at h3
  have h4 := Rat.mul_le_mul_of_nonneg_left h2 (Rat.le_of_lt (Rat.mul_pos (ex_pos hd (-((k : Int) * c))) (Rat.pow_pos hmr (n := k))))
  have e2 : ex d (-((k : Int) * c)) * (m : Rat) ^ k * ex d c ^ k = (m : Rat) ^ k := by
    have : ex d (-((k : Int) * c)) * (m : Rat) ^ k * ex d c ^ k = (m : Rat) ^ k * (ex d c ^ k * ex d (-((k : Int) * c))) := by (first | (clear hd hm hmb h h1 hmr e hp h2 h3 h4; grind) | grind)
    rw [this, h3]; (first | (clear hd hm hmb h h1 hmr e hp h2 h3 h4 this; grind) | grind)
  rw [e2] at h4
  (first | (clear hd hm hmb h h1 hmr e hp h2 h3 e2; grind) | grind)
theorem floor_pow {d : Rat} (hd : 0 < d) (k : Nat) {s c m b : Int} (hs : 0 ≤ s) (hm : 0 < m) (hmb : 0 < m + b) (h : (m : Rat) * ((c : Rat) * d) = (b : Rat)) : (s : Rat) * ex d (-((k : Int) * c)) ≤ ((s * m ^ k).fdiv ((m + b) ^ k) : Int) + 1 ∧ (s : Rat) * (ex d (-((k : Int) * c)) / 2) ≤ ((s * m ^ k).fdiv (2 * (m + b) ^ k) : Int) + 1 := by
  have h1 := ex_pow_le hd k hm hmb h
  have hq : 0 < (m + b) ^ k := Int.pow_pos hmb
  have hqr := ipos hq
  have hsr : (0 : Rat) ≤ (s : Rat) := Rat.intCast_nonneg.mpr hs
  have h2 := Rat.mul_le_mul_of_nonneg_left h1 hsr
  rw [← Rat.intCast_pow] at h2
  constructor
  · have h3 := (fdiv_rat (a := s * m ^ k) hq).2
    rw [Rat.intCast_mul, Rat.intCast_pow] at h3
    refine div_le' hqr ?_
    generalize (((s * m ^ k).fdiv ((m + b) ^ k) : Int) : Rat) = q at *
    generalize (((m + b) ^ k : Int) : Rat) = w at *
    (first | (clear hd hs hm hmb h h1 hq hsr hqr; grind) | grind)
  · have h3 := (fdiv_rat (a := s * m ^ k) (b := 2 * (m + b) ^ k) (by first | with_reducible assumption | with_reducible exact Int.le_of_lt (by assumption) | with_reducible exact Nat.le_of_lt (by assumption) | with_reducible exact qz1 (by assumption) | with_reducible exact qz2 (by assumption) | with_reducible exact qz3 (by assumption) | with_reducible exact qz4 (by assumption) | with_reducible exact qz5 (by assumption) | with_reducible exact qz6 (by assumption) | with_reducible exact qz7 (by assumption) | with_reducible exact qz8 (by assumption) | with_reducible exact qz9 (by assumption) | with_reducible exact qza (by assumption) | with_reducible exact qzb (by assumption) | with_reducible exact qzc | with_reducible exact qzd | with_reducible exact qze | (first | (clear hd hs hm hmb h h1 hqr hsr h2; omega) | omega))).2
    rw [Rat.intCast_mul, Rat.intCast_pow, Rat.intCast_mul, show ((2 : Int) : Rat) = 2 from rfl] at h3
    refine div_le' (show (0 : Rat) < 2 * (((m + b) ^ k : Int) : Rat) by (first | (clear hd hs hm hmb h h1 hq hsr h2 h3; grind) | grind)) ?_
    generalize (((s * m ^ k).fdiv (2 * (m + b) ^ k) : Int) : Rat) = q at *
    generalize (((m + b) ^ k : Int) : Rat) = w at *
    (first | (clear hd hs hm hmb h h1 hq hsr hqr; grind) | grind)

/-! law 10: what _law_bound computes -/
noncomputable def t10 (x M L : Int) : Nat := nR (-(x.natAbs : Int)) M L
noncomputable def termC (x M : Int) (j : Nat) : Int := (10 ^ 6 * (64 * (M * 2 ^ j)) ^ 64).fdiv (2 * (64 * (M * 2 ^ j) + x) ^ 64) + 1
noncomputable def bnd10 (x M L : Int) : Int := 700000 + (10 ^ 6 * (x.natAbs : Int)).fdiv (16 * M) + 1 + sumTo (termC x M) (t10 x M L)
theorem t10_facts {x M L : Int} (hM : 0 < M) : (x.natAbs : Int) * 2 ^ L.toNat + M ≤ M * 2 ^ t10 x M L ∧ ∀ j < t10 x M L, M * 2 ^ j < (x.natAbs : Int) * 2 ^ L.toNat + M := by
  obtain ⟨h1, h2⟩ := nR_facts (x := -(x.natAbs : Int)) (L := L) hM
  have e : ((-(x.natAbs : Int)).natAbs : Int) = (x.natAbs : Int) := by (first | (clear hM h1 h2; omega) | omega)
  rw [e] at h1 h2
  unfold t10
  by_cases hx : x = 0
  · subst hx
    have hz : ((0 : Int).natAbs : Int) * 2 ^ L.toNat = 0 := by simp
    have hp : ∀ j : Nat, M * 1 ≤ M * 2 ^ j := fun j => Int.mul_le_mul_of_nonneg_left (by have := p2pos j; (first | (clear hM h1 h2 e hz; omega) | omega)) (by first | with_reducible assumption | with_reducible exact Int.le_of_lt (by assumption) | with_reducible exact Nat.le_of_lt (by assumption) | with_reducible exact qz1 (by assumption) | with_reducible exact qz2 (by assumption) | with_reducible exact qz3 (by assumption) | with_reducible exact qz4 (by assumption) | with_reducible exact qz5 (by assumption) | with_reducible exact qz6 (by assumption) | with_reducible exact qz7 (by assumption) | with_reducible exact qz8 (by assumption) | with_reducible exact qz9 (by assumption) | with_reducible exact qza (by assumption) | with_reducible exact qzb (by assumption) | with_reducible exact qzc | with_reducible exact qzd | with_reducible exact qze | omega)
    refine ⟨by have := hp (nR (-((0 : Int).natAbs : Int)) M L); (first | (clear hM h1 h2 e hp; omega) | omega), fun j hj => ?_⟩
    have := h2 j hj
    have := hp j
    rw [if_neg (by simp)] at *
    (first | (clear h1 h2 e hp hj; omega) | omega)
  · rw [if_pos (by first | with_reducible assumption | with_reducible exact Int.le_of_lt (by assumption) | with_reducible exact Nat.le_of_lt (by assumption) | with_reducible exact qz1 (by assumption) | with_reducible exact qz2 (by assumption) | with_reducible exact qz3 (by assumption) | with_reducible exact qz4 (by assumption) | with_reducible exact qz5 (by assumption) | with_reducible exact qz6 (by assumption) | with_reducible exact qz7 (by assumption) | with_reducible exact qz8 (by assumption) | with_reducible exact qz9 (by assumption) | with_reducible exact qza (by assumption) | with_reducible exact qzb (by assumption) | with_reducible exact qzc | with_reducible exact qzd | with_reducible exact qze | (first | (clear hM h1 h2 e; omega) | omega))] at h1 h2
    exact ⟨h1, h2⟩
theorem nR_le_t10 {x M L : Int} (hM : 0 < M) : nR x M L ≤ t10 x M L := by
  obtain ⟨h1, _⟩ := t10_facts (x := x) (L := L) hM
  refine Nat.not_lt.mp fun hlt => ?_
  have := (nR_facts (x := x) (L := L) hM).2 _ hlt
  split at this <;> (first | (clear hlt; omega) | omega)
theorem t10_le {x M L : Int} (hM : 0 < M) (hx : 2 * (x.natAbs : Int) ≤ 15 * M) (hL : L ≤ 10) : t10 x M L ≤ 13 := by
  refine Nat.not_lt.mp fun hlt => ?_
  have h := (t10_facts (x := x) (L := L) hM).2 13 hlt
  have h2 : (2 : Int) ^ L.toNat ≤ 2 ^ 10 := ipow_le (by decide) (by first | with_reducible assumption | with_reducible exact Int.le_of_lt (by assumption) | with_reducible exact Nat.le_of_lt (by assumption) | with_reducible exact qz1 (by assumption) | with_reducible exact qz2 (by assumption) | with_reducible exact qz3 (by assumption) | with_reducible exact qz4 (by assumption) | with_reducible exact qz5 (by assumption) | with_reducible exact qz6 (by assumption) | with_reducible exact qz7 (by assumption) | with_reducible exact qz8 (by assumption) | with_reducible exact qz9 (by assumption) | with_reducible exact qza (by assumption) | with_reducible exact qzb (by assumption) | with_reducible exact qzc | with_reducible exact qzd | with_reducible exact qze | (first | (clear hM hx hlt h; omega) | omega))
  have h3 : 2 * (x.natAbs : Int) * 2 ^ L.toNat ≤ 15 * M * 2 ^ 10 := Int.mul_le_mul hx h2 (Int.le_of_lt (p2pos _)) (by first | with_reducible assumption | with_reducible exact Int.le_of_lt (by assumption) | with_reducible exact Nat.le_of_lt (by assumption) | with_reducible exact qz1 (by assumption) | with_reducible exact qz2 (by assumption) | with_reducible exact qz3 (by assumption) | with_reducible exact qz4 (by assumption) | with_reducible exact qz5 (by assumption) | with_reducible exact qz6 (by assumption) | with_reducible exact qz7 (by assumption) | with_reducible exact qz8 (by assumption) | with_reducible exact qz9 (by assumption) | with_reducible exact qza (by assumption) | with_reducible exact qzb (by assumption) | with_reducible exact qzc | with_reducible exact qzd | with_reducible exact qze | (first | (clear hx hL hlt h h2; omega) | omega))
  have e : 2 * (x.natAbs : Int) * 2 ^ L.toNat = 2 * ((x.natAbs : Int) * 2 ^ L.toNat) := by (first | (clear hM hx hL hlt h h2 h3; grind) | grind)
  (first | (clear hx hL hlt h2; omega) | omega)
/-! the answer is no less than M + x -/
theorem divN_ub {a b q : Int} (hb : 0 < b) (h : a ≤ q * b) : divN a b ≤ q := by
  obtain ⟨e, h1, h2, h3, _⟩ := divN_spec a b hb
  refine Int.not_lt.mp fun hlt => ?_
  have : (q + 1) * b ≤ divN a b * b := Int.mul_le_mul_of_nonneg_right (by first | with_reducible assumption | with_reducible exact Int.le_of_lt (by assumption) | with_reducible exact Nat.le_of_lt (by assumption) | with_reducible exact qz1 (by assumption) | with_reducible exact qz2 (by assumption) | with_reducible exact qz3 (by assumption) | with_reducible exact qz4 (by assumption) | with_reducible exact qz5 (by assumption) | with_reducible exact qz6 (by assumption) | with_reducible exact qz7 (by assumption) | with_reducible exact qz8 (by assumption) | with_reducible exact qz9 (by assumption) | with_reducible exact qza (by assumption) | with_reducible exact qzb (by assumption) | with_reducible exact qzc | with_reducible exact qzd | with_reducible exact qze | (first | (clear hb h h1 h2 h3; omega) | omega)) (by first | with_reducible assumption | with_reducible exact Int.le_of_lt (by assumption) | with_reducible exact Nat.le_of_lt (by assumption) | with_reducible exact qz1 (by assumption) | with_reducible exact qz2 (by assumption) | with_reducible exact qz3 (by assumption) | with_reducible exact qz4 (by assumption) | with_reducible exact qz5 (by assumption) | with_reducible exact qz6 (by assumption) | with_reducible exact qz7 (by assumption) | with_reducible exact qz8 (by assumption) | with_reducible exact qz9 (by assumption) | with_reducible exact qza (by assumption) | with_reducible exact qzb (by assumption) | with_reducible exact qzc | with_reducible exact qzd | with_reducible exact qze | omega)
  have e2 : (q + 1) * b = q * b + b := by (first | (clear hb h h1 h2 h3 hlt this; grind) | grind)
  (first | (clear hlt; omega) | omega)
theorem ser_neg_in {x S : Int} (hx : x ≤ 0) (hS : -S ≤ x) (hS0 : 0 < S) : ∀ (n : Nat) (y : Int), x ≤ y → y ≤ 0 → x ≤ ser x S n y ∧ ser x S n y ≤ 0
  | 0, y, h1, h2 => ⟨h1, h2⟩
  | n + 1, y, h1, h2 => by
    have hb : 0 < S * ((n : Int) + 1) := Int.mul_pos hS0 (by first | with_reducible assumption | with_reducible exact Int.le_of_lt (by assumption) | with_reducible exact Nat.le_of_lt (by assumption) | with_reducible exact qz1 (by assumption) | with_reducible exact qz2 (by assumption) | with_reducible exact qz3 (by assumption) | with_reducible exact qz4 (by assumption) | with_reducible exact qz5 (by assumption) | with_reducible exact qz6 (by assumption) | with_reducible exact qz7 (by assumption) | with_reducible exact qz8 (by assumption) | with_reducible exact qz9 (by assumption) | with_reducible exact qza (by assumption) | with_reducible exact qzb (by assumption) | with_reducible exact qzc | with_reducible exact qzd | with_reducible exact qze | omega)
    refine ser_neg_in hx hS hS0 n _ (divN_ge hb ?_) (divN_ub hb ?_)
    · have a1 : x * (S * ((n : Int) + 1)) ≤ x * S := Int.mul_le_mul_of_nonpos_left hx (by
        have := Int.mul_le_mul_of_nonneg_left (show (1 : Int) ≤ (n : Int) + 1 by (first | (clear hx hS hS0 h1 h2 hb; omega) | omega)) (show 0 ≤ S by first | with_reducible assumption | with_reducible exact Int.le_of_lt (by assumption) | with_reducible exact Nat.le_of_lt (by assumption) | with_reducible exact qz1 (by assumption) | with_reducible exact qz2 (by assumption) | with_reducible exact qz3 (by assumption) | with_reducible exact qz4 (by assumption) | with_reducible exact qz5 (by assumption) | with_reducible exact qz6 (by assumption) | with_reducible exact qz7 (by assumption) | with_reducible exact qz8 (by assumption) | with_reducible exact qz9 (by assumption) | with_reducible exact qza (by assumption) | with_reducible exact qzb (by assumption) | with_reducible exact qzc | with_reducible exact qzd | with_reducible exact qze | omega)
        (first | (clear hx hS hS0 h1 h2 hb; omega) | omega))
      have a2 : x * S ≤ x * (S + y) := Int.mul_le_mul_of_nonpos_left hx (by first | with_reducible assumption | with_reducible exact Int.le_of_lt (by assumption) | with_reducible exact Nat.le_of_lt (by assumption) | with_reducible exact qz1 (by assumption) | with_reducible exact qz2 (by assumption) | with_reducible exact qz3 (by assumption) | with_reducible exact qz4 (by assumption) | with_reducible exact qz5 (by assumption) | with_reducible exact qz6 (by assumption) | with_reducible exact qz7 (by assumption) | with_reducible exact qz8 (by assumption) | with_reducible exact qz9 (by assumption) | with_reducible exact qza (by assumption) | with_reducible exact qzb (by assumption) | with_reducible exact qzc | with_reducible exact qzd | with_reducible exact qze | (first | (clear hx hS hS0 h1 hb a1; omega) | omega))
      (first | (clear hx hS hS0 h1 h2 hb; omega) | omega)
    · have := Int.mul_nonpos_of_nonpos_of_nonneg hx (show 0 ≤ S + y by first | with_reducible assumption | with_reducible exact Int.le_of_lt (by assumption) | with_reducible exact Nat.le_of_lt (by assumption) | with_reducible exact qz1 (by assumption) | with_reducible exact qz2 (by assumption) | with_reducible exact qz3 (by assumption) | with_reducible exact qz4 (by assumption) | with_reducible exact qz5 (by assumption) | with_reducible exact qz6 (by assumption) | with_reducible exact qz7 (by assumption) | with_reducible exact qz8 (by assumption) | with_reducible exact qz9 (by assumption) | with_reducible exact qza (by assumption) | with_reducible exact qzb (by assumption) | with_reducible exact qzc | with_reducible exact qzd | with_reducible exact qze | (first | (clear hx hS0 h2 hb; omega) | omega))
      (first | (clear hx hS hS0 h1 h2 hb; omega) | omega)
theorem dbl_ge {M : Int} (hM : 0 < M) : ∀ (n : Nat) (y : Int), y ≤ dbl M n y
  | 0, _ => Int.le_refl _
  | n + 1, y => by
    have hp : 0 < M * 2 ^ (n + 2) := Int.mul_pos hM (p2pos _)
    have h1 : y ≤ divN (y * (y + M * 2 ^ (n + 2))) (M * 2 ^ (n + 2)) := divN_ge hp (by
      have := sqn y
      have e : y * (y + M * 2 ^ (n + 2)) = y * y + y * (M * 2 ^ (n + 2)) := by (first | (clear hM hp this; grind) | grind)
      (first | (clear hM hp; omega) | omega))
    exact Int.le_trans h1 (dbl_ge hM n _)
theorem iexp_ge {x M L : Int} (hM : 1000 ≤ M) (hL : 1 ≤ L) (hL2 : L ≤ 12) : M + x ≤ iexp x M L := by
  have hM0 : 0 < M := by first | with_reducible assumption | with_reducible exact Int.le_of_lt (by assumption) | with_reducible exact Nat.le_of_lt (by assumption) | with_reducible exact qz1 (by assumption) | with_reducible exact qz2 (by assumption) | with_reducible exact qz3 (by assumption) | with_reducible exact qz4 (by assumption) | with_reducible exact qz5 (by assumption) | with_reducible exact qz6 (by assumption) | with_reducible exact qz7 (by assumption) | with_reducible exact qz8 (by assumption) | with_reducible exact qz9 (by assumption) | with_reducible exact qza (by assumption) | with_reducible exact qzb (by assumption) | with_reducible exact qzc | with_reducible exact qzd | with_reducible exact qze | omega
  rw [iexp_iy hM0 hL]
  have h1 := dbl_ge hM0 (nR x M L) (iy x M L)
  have hn := nN_ge2 hM hL hL2
  have hS := sS_pos (x := x) (L := L) hM0
  have key : x ≤ iy x M L := by
    unfold iy
    show x ≤ ser x (sS x M L) (nN M L) (divN x ((nN M L : Int) + 1))
    rcases Int.le_total 0 x with h | h
    · obtain ⟨m, hm⟩ : ∃ m, nN M L = m + 1 := ⟨nN M L - 1, by (first | (clear hM hL hL2 hM0 h1 hS h; omega) | omega)⟩
      rw [hm]
      exact ser_ge h hS m _ (divN_nonneg h (by first | with_reducible assumption | with_reducible exact Int.le_of_lt (by assumption) | with_reducible exact Nat.le_of_lt (by assumption) | with_reducible exact qz1 (by assumption) | with_reducible exact qz2 (by assumption) | with_reducible exact qz3 (by assumption) | with_reducible exact qz4 (by assumption) | with_reducible exact qz5 (by assumption) | with_reducible exact qz6 (by assumption) | with_reducible exact qz7 (by assumption) | with_reducible exact qz8 (by assumption) | with_reducible exact qz9 (by assumption) | with_reducible exact qza (by assumption) | with_reducible exact qzb (by assumption) | with_reducible exact qzc | with_reducible exact qzd | with_reducible exact qze | omega))
    · have hf := (nR_facts (x := x) (L := L) hM0).1
      have hb : 0 < ((nN M L : Int) + 1) := by (first | (clear hM hL hL2 hM0 h1 hS h hf; omega) | omega)
      have hxS : -(sS x M L) ≤ x := by
        have hp := p2pos L.toNat
        have : (x.natAbs : Int) * 1 ≤ (x.natAbs : Int) * 2 ^ L.toNat := Int.mul_le_mul_of_nonneg_left (by first | with_reducible assumption | with_reducible exact Int.le_of_lt (by assumption) | with_reducible exact Nat.le_of_lt (by assumption) | with_reducible exact qz1 (by assumption) | with_reducible exact qz2 (by assumption) | with_reducible exact qz3 (by assumption) | with_reducible exact qz4 (by assumption) | with_reducible exact qz5 (by assumption) | with_reducible exact qz6 (by assumption) | with_reducible exact qz7 (by assumption) | with_reducible exact qz8 (by assumption) | with_reducible exact qz9 (by assumption) | with_reducible exact qza (by assumption) | with_reducible exact qzb (by assumption) | with_reducible exact qzc | with_reducible exact qzd | with_reducible exact qze | (first | (clear hM hL hL2 hM0 h1 hn hS h hf hb; omega) | omega)) (by first | with_reducible assumption | with_reducible exact Int.le_of_lt (by assumption) | with_reducible exact Nat.le_of_lt (by assumption) | with_reducible exact qz1 (by assumption) | with_reducible exact qz2 (by assumption) | with_reducible exact qz3 (by assumption) | with_reducible exact qz4 (by assumption) | with_reducible exact qz5 (by assumption) | with_reducible exact qz6 (by assumption) | with_reducible exact qz7 (by assumption) | with_reducible exact qz8 (by assumption) | with_reducible exact qz9 (by assumption) | with_reducible exact qza (by assumption) | with_reducible exact qzb (by assumption) | with_reducible exact qzc | with_reducible exact qzd | with_reducible exact qze | omega)
        have hi : (0 : Int) ≤ (if x < 0 then M else 1) := by split <;> (first | (clear hL hL2 hM0 h1 hn hS h hf hb hp this; omega) | omega)
        unfold sS
        (first | (clear hM hL hL2 hM0 h1 hn hS hb hp; omega) | omega)
      refine (ser_neg_in h hxS hS _ _ (divN_ge hb ?_) (divN_ub hb (by first | with_reducible assumption | with_reducible exact Int.le_of_lt (by assumption) | with_reducible exact Nat.le_of_lt (by assumption) | with_reducible exact qz1 (by assumption) | with_reducible exact qz2 (by assumption) | with_reducible exact qz3 (by assumption) | with_reducible exact qz4 (by assumption) | with_reducible exact qz5 (by assumption) | with_reducible exact qz6 (by assumption) | with_reducible exact qz7 (by assumption) | with_reducible exact qz8 (by assumption) | with_reducible exact qz9 (by assumption) | with_reducible exact qza (by assumption) | with_reducible exact qzb (by assumption) | with_reducible exact qzc | with_reducible exact qzd | with_reducible exact qze | (first | (clear hM hL hL2 hM0 h1 hn hS hf hb hxS; omega) | omega)))).1
      have := Int.mul_le_mul_of_nonpos_left h (show (1 : Int) ≤ (nN M L : Int) + 1 by (first | (clear hM hL hL2 hM0 h1 hS h hf hb hxS; omega) | omega))
      (first | (clear hM hL hL2 hM0 h1 hn hS h hf hb hxS; omega) | omega)
  (first | (clear hM hL hL2 hM0 hn hS; omega) | omega)
/-! sizes of the bound -/
theorem ipow_mono {a b : Int} (ha : 0 ≤ a) (h : a ≤ b) : ∀ k : Nat, a ^ k ≤ b ^ k
  | 0 => by simp
  | k + 1 => by rw [Int.pow_succ, Int.pow_succ]; exact Int.mul_le_mul (ipow_mono ha h k) h ha (Int.pow_nonneg (by first | with_reducible assumption | with_reducible exact Int.le_of_lt (by assumption) | with_reducible exact Nat.le_of_lt (by assumption) | with_reducible exact qz1 (by assumption) | with_reducible exact qz2 (by assumption) | with_reducible exact qz3 (by assumption) | with_reducible exact qz4 (by assumption) | with_reducible exact qz5 (by assumption) | with_reducible exact qz6 (by assumption) | with_reducible exact qz7 (by assumption) | with_reducible exact qz8 (by assumption) | with_reducible exact qz9 (by assumption) | with_reducible exact qza (by assumption) | with_reducible exact qzb (by assumption) | with_reducible exact qzc | with_reducible exact qzd | with_reducible exact qze | omega))
theorem imul_pow (a b : Int) : ∀ k : Nat, (a * b) ^ k = a ^ k * b ^ k
  | 0 => by simp
  | k + 1 => by rw [Int.pow_succ, Int.pow_succ, Int.pow_succ, imul_pow a b k]; grind
theorem termC_le {x M p q C : Int} {j : Nat} (hM : 0 < M) (hx : 0 < 64 * (M * 2 ^ j) + x) (hp : 0 < p) (hq : 0 < q) (hC : 0 ≤ C) (h1 : p * (64 * (M * 2 ^ j)) ≤ q * (64 * (M * 2 ^ j) + x)) (h2 : 10 ^ 6 * q ^ 64 ≤ 2 * C * p ^ 64) : 1 ≤ termC x M j ∧ termC x M j ≤ C + 1 := by
  have hm : 0 < 64 * (M * 2 ^ j) := by have := Int.mul_pos hM (p2pos j); (first | (clear hM hx hp hq hC h1 h2; omega) | omega)
  unfold termC
  generalize 64 * (M * 2 ^ j) = m at *
  generalize m + x = n at *
  have h3 := ipow_mono (Int.le_of_lt (Int.mul_pos hp hm)) h1 64
  rw [imul_pow, imul_pow] at h3
  have hP : 0 < p ^ 64 := Int.pow_pos hp
  have hA : 0 < m ^ 64 := Int.pow_pos hm
  have hB : 0 < n ^ 64 := Int.pow_pos hx
  generalize p ^ 64 = P at *
  generalize q ^ 64 = Q at *
  generalize m ^ 64 = A at *
  generalize n ^ 64 = B at *
  have h0 : 0 ≤ (10 ^ 6 * A).fdiv (2 * B) := Int.fdiv_nonneg (by first | with_reducible assumption | with_reducible exact Int.le_of_lt (by assumption) | with_reducible exact Nat.le_of_lt (by assumption) | with_reducible exact qz1 (by assumption) | with_reducible exact qz2 (by assumption) | with_reducible exact qz3 (by assumption) | with_reducible exact qz4 (by assumption) | with_reducible exact qz5 (by assumption) | with_reducible exact qz6 (by assumption) | with_reducible exact qz7 (by assumption) | with_reducible exact qz8 (by assumption) | with_reducible exact qz9 (by assumption) | with_reducible exact qza (by assumption) | with_reducible exact qzb (by assumption) | with_reducible exact qzc | with_reducible exact qzd | with_reducible exact qze | (first | (clear hM hp hq hC hm hx h1 hP h2 hB h3; omega) | omega)) (by first | with_reducible assumption | with_reducible exact Int.le_of_lt (by assumption) | with_reducible exact Nat.le_of_lt (by assumption) | with_reducible exact qz1 (by assumption) | with_reducible exact qz2 (by assumption) | with_reducible exact qz3 (by assumption) | with_reducible exact qz4 (by assumption) | with_reducible exact qz5 (by assumption) | with_reducible exact qz6 (by assumption) | with_reducible exact qz7 (by assumption) | with_reducible exact qz8 (by assumption) | with_reducible exact qz9 (by assumption) | with_reducible exact qza (by assumption) | with_reducible exact qzb (by assumption) | with_reducible exact qzc | with_reducible exact qzd | with_reducible exact qze | (first | (clear hM hp hq hC hm hx h1 hP h2 hA h3; omega) | omega))
  refine ⟨by (first | (clear hM hp hq hC hm hx h1 hP h2 hA hB h3; omega) | omega), ?_⟩
  have h4 : (10 ^ 6 * A).fdiv (2 * B) ≤ C := by
    rw [Int.fdiv_eq_ediv_of_nonneg _ (by first | with_reducible assumption | with_reducible exact Int.le_of_lt (by assumption) | with_reducible exact Nat.le_of_lt (by assumption) | with_reducible exact qz1 (by assumption) | with_reducible exact qz2 (by assumption) | with_reducible exact qz3 (by assumption) | with_reducible exact qz4 (by assumption) | with_reducible exact qz5 (by assumption) | with_reducible exact qz6 (by assumption) | with_reducible exact qz7 (by assumption) | with_reducible exact qz8 (by assumption) | with_reducible exact qz9 (by assumption) | with_reducible exact qza (by assumption) | with_reducible exact qzb (by assumption) | with_reducible exact qzc | with_reducible exact qzd | with_reducible exact qze | (first | (clear hM hp hq hC hm hx h1 hP h2 hA h3 h0; omega) | omega))]
    refine Int.ediv_le_of_le_mul (by first | with_reducible assumption | with_reducible exact Int.le_of_lt (by assumption) | with_reducible exact Nat.le_of_lt (by assumption) | with_reducible exact qz1 (by assumption) | with_reducible exact qz2 (by assumption) | with_reducible exact qz3 (by assumption) | with_reducible exact qz4 (by assumption) | with_reducible exact qz5 (by assumption) | with_reducible exact qz6 (by assumption) | with_reducible exact qz7 (by assumption) | with_reducible exact qz8 (by assumption) | with_reducible exact qz9 (by assumption) | with_reducible exact qza (by assumption) | with_reducible exact qzb (by assumption) | with_reducible exact qzc | with_reducible exact qzd | with_reducible exact qze | (first | (clear hM hp hq hC hm hx h1 hP h2 hA h3 h0; omega) | omega)) ?_
    refine Int.le_of_mul_le_mul_left ?_ hP
    have h5 := Int.mul_le_mul_of_nonneg_left h3 (show (0 : Int) ≤ 10 ^ 6 by decide)
    have h6 := Int.mul_le_mul_of_nonneg_right h2 (Int.le_of_lt hB)
    have e1 : P * (10 ^ 6 * A) = 10 ^ 6 * (P * A) := by (first | (clear hM hp hq hC hm hx h1 hP h2 hA hB h3 h0 h5 h6; grind) | grind)
    have e2 : P * (C * (2 * B)) = 2 * C * P * B := by (first | (clear hM hp hq hC hm hx h1 hP h2 hA hB h3 h0 h5 h6 e1; grind) | grind)
    have e3 : 10 ^ 6 * (Q * B) = 10 ^ 6 * Q * B := by (first | (clear hM hp hq hC hm hx h1 hP h2 hA hB h3 h0 h5 h6 e1 e2; grind) | grind)
    (first | (clear hM hp hq hC hm hx h1 hP h2 hA hB h0 h5; omega) | omega)
  (first | (clear hM hp hq hC hm hx h1 hP h2 hA hB h3 h0; omega) | omega)
theorem sumTo_le2 {f : Nat → Int} {c0 c : Int} {n : Nat} (hc0 : 0 ≤ c0) (h0 : 0 < n → f 0 ≤ c0) (h : ∀ j, j + 1 < n → f (j + 1) ≤ c) (hc : 0 ≤ c) : ∀ k : Nat, k ≤ n → sumTo f k ≤ c0 + c * k
  | 0, _ => by show (0 : Int) ≤ c0 + c * ((0 : Nat) : Int); simp; exact hc0
  | 1, hk => by
    show 0 + f 0 ≤ c0 + c * ((1 : Nat) : Int)
    have := h0 (by first | with_reducible assumption | with_reducible exact Int.le_of_lt (by assumption) | with_reducible exact Nat.le_of_lt (by assumption) | with_reducible exact qz1 (by assumption) | with_reducible exact qz2 (by assumption) | with_reducible exact qz3 (by assumption) | with_reducible exact qz4 (by assumption) | with_reducible exact qz5 (by assumption) | with_reducible exact qz6 (by assumption) | with_reducible exact qz7 (by assumption) | with_reducible exact qz8 (by assumption) | with_reducible exact qz9 (by assumption) | with_reducible exact qza (by assumption) | with_reducible exact qzb (by assumption) | with_reducible exact qzc | with_reducible exact qzd | with_reducible exact qze | (first | (clear hc0 h0 h hc; omega) | omega))
    simp; (first | (clear hc0 h0 h hk; omega) | omega)
  | k + 2, hk => by
    have ih := sumTo_le2 hc0 h0 h hc (k + 1) (by first | with_reducible assumption | with_reducible exact Int.le_of_lt (by assumption) | with_reducible exact Nat.le_of_lt (by assumption) | with_reducible exact qz1 (by assumption) | with_reducible exact qz2 (by assumption) | with_reducible exact qz3 (by assumption) | with_reducible exact qz4 (by assumption) | with_reducible exact qz5 (by assumption) | with_reducible exact qz6 (by assumption) | with_reducible exact qz7 (by assumption) | with_reducible exact qz8 (by assumption) | with_reducible exact qz9 (by assumption) | with_reducible exact qza (by assumption) | with_reducible exact qzb (by assumption) | with_reducible exact qzc | with_reducible exact qzd | with_reducible exact qze | (first | (clear hc0 h0 h hc; omega) | omega))
    have hn := h k (by first | with_reducible assumption | with_reducible exact Int.le_of_lt (by assumption) | with_reducible exact Nat.le_of_lt (by assumption) | with_reducible exact qz1 (by assumption) | with_reducible exact qz2 (by assumption) | with_reducible exact qz3 (by assumption) | with_reducible exact qz4 (by assumption) | with_reducible exact qz5 (by assumption) | with_reducible exact qz6 (by assumption) | with_reducible exact qz7 (by assumption) | with_reducible exact qz8 (by assumption) | with_reducible exact qz9 (by assumption) | with_reducible exact qza (by assumption) | with_reducible exact qzb (by assumption) | with_reducible exact qzc | with_reducible exact qzd | with_reducible exact qze | (first | (clear hc0 h0 h hc ih; omega) | omega))
    show sumTo f (k + 1) + f (k + 1) ≤ c0 + c * ((k + 2 : Nat) : Int)
    have : c * ((k + 2 : Nat) : Int) = c * ((k + 1 : Nat) : Int) + c := by rw [Int.natCast_add, Int.natCast_add]; (first | (clear hc0 h0 h hc hk ih hn; grind) | grind)
    (first | (clear hc0 h0 h hc hk; omega) | omega)
theorem sumTo_nn {f : Nat → Int} (h : ∀ j, 0 ≤ f j) : ∀ {k n : Nat}, k ≤ n → 0 ≤ sumTo f k ∧ sumTo f k ≤ sumTo f n := by
  have h0 : ∀ k, 0 ≤ sumTo f k := fun k => by
    induction k with
    | zero => exact Int.le_refl _
    | succ k ih => have := h k; show 0 ≤ sumTo f k + f k; (first | (clear h; omega) | omega)
  intro k n hk
  refine ⟨h0 k, ?_⟩
  obtain ⟨m, rfl⟩ := Nat.exists_eq_add_of_le hk
  induction m with
  | zero => exact Int.le_refl _
  | succ m ih => have := ih (by first | with_reducible assumption | with_reducible exact Int.le_of_lt (by assumption) | with_reducible exact Nat.le_of_lt (by assumption) | with_reducible exact qz1 (by assumption) | with_reducible exact qz2 (by assumption) | with_reducible exact qz3 (by assumption) | with_reducible exact qz4 (by assumption) | with_reducible exact qz5 (by assumption) | with_reducible exact qz6 (by assumption) | with_reducible exact qz7 (by assumption) | with_reducible exact qz8 (by assumption) | with_reducible exact qz9 (by assumption) | with_reducible exact qza (by assumption) | with_reducible exact qzb (by assumption) | with_reducible exact qzc | with_reducible exact qzd | with_reducible exact qze | (first | (clear h h0 ih hk; omega) | omega)); have := h (k + m); show sumTo f k ≤ sumTo f (k + m) + f (k + m); (first | (clear h h0 ih hk; omega) | omega)
theorem p2_ge (j : Nat) : (1 : Int) ≤ 2 ^ j := by have := p2pos j; omega
theorem m2_ge {M : Int} (hM : 0 < M) (j : Nat) : M ≤ M * 2 ^ j := by
  have := Int.mul_le_mul_of_nonneg_left (p2_ge j) (show 0 ≤ M by first | with_reducible assumption | with_reducible exact Int.le_of_lt (by assumption) | with_reducible exact Nat.le_of_lt (by assumption) | with_reducible exact qz1 (by assumption) | with_reducible exact qz2 (by assumption) | with_reducible exact qz3 (by assumption) | with_reducible exact qz4 (by assumption) | with_reducible exact qz5 (by assumption) | with_reducible exact qz6 (by assumption) | with_reducible exact qz7 (by assumption) | with_reducible exact qz8 (by assumption) | with_reducible exact qz9 (by assumption) | with_reducible exact qza (by assumption) | with_reducible exact qzb (by assumption) | with_reducible exact qzc | with_reducible exact qzd | with_reducible exact qze | omega)
  (first | (clear hM; omega) | omega)
theorem termC_nn {x M : Int} (hM : 0 < M) (hx : 2 * (x.natAbs : Int) ≤ 15 * M) (j : Nat) : 0 ≤ termC x M j := by
  have := m2_ge hM j
  have := (termC_le (x := x) (M := M) (j := j) (p := 113) (q := 128) (C := 1458000000) hM (by first | with_reducible assumption | with_reducible exact Int.le_of_lt (by assumption) | with_reducible exact Nat.le_of_lt (by assumption) | with_reducible exact qz1 (by assumption) | with_reducible exact qz2 (by assumption) | with_reducible exact qz3 (by assumption) | with_reducible exact qz4 (by assumption) | with_reducible exact qz5 (by assumption) | with_reducible exact qz6 (by assumption) | with_reducible exact qz7 (by assumption) | with_reducible exact qz8 (by assumption) | with_reducible exact qz9 (by assumption) | with_reducible exact qza (by assumption) | with_reducible exact qzb (by assumption) | with_reducible exact qzc | with_reducible exact qzd | with_reducible exact qze | omega) (by decide) (by decide) (by decide) (by first | with_reducible assumption | with_reducible exact Int.le_of_lt (by assumption) | with_reducible exact Nat.le_of_lt (by assumption) | with_reducible exact qz1 (by assumption) | with_reducible exact qz2 (by assumption) | with_reducible exact qz3 (by assumption) | with_reducible exact qz4 (by assumption) | with_reducible exact qz5 (by assumption) | with_reducible exact qz6 (by assumption) | with_reducible exact qz7 (by assumption) | with_reducible exact qz8 (by assumption) | with_reducible exact qz9 (by assumption) | with_reducible exact qza (by assumption) | with_reducible exact qzb (by assumption) | with_reducible exact qzc | with_reducible exact qzd | with_reducible exact qze | (first | (clear hM; omega) | omega)) (by decide)).1
  (first | (clear hM hx; omega) | omega)
theorem bnd10_le {x M L : Int} (hM : 0 < M) (hx : 2 * (x.natAbs : Int) ≤ 15 * M) (hL : L ≤ 10) : 700000 ≤ bnd10 x M L ∧ bnd10 x M L ≤ 1790000000 := by
  have ht := t10_le hM hx hL
  have h1 := (sumTo_nn (termC_nn hM hx) (Nat.le_refl (t10 x M L))).1
  have h2 := sumTo_le2 (f := termC x M) (c0 := 1458000001) (c := 24000001) (n := t10 x M L) (by decide) (fun _ => by
      have := m2_ge hM 0
      exact (termC_le (p := 113) (q := 128) (C := 1458000000) hM (by first | with_reducible assumption | with_reducible exact Int.le_of_lt (by assumption) | with_reducible exact Nat.le_of_lt (by assumption) | with_reducible exact qz1 (by assumption) | with_reducible exact qz2 (by assumption) | with_reducible exact qz3 (by assumption) | with_reducible exact qz4 (by assumption) | with_reducible exact qz5 (by assumption) | with_reducible exact qz6 (by assumption) | with_reducible exact qz7 (by assumption) | with_reducible exact qz8 (by assumption) | with_reducible exact qz9 (by assumption) | with_reducible exact qza (by assumption) | with_reducible exact qzb (by assumption) | with_reducible exact qzc | with_reducible exact qzd | with_reducible exact qze | (first | (clear hL ht h1 this; omega) | omega)) (by decide) (by decide) (by decide) (by first | with_reducible assumption | with_reducible exact Int.le_of_lt (by assumption) | with_reducible exact Nat.le_of_lt (by assumption) | with_reducible exact qz1 (by assumption) | with_reducible exact qz2 (by assumption) | with_reducible exact qz3 (by assumption) | with_reducible exact qz4 (by assumption) | with_reducible exact qz5 (by assumption) | with_reducible exact qz6 (by assumption) | with_reducible exact qz7 (by assumption) | with_reducible exact qz8 (by assumption) | with_reducible exact qz9 (by assumption) | with_reducible exact qza (by assumption) | with_reducible exact qzb (by assumption) | with_reducible exact qzc | with_reducible exact qzd | with_reducible exact qze | (first | (clear hM hL ht h1 this; omega) | omega)) (by decide)).2) (fun j _ => by
      have h9 := m2_ge hM j
      have e : M * 2 ^ (j + 1) = 2 * (M * 2 ^ j) := by rw [Int.pow_succ]; (first | (clear hM hx hL ht h1 h9; grind) | grind)
      exact (termC_le (p := 241) (q := 256) (C := 24000000) hM (by first | with_reducible assumption | with_reducible exact Int.le_of_lt (by assumption) | with_reducible exact Nat.le_of_lt (by assumption) | with_reducible exact qz1 (by assumption) | with_reducible exact qz2 (by assumption) | with_reducible exact qz3 (by assumption) | with_reducible exact qz4 (by assumption) | with_reducible exact qz5 (by assumption) | with_reducible exact qz6 (by assumption) | with_reducible exact qz7 (by assumption) | with_reducible exact qz8 (by assumption) | with_reducible exact qz9 (by assumption) | with_reducible exact qza (by assumption) | with_reducible exact qzb (by assumption) | with_reducible exact qzc | with_reducible exact qzd | with_reducible exact qze | (first | (clear hL ht h1; omega) | omega)) (by decide) (by decide) (by decide) (by first | with_reducible assumption | with_reducible exact Int.le_of_lt (by assumption) | with_reducible exact Nat.le_of_lt (by assumption) | with_reducible exact qz1 (by assumption) | with_reducible exact qz2 (by assumption) | with_reducible exact qz3 (by assumption) | with_reducible exact qz4 (by assumption) | with_reducible exact qz5 (by assumption) | with_reducible exact qz6 (by assumption) | with_reducible exact qz7 (by assumption) | with_reducible exact qz8 (by assumption) | with_reducible exact qz9 (by assumption) | with_reducible exact qza (by assumption) | with_reducible exact qzb (by assumption) | with_reducible exact qzc | with_reducible exact qzd | with_reducible exact qze | (first | (clear hM hL ht h1; omega) | omega)) (by decide)).2) (by decide) _ (Nat.le_refl _)
  have h3 : 0 ≤ (10 ^ 6 * (x.natAbs : Int)).fdiv (16 * M) := Int.fdiv_nonneg (by first | with_reducible assumption | with_reducible exact Int.le_of_lt (by assumption) | with_reducible exact Nat.le_of_lt (by assumption) | with_reducible exact qz1 (by assumption) | with_reducible exact qz2 (by assumption) | with_reducible exact qz3 (by assumption) | with_reducible exact qz4 (by assumption) | with_reducible exact qz5 (by assumption) | with_reducible exact qz6 (by assumption) | with_reducible exact qz7 (by assumption) | with_reducible exact qz8 (by assumption) | with_reducible exact qz9 (by assumption) | with_reducible exact qza (by assumption) | with_reducible exact qzb (by assumption) | with_reducible exact qzc | with_reducible exact qzd | with_reducible exact qze | (first | (clear hM hx hL ht h1 h2; omega) | omega)) (by first | with_reducible assumption | with_reducible exact Int.le_of_lt (by assumption) | with_reducible exact Nat.le_of_lt (by assumption) | with_reducible exact qz1 (by assumption) | with_reducible exact qz2 (by assumption) | with_reducible exact qz3 (by assumption) | with_reducible exact qz4 (by assumption) | with_reducible exact qz5 (by assumption) | with_reducible exact qz6 (by assumption) | with_reducible exact qz7 (by assumption) | with_reducible exact qz8 (by assumption) | with_reducible exact qz9 (by assumption) | with_reducible exact qza (by assumption) | with_reducible exact qzb (by assumption) | with_reducible exact qzc | with_reducible exact qzd | with_reducible exact qze | (first | (clear hx hL ht h1 h2; omega) | omega))
  have h4 : (10 ^ 6 * (x.natAbs : Int)).fdiv (16 * M) ≤ 470000 := by
    rw [Int.fdiv_eq_ediv_of_nonneg _ (by first | with_reducible assumption | with_reducible exact Int.le_of_lt (by assumption) | with_reducible exact Nat.le_of_lt (by assumption) | with_reducible exact qz1 (by assumption) | with_reducible exact qz2 (by assumption) | with_reducible exact qz3 (by assumption) | with_reducible exact qz4 (by assumption) | with_reducible exact qz5 (by assumption) | with_reducible exact qz6 (by assumption) | with_reducible exact qz7 (by assumption) | with_reducible exact qz8 (by assumption) | with_reducible exact qz9 (by assumption) | with_reducible exact qza (by assumption) | with_reducible exact qzb (by assumption) | with_reducible exact qzc | with_reducible exact qzd | with_reducible exact qze | (first | (clear hx hL ht h1 h2 h3; omega) | omega))]
    exact Int.ediv_le_of_le_mul (by first | with_reducible assumption | with_reducible exact Int.le_of_lt (by assumption) | with_reducible exact Nat.le_of_lt (by assumption) | with_reducible exact qz1 (by assumption) | with_reducible exact qz2 (by assumption) | with_reducible exact qz3 (by assumption) | with_reducible exact qz4 (by assumption) | with_reducible exact qz5 (by assumption) | with_reducible exact qz6 (by assumption) | with_reducible exact qz7 (by assumption) | with_reducible exact qz8 (by assumption) | with_reducible exact qz9 (by assumption) | with_reducible exact qza (by assumption) | with_reducible exact qzb (by assumption) | with_reducible exact qzc | with_reducible exact qzd | with_reducible exact qze | (first | (clear hx hL ht h1 h2 h3; omega) | omega)) (by first | with_reducible assumption | with_reducible exact Int.le_of_lt (by assumption) | with_reducible exact Nat.le_of_lt (by assumption) | with_reducible exact qz1 (by assumption) | with_reducible exact qz2 (by assumption) | with_reducible exact qz3 (by assumption) | with_reducible exact qz4 (by assumption) | with_reducible exact qz5 (by assumption) | with_reducible exact qz6 (by assumption) | with_reducible exact qz7 (by assumption) | with_reducible exact qz8 (by assumption) | with_reducible exact qz9 (by assumption) | with_reducible exact qza (by assumption) | with_reducible exact qzb (by assumption) | with_reducible exact qzc | with_reducible exact qzd | with_reducible exact qze | (first | (clear hL ht h1 h2 h3; omega) | omega))
  unfold bnd10
  (first | (clear hM hx hL; omega) | omega)
theorem bnd10_le' {x M L : Int} (hM : 0 < M) (hx : 2 * (x.natAbs : Int) ≤ 3 * M) (hL : L ≤ 10) : bnd10 x M L ≤ 32000000 := by
  have ht := t10_le hM (show 2 * (x.natAbs : Int) ≤ 15 * M by (first | (clear hL; omega) | omega)) hL
  have hj : ∀ j, termC x M j ≤ 2300001 := fun j => by
    have := m2_ge hM j
    exact (termC_le (p := 125) (q := 128) (C := 2300000) hM (by first | with_reducible assumption | with_reducible exact Int.le_of_lt (by assumption) | with_reducible exact Nat.le_of_lt (by assumption) | with_reducible exact qz1 (by assumption) | with_reducible exact qz2 (by assumption) | with_reducible exact qz3 (by assumption) | with_reducible exact qz4 (by assumption) | with_reducible exact qz5 (by assumption) | with_reducible exact qz6 (by assumption) | with_reducible exact qz7 (by assumption) | with_reducible exact qz8 (by assumption) | with_reducible exact qz9 (by assumption) | with_reducible exact qza (by assumption) | with_reducible exact qzb (by assumption) | with_reducible exact qzc | with_reducible exact qzd | with_reducible exact qze | (first | (clear hL ht; omega) | omega)) (by decide) (by decide) (by decide) (by first | with_reducible assumption | with_reducible exact Int.le_of_lt (by assumption) | with_reducible exact Nat.le_of_lt (by assumption) | with_reducible exact qz1 (by assumption) | with_reducible exact qz2 (by assumption) | with_reducible exact qz3 (by assumption) | with_reducible exact qz4 (by assumption) | with_reducible exact qz5 (by assumption) | with_reducible exact qz6 (by assumption) | with_reducible exact qz7 (by assumption) | with_reducible exact qz8 (by assumption) | with_reducible exact qz9 (by assumption) | with_reducible exact qza (by assumption) | with_reducible exact qzb (by assumption) | with_reducible exact qzc | with_reducible exact qzd | with_reducible exact qze | (first | (clear hM hL ht; omega) | omega)) (by decide)).2
  have h2 := sumTo_le2 (f := termC x M) (c0 := 2300001) (c := 2300001) (n := t10 x M L) (by decide) (fun _ => hj 0) (fun j _ => hj _) (by decide) _ (Nat.le_refl _)
  have h4 : (10 ^ 6 * (x.natAbs : Int)).fdiv (16 * M) ≤ 94000 := by
    rw [Int.fdiv_eq_ediv_of_nonneg _ (by first | with_reducible assumption | with_reducible exact Int.le_of_lt (by assumption) | with_reducible exact Nat.le_of_lt (by assumption) | with_reducible exact qz1 (by assumption) | with_reducible exact qz2 (by assumption) | with_reducible exact qz3 (by assumption) | with_reducible exact qz4 (by assumption) | with_reducible exact qz5 (by assumption) | with_reducible exact qz6 (by assumption) | with_reducible exact qz7 (by assumption) | with_reducible exact qz8 (by assumption) | with_reducible exact qz9 (by assumption) | with_reducible exact qza (by assumption) | with_reducible exact qzb (by assumption) | with_reducible exact qzc | with_reducible exact qzd | with_reducible exact qze | (first | (clear hx hL ht hj h2; omega) | omega))]
    exact Int.ediv_le_of_le_mul (by first | with_reducible assumption | with_reducible exact Int.le_of_lt (by assumption) | with_reducible exact Nat.le_of_lt (by assumption) | with_reducible exact qz1 (by assumption) | with_reducible exact qz2 (by assumption) | with_reducible exact qz3 (by assumption) | with_reducible exact qz4 (by assumption) | with_reducible exact qz5 (by assumption) | with_reducible exact qz6 (by assumption) | with_reducible exact qz7 (by assumption) | with_reducible exact qz8 (by assumption) | with_reducible exact qz9 (by assumption) | with_reducible exact qza (by assumption) | with_reducible exact qzb (by assumption) | with_reducible exact qzc | with_reducible exact qzd | with_reducible exact qze | (first | (clear hx hL ht hj h2; omega) | omega)) (by first | with_reducible assumption | with_reducible exact Int.le_of_lt (by assumption) | with_reducible exact Nat.le_of_lt (by assumption) | with_reducible exact qz1 (by assumption) | with_reducible exact qz2 (by assumption) | with_reducible exact qz3 (by assumption) | with_reducible exact qz4 (by assumption) | with_reducible exact qz5 (by assumption) | with_reducible exact qz6 (by assumption) | with_reducible exact qz7 (by assumption) | with_reducible exact qz8 (by assumption) | with_reducible exact qz9 (by assumption) | with_reducible exact qza (by assumption) | with_reducible exact qzb (by assumption) | with_reducible exact qzc | with_reducible exact qzd | with_reducible exact qze | (first | (clear hL ht hj h2; omega) | omega))
  have h5 : sumTo (termC x M) (t10 x M L) ≤ 2300001 * 13 := by
    refine Nat.le_total 0 0 |>.elim (fun _ => ?_) (fun _ => ?_) <;>
    · have key : ∀ k, sumTo (termC x M) k ≤ 2300001 * (k : Int) := fun k => by
        induction k with
        | zero => show (0 : Int) ≤ 2300001 * ((0 : Nat) : Int); simp
        | succ k ih => have := hj k; show sumTo (termC x M) k + termC x M k ≤ 2300001 * ((k + 1 : Nat) : Int); (first | (clear hM hx hL ht hj h2 h4; omega) | omega)
      have := key (t10 x M L)
      (first | (clear hM hx hL hj h2 h4 key; omega) | omega)
  unfold bnd10
  (first | (clear hM hx hL ht hj h2; omega) | omega)

/-- the step for law 10, one for all numbers -/
structure S10 (M : Int) (d : Rat) (W : Int) : Prop where
  hd : 0 < d
  hW : 1000000000000 ≤ W
  h1 : (M : Rat) * 8192 * (64 * (W : Rat)) * d = 1
theorem rinv_pos {a : Rat} (ha : 0 < a) : 0 < 1 / a := by
  refine Rat.not_le.mp fun hle => ?_
  have := Rat.mul_le_mul_of_nonneg_left hle (Rat.le_of_lt ha)
  have e : a * (1 / a) = 1 := by (first | (clear hle; grind) | grind)
  rw [e, Rat.mul_zero] at this
  exact absurd this (by decide)
theorem S10_ex {M : Int} (hM : 0 < M) : ∃ d W, S10 M d W := by
  have hp : (0 : Rat) < (M : Rat) * 8192 * (64 * ((1000000000000 : Int) : Rat)) := by
    have := ipos hM
    rw [show ((1000000000000 : Int) : Rat) = 1000000000000 from rfl]
    (first | (clear hM; grind) | grind)
  refine ⟨1 / ((M : Rat) * 8192 * (64 * ((1000000000000 : Int) : Rat))), 1000000000000, ?_, by decide, ?_⟩
  · exact rinv_pos hp
  · generalize (M : Rat) * 8192 * (64 * ((1000000000000 : Int) : Rat)) = a at *
    (first | (clear hM; grind) | grind)
noncomputable def PP (x M L W : Int) : Int := 64 * W * 2 ^ (13 - nR x M L) * x
theorem pw13 {R : Nat} (h : R ≤ 13) : (2 : Rat) ^ R * 2 ^ (13 - R) = 8192 := by rw [← rpow_add, show R + (13 - R) = 13 by omega]; rfl
theorem pw13i {R : Nat} (h : R ≤ 13) : (2 : Int) ^ R * 2 ^ (13 - R) = 8192 := by rw [← Int.pow_add, show R + (13 - R) = 13 by omega]; rfl
theorem S10.facts {x M L W : Int} {d : Rat} (h : S10 M d W) (hM : 1000 ≤ M) (hR : nR x M L ≤ 13) : (x : Rat) = (sS x M L : Rat) * (((PP x M L W : Int) : Rat) * d) ∧ 2 ^ nR x M L * PP x M L W = 524288 * W * x ∧
    d ≤ 1 / 1000000 ∧ (sS x M L : Rat) * d * 64000000000000 ≤ 1 := by
  have hM0 : 0 < M := by first | with_reducible assumption | with_reducible exact Int.le_of_lt (by assumption) | with_reducible exact Nat.le_of_lt (by assumption) | with_reducible exact qz1 (by assumption) | with_reducible exact qz2 (by assumption) | with_reducible exact qz3 (by assumption) | with_reducible exact qz4 (by assumption) | with_reducible exact qz5 (by assumption) | with_reducible exact qz6 (by assumption) | with_reducible exact qz7 (by assumption) | with_reducible exact qz8 (by assumption) | with_reducible exact qz9 (by assumption) | with_reducible exact qza (by assumption) | with_reducible exact qzb (by assumption) | with_reducible exact qzc | with_reducible exact qzd | with_reducible exact qze | omega
  have hSe : (sS x M L : Rat) = (M : Rat) * 2 ^ nR x M L := by unfold sS; rw [icast_p2]
  have hMr : (1000 : Rat) ≤ (M : Rat) := icast_le hM
  have hWr : (1000000000000 : Rat) ≤ (W : Rat) := icast_le h.hW
  have hd := h.hd
  have h1 := h.h1
  have hp := pw13 hR
  have hpi := pw13i hR
  have h2 : 1 ≤ (2 : Rat) ^ (13 - nR x M L) := pow2ge _
  have h3 : 0 < (2 : Rat) ^ nR x M L := pow2pos _
  refine ⟨?_, ?_, ?_, ?_⟩
  · unfold PP
    have e2 : (((2 : Int) ^ (13 - nR x M L) : Int) : Rat) = 2 ^ (13 - nR x M L) := by rw [Rat.intCast_pow]; rfl
    rw [Rat.intCast_mul, Rat.intCast_mul, Rat.intCast_mul, e2, hSe, show ((64 : Int) : Rat) = 64 from rfl]
    generalize (2 : Rat) ^ nR x M L = a at *
    generalize (2 : Rat) ^ (13 - nR x M L) = b at *
    have : (M : Rat) * a * (64 * (W : Rat) * b * (x : Rat) * d) = (x : Rat) * ((M : Rat) * (a * b) * (64 * (W : Rat)) * d) := by (first | (clear h hM hR hM0 hMr hWr hd h1 hpi hSe h3 h2 e2 hp; grind) | grind)
    rw [this, hp, h1]; (first | (clear h hM hR hM0 hMr hWr hd h1 hpi hSe h3 h2 e2 hp this; grind) | grind)
  · unfold PP
    generalize (2 : Int) ^ nR x M L = a at *
    generalize (2 : Int) ^ (13 - nR x M L) = b at *
    have : a * (64 * W * b * x) = (a * b) * (64 * W * x) := by (first | (clear h hM hR hM0 hSe hMr hWr hd h1 hp h2 h3 hpi; grind) | grind)
    rw [this, hpi]; (first | (clear h hM hR hM0 hSe hMr hWr hd h1 hp h2 h3 hpi this; grind) | grind)
  · have hWd := Rat.mul_pos (show (0 : Rat) < (W : Rat) by (first | (clear h hM hR hM0 hSe hMr hd h1 hp hpi h2 h3; grind) | grind)) hd
    have h5 := Rat.mul_le_mul_of_nonneg_right hWr (Rat.le_of_lt hd)
    have h6 := Rat.mul_le_mul_of_nonneg_right hMr (Rat.le_of_lt hWd)
    (first | (clear h hM hR hM0 hSe hMr hWr hd hp hpi h2 h3 hWd; grind) | grind)
  · rw [hSe]
    have hWd := Rat.mul_pos (show (0 : Rat) < (W : Rat) by (first | (clear h hM hR hM0 hSe hMr hd h1 hp hpi h2 h3; grind) | grind)) hd
    have hMd := Rat.mul_pos (show (0 : Rat) < (M : Rat) by (first | (clear h hM hR hM0 hSe hWr hd h1 hp hpi h2 h3 hWd; grind) | grind)) hd
    generalize (2 : Rat) ^ nR x M L = a at *
    generalize (2 : Rat) ^ (13 - nR x M L) = b at *
    have ha : a ≤ 8192 := by
      have := Rat.mul_le_mul_of_nonneg_left h2 (Rat.le_of_lt h3)
      (first | (clear h hM hR hM0 hMr hWr hd h1 hpi hWd hMd hSe h3 h2; grind) | grind)
    have h5 := rmul (Rat.le_of_lt h3) (show (0 : Rat) ≤ (W : Rat) by (first | (clear h hM hR hM0 hMr hd h1 hpi hWd hMd hSe h3 h2 hp ha; grind) | grind)) ha hWr
    have h6 := Rat.mul_le_mul_of_nonneg_left h5 (Rat.le_of_lt hMd)
    (first | (clear h hM hR hM0 hMr hWr hd hpi hWd hMd hSe h3 h2 hp ha h5; grind) | grind)
theorem nN_ge3 {M L : Int} (hM : 10 ^ 9 ≤ M) (hL : 1 ≤ L) (hL2 : L ≤ 10) : 3 ≤ nN M L := by
  obtain ⟨h1, h2, h3⟩ := nT_facts (show 0 < M by first | with_reducible assumption | with_reducible exact Int.le_of_lt (by assumption) | with_reducible exact Nat.le_of_lt (by assumption) | with_reducible exact qz1 (by assumption) | with_reducible exact qz2 (by assumption) | with_reducible exact qz3 (by assumption) | with_reducible exact qz4 (by assumption) | with_reducible exact qz5 (by assumption) | with_reducible exact qz6 (by assumption) | with_reducible exact qz7 (by assumption) | with_reducible exact qz8 (by assumption) | with_reducible exact qz9 (by assumption) | with_reducible exact qza (by assumption) | with_reducible exact qzb (by assumption) | with_reducible exact qzc | with_reducible exact qzd | with_reducible exact qze | omega) (show 1 ≤ L by first | with_reducible assumption | with_reducible exact Int.le_of_lt (by assumption) | with_reducible exact Nat.le_of_lt (by assumption) | with_reducible exact qz1 (by assumption) | with_reducible exact qz2 (by assumption) | with_reducible exact qz3 (by assumption) | with_reducible exact qz4 (by assumption) | with_reducible exact qz5 (by assumption) | with_reducible exact qz6 (by assumption) | with_reducible exact qz7 (by assumption) | with_reducible exact qz8 (by assumption) | with_reducible exact qz9 (by assumption) | with_reducible exact qza (by assumption) | with_reducible exact qzb (by assumption) | with_reducible exact qzc | with_reducible exact qzd | with_reducible exact qze | omega)
  obtain ⟨e, he, h4, h5⟩ := figs_ex (show 0 < M by first | with_reducible assumption | with_reducible exact Int.le_of_lt (by assumption) | with_reducible exact Nat.le_of_lt (by assumption) | with_reducible exact qz1 (by assumption) | with_reducible exact qz2 (by assumption) | with_reducible exact qz3 (by assumption) | with_reducible exact qz4 (by assumption) | with_reducible exact qz5 (by assumption) | with_reducible exact qz6 (by assumption) | with_reducible exact qz7 (by assumption) | with_reducible exact qz8 (by assumption) | with_reducible exact qz9 (by assumption) | with_reducible exact qza (by assumption) | with_reducible exact qzb (by assumption) | with_reducible exact qzc | with_reducible exact qzd | with_reducible exact qze | omega)
  have h6 : 9 ≤ e := by
    refine Nat.not_lt.mp fun hlt => ?_
    have : (10 : Int) ^ (e + 1) ≤ 10 ^ 9 := ipow_le (by decide) (by first | with_reducible assumption | with_reducible exact Int.le_of_lt (by assumption) | with_reducible exact Nat.le_of_lt (by assumption) | with_reducible exact qz1 (by assumption) | with_reducible exact qz2 (by assumption) | with_reducible exact qz3 (by assumption) | with_reducible exact qz4 (by assumption) | with_reducible exact qz5 (by assumption) | with_reducible exact qz6 (by assumption) | with_reducible exact qz7 (by assumption) | with_reducible exact qz8 (by assumption) | with_reducible exact qz9 (by assumption) | with_reducible exact qza (by assumption) | with_reducible exact qzb (by assumption) | with_reducible exact qzc | with_reducible exact qzd | with_reducible exact qze | (first | (clear hM hL hL2 h1 h2 h3 he h4 h5; omega) | omega))
    (first | (clear hL hL2 h1 h2 h3 he hlt; omega) | omega)
  rw [he] at h2
  unfold nN
  have h7 : 4 ≤ nT M L := by
    refine Int.not_lt.mp fun hlt => ?_
    have : nT M L * (3 * L) ≤ 3 * (3 * L) := Int.mul_le_mul_of_nonneg_right (by first | with_reducible assumption | with_reducible exact Int.le_of_lt (by assumption) | with_reducible exact Nat.le_of_lt (by assumption) | with_reducible exact qz1 (by assumption) | with_reducible exact qz2 (by assumption) | with_reducible exact qz3 (by assumption) | with_reducible exact qz4 (by assumption) | with_reducible exact qz5 (by assumption) | with_reducible exact qz6 (by assumption) | with_reducible exact qz7 (by assumption) | with_reducible exact qz8 (by assumption) | with_reducible exact qz9 (by assumption) | with_reducible exact qza (by assumption) | with_reducible exact qzb (by assumption) | with_reducible exact qzc | with_reducible exact qzd | with_reducible exact qze | (first | (clear hM hL hL2 h3 h2 he h4 h5 h6; omega) | omega)) (by first | with_reducible assumption | with_reducible exact Int.le_of_lt (by assumption) | with_reducible exact Nat.le_of_lt (by assumption) | with_reducible exact qz1 (by assumption) | with_reducible exact qz2 (by assumption) | with_reducible exact qz3 (by assumption) | with_reducible exact qz4 (by assumption) | with_reducible exact qz5 (by assumption) | with_reducible exact qz6 (by assumption) | with_reducible exact qz7 (by assumption) | with_reducible exact qz8 (by assumption) | with_reducible exact qz9 (by assumption) | with_reducible exact qza (by assumption) | with_reducible exact qzb (by assumption) | with_reducible exact qzc | with_reducible exact qzd | with_reducible exact qze | (first | (clear hM h1 h3 h2 he h4 h5 h6 hlt; omega) | omega))
    (first | (clear hM h1 h3 he h4 h5 hlt; omega) | omega)
  (first | (clear hM hL hL2 h1 h3 h2 he h4 h5 h6; omega) | omega)
theorem nN_le53 {M L : Int} (hM : 0 < M) (hM' : M < 10 ^ 13) (hL : 1 ≤ L) : nN M L ≤ 52 := by
  have := nT_le (M := M) (L := L) (k := 13) hM hL hM'
  unfold nN
  (first | (clear hM hM' hL; omega) | omega)
theorem left120 {x M L : Int} {u : Rat} (hM : 0 < M) (hL : 1 ≤ L) (hn : 3 ≤ nN M L) (hu0 : 0 ≤ u) (hxu : (x.natAbs : Rat) = (sS x M L : Rat) * u) : 120 * (M : Rat) * ((sS x M L : Rat) * tm (nN M L + 2) u) ≤ (x.natAbs : Rat) := by
  have hS := ipos (sS_pos (x := x) (L := L) hM)
  have h1 := u_pow hM hL hu0 hxu
  have key : ∀ n, 3 ≤ n → 120 * tm (n + 2) u ≤ u ^ (n + 2) := fun n hn => by
    have hf := tm_fct (n + 2) u
    have hc : (120 : Rat) ≤ (fct (n + 2) : Rat) := by
      have : ∀ m : Nat, 120 ≤ fct (m + 5) := fun m => by
        induction m with
        | zero => decide
        | succ m ih =>
          show 120 ≤ fct (m + 5) * (((m + 5 : Nat) : Int) + 1)
          have := Int.mul_le_mul_of_nonneg_left (show (1 : Int) ≤ ((m + 5 : Nat) : Int) + 1 by (first | (clear hM hL hu0 hxu hS h1 hn hf ih; omega) | omega)) (show 0 ≤ fct (m + 5) by (first | (clear hM hL hu0 hxu hS h1 hn hf; omega) | omega))
          (first | (clear hM hL hu0 hxu hS h1 hn hf; omega) | omega)
      have h9 := this (n - 3)
      rw [show n - 3 + 5 = n + 2 by (first | (clear hM hL hu0 hxu hS h1 hf this h9; omega) | omega)] at h9
      exact icast_le h9
    have := Rat.mul_le_mul_of_nonneg_left hc (tm_nonneg hu0 (n + 2))
    (first | (clear hM hL hu0 hxu hS h1 hn hc; grind) | grind)
  have h2 := key _ hn
  rw [Rat.pow_succ] at h2
  have h3 := Rat.mul_le_mul_of_nonneg_left h2 (Rat.le_of_lt (Rat.mul_pos (ipos hM) hS))
  have h4 := Rat.mul_le_mul_of_nonneg_right h1 (Rat.le_of_lt (Rat.mul_pos hS (show (0 : Rat) < 1 by decide)))
  have h5 := Rat.mul_le_mul_of_nonneg_right h1 (Rat.mul_nonneg (Rat.le_of_lt hS) hu0)
  rw [hxu]
  generalize tm (nN M L + 2) u = a at *
  generalize u ^ (nN M L + 1) = b at *
  (first | (clear hM hL hn hu0 hxu hS key h1 h4 h2; grind) | grind)
theorem u_eighth {x M L : Int} {u : Rat} (hM : 0 < M) (hL : 3 ≤ L) (hu0 : 0 ≤ u) (hxu : (x.natAbs : Rat) = (sS x M L : Rat) * u) : u ≤ 1 / 8 := by
  have h1 := u_le hM hxu
  have h2 : (8 : Rat) ≤ 2 ^ L.toNat := by
    obtain ⟨l, hl⟩ : ∃ l, L.toNat = 3 + l := ⟨L.toNat - 3, by (first | (clear hM hu0 hxu h1; omega) | omega)⟩
    rw [hl, rpow_add, show (2 : Rat) ^ 3 = 8 by rw [Rat.pow_succ, Rat.pow_succ, Rat.pow_succ, Rat.pow_zero]; (first | (clear hM hL hu0 hxu h1 hl; grind) | grind)]
    have := Rat.mul_le_mul_of_nonneg_left (pow2ge l) (show (0 : Rat) ≤ 8 by decide)
    (first | (clear hM hL hu0 hxu h1 hl; grind) | grind)
  have := Rat.mul_le_mul_of_nonneg_left h2 hu0
  (first | (clear hM hL hu0 hxu h2; grind) | grind)
/-- the doublings' halves and what the law says of them -/
theorem sE10 {x M L W : Int} {d : Rat} (h : S10 M d W) (hM : 1000 ≤ M) (hR : nR x M L ≤ 13) (hx : 2 * (x.natAbs : Int) ≤ 15 * M) : 1000000 * sE d (nR x M L) (PP x M L W) ≤ (sumTo (termC x M) (t10 x M L) : Rat) := by
  have hM0 : 0 < M := by first | with_reducible assumption | with_reducible exact Int.le_of_lt (by assumption) | with_reducible exact Nat.le_of_lt (by assumption) | with_reducible exact qz1 (by assumption) | with_reducible exact qz2 (by assumption) | with_reducible exact qz3 (by assumption) | with_reducible exact qz4 (by assumption) | with_reducible exact qz5 (by assumption) | with_reducible exact qz6 (by assumption) | with_reducible exact qz7 (by assumption) | with_reducible exact qz8 (by assumption) | with_reducible exact qz9 (by assumption) | with_reducible exact qza (by assumption) | with_reducible exact qzb (by assumption) | with_reducible exact qzc | with_reducible exact qzd | with_reducible exact qze | omega
  have hd := h.hd
  have hle := (sumTo_nn (termC_nn hM0 hx) (nR_le_t10 (x := x) (L := L) hM0)).2
  refine Rat.le_trans ?_ (icast_le hle)
  refine sE_sum _ _ fun j hj => ?_
  have hm : 0 < 64 * (M * 2 ^ j) := by have := Int.mul_pos hM0 (p2pos j); (first | (clear h hM hR hx hM0 hd hle hj; omega) | omega)
  have hm2 := m2_ge hM0 j
  have e1 : -(2 ^ (nR x M L - j) * PP x M L W) = -(((64 : Nat) : Int) * (2 ^ (nR x M L - j) * W * 2 ^ (13 - nR x M L) * x)) := by
    unfold PP
    show -(2 ^ (nR x M L - j) * (64 * W * 2 ^ (13 - nR x M L) * x)) = -((64 : Int) * (2 ^ (nR x M L - j) * W * 2 ^ (13 - nR x M L) * x))
    generalize (2 : Int) ^ (nR x M L - j) = a
    generalize (2 : Int) ^ (13 - nR x M L) = b
    (first | (clear h hM hR hx hM0 hd hle hj hm hm2; grind) | grind)
  have hc : ((64 * (M * 2 ^ j) : Int) : Rat) * (((2 ^ (nR x M L - j) * W * 2 ^ (13 - nR x M L) * x : Int) : Rat) * d) = (x : Rat) := by
    have hpow : (2 : Rat) ^ nR x M L = 2 ^ (nR x M L - j) * 2 ^ j := by rw [← rpow_add]; congr 1; (first | (clear h hM hR hx hM0 hd hle hm hm2 e1; omega) | omega)
    have hp := pw13 hR
    have h9 := h.h1
    have e2 : ∀ k : Nat, (((2 : Int) ^ k : Int) : Rat) = 2 ^ k := fun k => by rw [Rat.intCast_pow]; rfl
    rw [Rat.intCast_mul, icast_p2, Rat.intCast_mul, Rat.intCast_mul, Rat.intCast_mul, e2, e2, show ((64 : Int) : Rat) = 64 from rfl]
    rw [hpow] at hp
    generalize (2 : Rat) ^ (nR x M L - j) = a at *
    generalize (2 : Rat) ^ (13 - nR x M L) = b at *
    generalize (2 : Rat) ^ j = c at *
    have : 64 * ((M : Rat) * c) * (a * (W : Rat) * b * (x : Rat) * d) = (x : Rat) * ((M : Rat) * (a * c * b) * (64 * (W : Rat)) * d) := by (first | (clear h hM hR hx hM0 hd hle hj hm hm2 e1 h9 e2 hpow hp; grind) | grind)
    rw [this, hp, h9]; (first | (clear h hM hR hx hM0 hd hle hj hm hm2 e1 h9 e2 hpow hp this; grind) | grind)
  have hf := (floor_pow hd 64 (s := 10 ^ 6) (c := 2 ^ (nR x M L - j) * W * 2 ^ (13 - nR x M L) * x) (m := 64 * (M * 2 ^ j)) (b := x) (by decide) hm (by first | with_reducible assumption | with_reducible exact Int.le_of_lt (by assumption) | with_reducible exact Nat.le_of_lt (by assumption) | with_reducible exact qz1 (by assumption) | with_reducible exact qz2 (by assumption) | with_reducible exact qz3 (by assumption) | with_reducible exact qz4 (by assumption) | with_reducible exact qz5 (by assumption) | with_reducible exact qz6 (by assumption) | with_reducible exact qz7 (by assumption) | with_reducible exact qz8 (by assumption) | with_reducible exact qz9 (by assumption) | with_reducible exact qza (by assumption) | with_reducible exact qzb (by assumption) | with_reducible exact qzc | with_reducible exact qzd | with_reducible exact qze | (first | (clear h hR hM0 hd hle hj hm e1 hc; omega) | omega)) hc).2
  rw [e1]
  unfold termC
  rw [Rat.intCast_add, show ((1 : Int) : Rat) = 1 from rfl]
  rw [show ((10 ^ 6 : Int) : Rat) = 1000000 from rfl] at hf
  exact hf
theorem hsd_num {n S d : Rat} (hn : n ≤ 52) (h0 : 0 ≤ S * d) (h : S * d * 64000000000000 ≤ 1) : (4 * n + 7) * (S * d) ≤ 1 / 100000000 := by
  have h1 : (4 * n + 7) * (S * d) ≤ 215 * (S * d) := Rat.mul_le_mul_of_nonneg_right (by first | with_reducible assumption | with_reducible exact Rat.le_of_lt (by assumption) | (first | (clear h0 h; grind) | grind)) h0
  (first | (clear hn h0; grind) | grind)
theorem sm87 {s u : Rat} (h1 : 1 ≤ s) (hu : u ≤ 1 / 8) (h : s * (1 - u) ≤ 1) : s ≤ 8 / 7 := by
  have h2 := Rat.mul_le_mul_of_nonneg_left (show 7 / 8 ≤ 1 - u by (first | (clear h1 h; grind) | grind)) (show 0 ≤ s by (first | (clear hu h; grind) | grind))
  (first | (clear h1 hu; grind) | grind)
theorem hstq_num {st m q X : Rat} (hm : 1000000000 ≤ m) (hst : 0 ≤ st) (h : 120 * m * st ≤ X) (hf : 1000000 * X < q * (16 * m) + 16 * m) : 1000000 * (7 * st) ≤ q + 1 := by
  refine div_le' (show (0 : Rat) < 16 * m by (first | (clear hst h hf; grind) | grind)) ?_
  have := Rat.mul_nonneg (show 0 ≤ m by (first | (clear hst h hf; grind) | grind)) hst
  (first | (clear hm hst; grind) | grind)
theorem fin_le {a st se bb b q t : Rat} (ha : a ≤ 6600 / 10000 + 8 / 7 * st) (hs : 1000000 * se ≤ t) (hb : b = 700000 + (q + 1) + t) (hq : 1000000 * (7 * st) ≤ q + 1) (hst : 0 ≤ st) (hbb : bb ≤ 1 / 400) : 1000000 * (a + se + bb) ≤ b - 20000 := by grind
theorem wi_sc10 {z tot b E : Rat} (hE : 0 < E) (h : 1000000 * tot ≤ b) (w : Wi z (tot * E)) : Wi (1000000 * z) (b * E) := by
  have h2 := Rat.mul_le_mul_of_nonneg_right h (Rat.le_of_lt hE)
  obtain ⟨w1, w2⟩ := w
  constructor <;> (first | (clear hE h; grind) | grind)
theorem top_num {s st mx E z : Rat} (hs : s ≤ 8 / 7) (hst : 0 ≤ st) (hz : z ≤ 1 / 100000000) (h : 1 ≤ E ∧ mx = E ∨ 7 / 8 ≤ E ∧ mx = 1) : s / 2 + st * mx + z ≤ (6600 / 10000 + 8 / 7 * st) * E := by
  rcases h with ⟨h, rfl⟩ | ⟨h, rfl⟩
  · have h1 := Rat.mul_nonneg hst (show 0 ≤ mx by (first | (clear hs hst hz; grind) | grind))
    (first | (clear hst; grind) | grind)
  · have h1 := Rat.mul_le_mul_of_nonneg_left h (show 0 ≤ 6600 / 10000 + 8 / 7 * st by (first | (clear hs hz h; grind) | grind))
    (first | (clear hst h; grind) | grind)
theorem neg_u {P : Int} {d u : Rat} (hu : u = (P.natAbs : Rat) * d) (h : P ≤ 0) : (P : Rat) * d = -u := by
  rw [hu]
  obtain ⟨p, hp⟩ := Int.eq_ofNat_of_zero_le (show 0 ≤ -P by first | with_reducible assumption | with_reducible exact Int.le_of_lt (by assumption) | with_reducible exact Nat.le_of_lt (by assumption) | with_reducible exact qz1 (by assumption) | with_reducible exact qz2 (by assumption) | with_reducible exact qz3 (by assumption) | with_reducible exact qz4 (by assumption) | with_reducible exact qz5 (by assumption) | with_reducible exact qz6 (by assumption) | with_reducible exact qz7 (by assumption) | with_reducible exact qz8 (by assumption) | with_reducible exact qz9 (by assumption) | with_reducible exact qza (by assumption) | with_reducible exact qzb (by assumption) | with_reducible exact qzc | with_reducible exact qzd | with_reducible exact qze | (first | (clear hu; omega) | omega))
  have : P = -(p : Int) := by (first | (clear hu h; omega) | omega)
  rw [this, show (-(p : Int)).natAbs = p by (first | (clear hu this; omega) | omega), Rat.intCast_neg, Rat.intCast_natCast]
  (first | (clear hu h hp this; grind) | grind)
theorem ge78 {E u z : Rat} (hz : z = -u) (h : 1 + z ≤ E) (hu : u ≤ 1 / 8) : 7 / 8 ≤ E := by grind
theorem u1 {u : Rat} (hu : u ≤ 1 / 8) : u ≤ 1 := by grind
theorem d1 {d : Rat} (hd : d ≤ 1 / 1000000) : d ≤ 1 := by grind
theorem bnd_rat (x M L : Int) : (bnd10 x M L : Rat) = 700000 + ((((10 ^ 6 * (x.natAbs : Int)).fdiv (16 * M) : Int) : Rat) + 1) + (sumTo (termC x M) (t10 x M L) : Rat) := by
  unfold bnd10
  rw [Rat.intCast_add, Rat.intCast_add, Rat.intCast_add, show ((700000 : Int) : Rat) = 700000 from rfl, show ((1 : Int) : Rat) = 1 from rfl]; grind
theorem fl_rat {x M : Int} (hM : 0 < M) : 1000000 * (x.natAbs : Rat) < (((10 ^ 6 * (x.natAbs : Int)).fdiv (16 * M) : Int) : Rat) * (16 * (M : Rat)) + 16 * (M : Rat) := by
  have hfl := (fdiv_rat (a := 10 ^ 6 * (x.natAbs : Int)) (b := 16 * M) (by first | with_reducible assumption | with_reducible exact Int.le_of_lt (by assumption) | with_reducible exact Nat.le_of_lt (by assumption) | with_reducible exact qz1 (by assumption) | with_reducible exact qz2 (by assumption) | with_reducible exact qz3 (by assumption) | with_reducible exact qz4 (by assumption) | with_reducible exact qz5 (by assumption) | with_reducible exact qz6 (by assumption) | with_reducible exact qz7 (by assumption) | with_reducible exact qz8 (by assumption) | with_reducible exact qz9 (by assumption) | with_reducible exact qza (by assumption) | with_reducible exact qzb (by assumption) | with_reducible exact qzc | with_reducible exact qzd | with_reducible exact qze | omega)).2
  rwa [Rat.intCast_mul, Rat.intCast_natCast, Rat.intCast_mul, show ((10 ^ 6 : Int) : Rat) = 1000000 from rfl, show ((16 : Int) : Rat) = 16 from rfl] at hfl
theorem tot_2000 {a se bb b : Rat} (h : 1000000 * (a + se + bb) ≤ b - 20000) (hb : b ≤ 1790000000) : a + se + bb ≤ 2000 := by grind
theorem bb_400 {M : Rat} (hM : 1000000000 ≤ M) : (2000 : Rat) * 2000 / (2 * M) ≤ 1 / 400 := rdiv_le (by first | with_reducible assumption | with_reducible exact Rat.le_of_lt (by assumption) | grind) (by first | with_reducible assumption | with_reducible exact Rat.le_of_lt (by assumption) | grind)
theorem a_nn {st : Rat} (h : 0 ≤ st) : 0 ≤ 6600 / 10000 + 8 / 7 * st := by grind
theorem PP_sign {x M L W : Int} (hW : 1000000000000 ≤ W) : (0 ≤ x → 0 ≤ PP x M L W) ∧ (x ≤ 0 → PP x M L W ≤ 0) := by
  have h : 0 ≤ 64 * W * 2 ^ (13 - nR x M L) := Int.mul_nonneg (by first | with_reducible assumption | with_reducible exact Int.le_of_lt (by assumption) | with_reducible exact Nat.le_of_lt (by assumption) | with_reducible exact qz1 (by assumption) | with_reducible exact qz2 (by assumption) | with_reducible exact qz3 (by assumption) | with_reducible exact qz4 (by assumption) | with_reducible exact qz5 (by assumption) | with_reducible exact qz6 (by assumption) | with_reducible exact qz7 (by assumption) | with_reducible exact qz8 (by assumption) | with_reducible exact qz9 (by assumption) | with_reducible exact qza (by assumption) | with_reducible exact qzb (by assumption) | with_reducible exact qzc | with_reducible exact qzd | with_reducible exact qze | omega) (Int.le_of_lt (p2pos _))
  exact ⟨fun hx => Int.mul_nonneg h hx, fun hx => Int.mul_nonpos_of_nonneg_of_nonpos h hx⟩
theorem rel10 {x M L W : Int} {d : Rat} (h : S10 M d W) (hM : 10 ^ 9 ≤ M) (hM' : M < 10 ^ 13) (hL : 3 ≤ L) (hL2 : L ≤ 10) (hx : 2 * (x.natAbs : Int) ≤ 15 * M) :
    Wi (1000000 * ((iexp x M L : Rat) - (M : Rat) * ex d (524288 * W * x))) (((bnd10 x M L : Rat) - 20000) * ex d (524288 * W * x)) := by
  have hM0 : 0 < M := by first | with_reducible assumption | with_reducible exact Int.le_of_lt (by assumption) | with_reducible exact Nat.le_of_lt (by assumption) | with_reducible exact qz1 (by assumption) | with_reducible exact qz2 (by assumption) | with_reducible exact qz3 (by assumption) | with_reducible exact qz4 (by assumption) | with_reducible exact qz5 (by assumption) | with_reducible exact qz6 (by assumption) | with_reducible exact qz7 (by assumption) | with_reducible exact qz8 (by assumption) | with_reducible exact qz9 (by assumption) | with_reducible exact qza (by assumption) | with_reducible exact qzb (by assumption) | with_reducible exact qzc | with_reducible exact qzd | with_reducible exact qze | omega
  have hM1000 : 1000 ≤ M := by (first | (clear h hL hL2 hx hM0; omega) | omega)
  have hL1 : 1 ≤ L := by (first | (clear h hM hM' hx hM0 hM1000; omega) | omega)
  have hR : nR x M L ≤ 13 := Nat.le_trans (nR_le_t10 hM0) (t10_le hM0 hx hL2)
  obtain ⟨hP, hQ, hd1, hSd⟩ := h.facts (x := x) (L := L) hM1000 hR
  have hd := h.hd
  have hS := ipos (sS_pos (x := x) (L := L) hM0)
  have hxu := abs_u hd (sS_pos (x := x) (L := L) hM0) hP
  obtain ⟨u, hu⟩ : ∃ u, u = ((PP x M L W : Int).natAbs : Rat) * d := ⟨_, rfl⟩
  rw [← hu] at hxu
  have hu0 : 0 ≤ u := by rw [hu]; exact Rat.mul_nonneg Rat.natCast_nonneg (Rat.le_of_lt hd)
  have hu8 := u_eighth hM0 hL hu0 hxu
  have hl := left120 hM0 hL1 (nN_ge3 hM hL1 hL2) hu0 hxu
  have hMr : (1000000000 : Rat) ≤ (M : Rat) := icast_le hM
  have hst := Rat.mul_nonneg (Rat.le_of_lt hS) (tm_nonneg hu0 (nN M L + 2))
  have hsE := sE10 h hM1000 hR hx
  have bn1r : (bnd10 x M L : Rat) ≤ 1790000000 := icast_le (bnd10_le (L := L) hM0 hx hL2).2
  have hstq := hstq_num hMr hst hl (fl_rat hM0)
  have hsd := hsd_num (ncast_le (nN_le53 hM0 hM' hL1)) (Rat.le_of_lt (Rat.mul_pos hS hd)) hSd
  have hsm := sm87 (sm_ge_one hu0 (nN M L)) hu8 (sm_le_inv hu0 (nN M L))
  have hle := fin_le Rat.le_refl hsE (bnd_rat x M L) hstq hst (bb_400 hMr)
  have fin : Wi ((sS x M L : Rat) + (iy x M L : Int) - (sS x M L : Rat) * ex d (PP x M L W)) ((6600 / 10000 + 8 / 7 * ((sS x M L : Rat) * tm (nN M L + 2) u)) * ex d (PP x M L W)) →
      Wi (1000000 * ((iexp x M L : Rat) - (M : Rat) * ex d (524288 * W * x))) (((bnd10 x M L : Rat) - 20000) * ex d (524288 * W * x)) := by
    intro top
    have w := iexp_rel hd hM0 hL1 (a_nn hst) top (B := 2000) (tot_2000 hle bn1r) Rat.le_refl
    rw [hQ] at w
    exact wi_sc10 (ex_pos hd _) hle w
  refine fin ?_
  rcases Int.le_total 0 x with hx0 | hx0
  · have hE1 := ex_one_le hd ((PP_sign (M := M) (L := L) h.hW).1 hx0)
    exact (iexp_top hd hM0 hP hu (u1 hu8) (d1 hd1) hE1 Rat.le_refl).le (top_num hsm hst hsd (.inl ⟨hE1, rfl⟩))
  · have hP0 := (PP_sign (M := M) (L := L) h.hW).2 hx0
    have hE1 := ex_le_one hd hP0
    exact (iexp_top hd hM0 hP hu (u1 hu8) (d1 hd1) Rat.le_refl hE1).le (top_num hsm hst hsd (.inr ⟨ge78 (neg_u hu hP0) (ex_ge hd _) hu8, rfl⟩))

/-- p is M ^ n times exp, but for the part s -/
structure Pr (d : Rat) (M p : Int) (n : Nat) (Q : Int) (s : Rat) : Prop where
  s0 : 0 ≤ s
  lo : (M : Rat) ^ n * ex d Q * (1 - s) ≤ (p : Rat)
  hi : (p : Rat) ≤ (M : Rat) ^ n * ex d Q * (1 + s + s * s)
theorem Pr.one {d : Rat} {M : Int} : Pr d M 1 0 0 0 := ⟨Rat.le_refl, by rw [Rat.pow_zero, ex_zero, show ((1 : Int) : Rat) = 1 from rfl]; grind, by rw [Rat.pow_zero, ex_zero, show ((1 : Int) : Rat) = 1 from rfl]; grind⟩
/-- one answer's part -/
theorem part {M a b q : Int} {d e : Rat} (hd : 0 < d) (hM : 0 < M) (w : Wi (1000000 * ((a : Rat) - (M : Rat) * ex d q)) (((b : Rat) - 20000) * ex d q)) (he : e * (1000000 * (M : Rat)) = (b : Rat) - 20000) :
    (M : Rat) * ex d q * (1 - e) ≤ (a : Rat) ∧ (a : Rat) ≤ (M : Rat) * ex d q * (1 + e) := by
  rw [← he] at w
  obtain ⟨w1, w2⟩ := w
  constructor <;> (first | (clear hd hM he; grind) | grind)
theorem Pr.mul {M p a b Q q : Int} {n : Nat} {d s e : Rat} (h : Pr d M p n Q s) (hd : 0 < d) (hM : 0 < M) (w : Wi (1000000 * ((a : Rat) - (M : Rat) * ex d q)) (((b : Rat) - 20000) * ex d q)) (he : e * (1000000 * (M : Rat)) = (b : Rat) - 20000)
    (he0 : 0 ≤ e) (he1 : e ≤ 1) (hs1 : s ≤ 1) : Pr d M (p * a) (n + 1) (Q + q) (s + e) := by
  obtain ⟨a1, a2⟩ := part hd hM w he
  have hX : 0 < (M : Rat) ^ n * ex d Q := Rat.mul_pos (Rat.pow_pos (ipos hM)) (ex_pos hd Q)
  have hY : 0 < (M : Rat) * ex d q := Rat.mul_pos (ipos hM) (ex_pos hd q)
  have hs0 := h.s0
  have e1 : (M : Rat) ^ (n + 1) * ex d (Q + q) = ((M : Rat) ^ n * ex d Q) * ((M : Rat) * ex d q) := by rw [Rat.pow_succ, ex_add hd]; (first | (clear h hd hM w he he0 he1 hs1 a1 a2 hX hY hs0; grind) | grind)
  have h1 := h.lo
  have h2 := h.hi
  refine ⟨by (first | (clear h hd hM w he he1 hs1 a1 a2 hX hY e1 h1 h2; grind) | grind), ?_, ?_⟩
  · rw [e1, Rat.intCast_mul]
    generalize (M : Rat) ^ n * ex d Q = X at *
    generalize (M : Rat) * ex d q = Y at *
    have h3 := rmul (Rat.mul_nonneg (Rat.le_of_lt hX) (show 0 ≤ 1 - s by (first | (clear h hd hM he he0 he1 hs0 hX h1 h2 w a1 a2 hY e1; grind) | grind))) (Rat.le_trans (Rat.mul_nonneg (Rat.le_of_lt hY) (show 0 ≤ 1 - e by (first | (clear h hd hM he he0 hs1 hs0 hX h1 h2 w a1 a2 hY e1; grind) | grind))) a1) h1 a1
    refine Rat.le_trans ?_ h3
    have h4 := Rat.mul_nonneg (Rat.le_of_lt (Rat.mul_pos hX hY)) (Rat.mul_nonneg hs0 he0)
    (first | (clear h hd hM he he0 he1 hs1 hs0 hX h1 h2 w a1 a2 hY e1 h3; grind) | grind)
  · rw [e1, Rat.intCast_mul]
    generalize (M : Rat) ^ n * ex d Q = X at *
    generalize (M : Rat) * ex d q = Y at *
    have hss := Rat.mul_nonneg hs0 hs0
    have hp0 : 0 ≤ (p : Rat) := Rat.le_trans (Rat.mul_nonneg (Rat.le_of_lt hX) (show 0 ≤ 1 - s by (first | (clear h hd hM he he0 he1 hs0 hX h1 h2 w a1 a2 hY e1 hss; grind) | grind))) h1
    have h3 := rmul hp0 (Rat.mul_nonneg (Rat.le_of_lt hY) (show 0 ≤ 1 + e by (first | (clear h hd hM he he1 hs1 hs0 hX h1 h2 w a1 a2 hY e1 hss hp0; grind) | grind))) h2 a2
    refine Rat.le_trans h3 ?_
    have h4 : (1 + s + s * s) * (1 + e) ≤ 1 + (s + e) + (s + e) * (s + e) := by
      have := Rat.mul_le_mul_of_nonneg_left hs1 (Rat.mul_nonneg hs0 he0)
      have := Rat.mul_nonneg he0 he0
      have := Rat.mul_nonneg hs0 he0
      (first | (clear h hd hM he he0 he1 hs1 hs0 hX h1 h2 w a1 a2 hY e1 hss hp0 h3 this; grind) | grind)
    have := Rat.mul_le_mul_of_nonneg_left h4 (Rat.le_of_lt (Rat.mul_pos hX hY))
    (first | (clear h hd hM he he0 he1 hs1 hs0 hX h1 h2 w a1 a2 hY e1 hss hp0 h3 h4; grind) | grind)
/-- the law's comparison -/
theorem same_ok {X p D s e c : Rat} (hX : 0 < X) (h1 : X * (1 - s) ≤ p) (h2 : p ≤ X * (1 + s + s * s)) (h3 : X * (1 - e) ≤ D) (h4 : D ≤ X * (1 + e)) (hs0 : 0 ≤ s) (hs1 : s ≤ 1) (he0 : 0 ≤ e) (hc0 : 0 ≤ c) (hsm : s + e + c ≤ 1) (hc : s * (s + e + c) ≤ c) :
    p * (1 - (s + e + c)) ≤ D ∧ D ≤ p * (1 + (s + e + c)) := by
  have hss := Rat.mul_nonneg hs0 hs0
  constructor
  · have a1 := Rat.mul_le_mul_of_nonneg_right h2 (show 0 ≤ 1 - (s + e + c) by (first | (clear hX h1 h2 h3 h4 hs0 hs1 he0 hc0 hc hss; grind) | grind))
    refine Rat.le_trans a1 (Rat.le_trans ?_ h3)
    have a2 : (1 + s + s * s) * (1 - (s + e + c)) ≤ 1 - e := by
      have := Rat.mul_nonneg hs0 he0
      have := Rat.mul_nonneg hs0 hc0
      have := Rat.mul_nonneg hss hs0
      have := Rat.mul_nonneg hss he0
      have := Rat.mul_nonneg hss hc0
      (first | (clear hX h1 h2 h3 h4 hs0 hs1 he0 hsm hc hss a1; grind) | grind)
    have := Rat.mul_le_mul_of_nonneg_left a2 (Rat.le_of_lt hX)
    (first | (clear hX h1 h2 h3 h4 hs0 hs1 he0 hc0 hsm hc hss a1 a2; grind) | grind)
  · have a1 := Rat.mul_le_mul_of_nonneg_right h1 (show 0 ≤ 1 + (s + e + c) by (first | (clear hX h1 h2 h3 h4 hs1 hsm hc hss; grind) | grind))
    refine Rat.le_trans h4 (Rat.le_trans ?_ a1)
    have a2 : 1 + e ≤ (1 - s) * (1 + (s + e + c)) := by (first | (clear hX h1 h2 h3 h4 hs0 hs1 he0 hc0 hsm hss a1; grind) | grind)
    have := Rat.mul_le_mul_of_nonneg_left a2 (Rat.le_of_lt hX)
    (first | (clear hX h1 h2 h3 h4 hs0 hs1 he0 hc0 hsm hc hss a1 a2; grind) | grind)
/-- the same in whole numbers -/
theorem same_int {M p D bd : Int} {U t : Rat} (hM : 0 < M) (hU : U = 1000000 * (M : Rat)) (ht : (bd : Rat) = t * U) (h1 : (p : Rat) * (1 - t) ≤ (D : Rat)) (h2 : (D : Rat) ≤ (p : Rat) * (1 + t)) :
    p * (10 ^ 6 * M - bd) ≤ D * (10 ^ 6 * M) ∧ D * (10 ^ 6 * M) ≤ p * (10 ^ 6 * M + bd) := by
  have hUp : 0 < U := by have := ipos hM; (first | (clear hM ht h1 h2; grind) | grind)
  have cU : ((10 ^ 6 * M : Int) : Rat) = U := by rw [Rat.intCast_mul, hU]; rfl
  constructor
  · refine Rat.intCast_le_intCast.mp ?_
    rw [Rat.intCast_mul p, Rat.intCast_mul D, Rat.intCast_sub, cU, ht]
    have := Rat.mul_le_mul_of_nonneg_right h1 (Rat.le_of_lt hUp)
    (first | (clear hM hU ht h1 h2 hUp cU; grind) | grind)
  · refine Rat.intCast_le_intCast.mp ?_
    rw [Rat.intCast_mul D, Rat.intCast_mul p, Rat.intCast_add, cU, ht]
    have := Rat.mul_le_mul_of_nonneg_right h2 (Rat.le_of_lt hUp)
    (first | (clear hM hU ht h1 h2 hUp cU; grind) | grind)

/-! the law's walk in plain numbers: steps are pairs of a number and an L -/
noncomputable def prodI (M : Int) : List (Int × Int) → Int → Int
  | [], p => p
  | t :: ts, p => prodI M ts (p * iexp t.1 M t.2)
noncomputable def sumX : List (Int × Int) → Int
  | [] => 0
  | t :: ts => t.1 + sumX ts
noncomputable def sumB (M : Int) : List (Int × Int) → Int
  | [] => 0
  | t :: ts => bnd10 t.1 M t.2 + sumB M ts
noncomputable def Okt (M : Int) (t : Int × Int) : Prop := 2 * (t.1.natAbs : Int) ≤ 3 * M ∧ 3 ≤ t.2 ∧ t.2 ≤ 10
theorem prod_pr {M W : Int} {d : Rat} (h : S10 M d W) (hM : 10 ^ 9 ≤ M) (hM' : M < 10 ^ 13) : ∀ (ts : List (Int × Int)) (p : Int) (n : Nat) (Q : Int) (s : Rat) (S : Int), (∀ t ∈ ts, Okt M t) → n + ts.length ≤ 8 → 0 ≤ S → S ≤ 32000000 * n →
    s * (1000000 * (M : Rat)) = (S : Rat) - 20000 * (n : Rat) → Pr d M p n (524288 * W * Q) s →
    ∃ s' : Rat, s' * (1000000 * (M : Rat)) = ((S + sumB M ts : Int) : Rat) - 20000 * ((n + ts.length : Nat) : Rat) ∧ Pr d M (prodI M ts p) (n + ts.length) (524288 * W * (Q + sumX ts)) s' ∧ 0 ≤ S + sumB M ts ∧ S + sumB M ts ≤ 32000000 * ((n + ts.length : Nat) : Int)
  | [], p, n, Q, s, S, _, _, h0, h1, hs, hp => by
    refine ⟨s, ?_, ?_, ?_, ?_⟩
    · show _ = ((S + 0 : Int) : Rat) - 20000 * ((n + 0 : Nat) : Rat)
      rw [Int.add_zero]; exact hs
    · show Pr d M p (n + 0) (524288 * W * (Q + 0)) s
      rw [Int.add_zero]; exact hp
    · show 0 ≤ S + 0; (first | (clear h hM hM' h1 hs hp; omega) | omega)
    · show S + 0 ≤ 32000000 * ((n + 0 : Nat) : Int); (first | (clear h hM hM' h0 hs hp; omega) | omega)
  | t :: ts, p, n, Q, s, S, hok, hn, h0, h1, hs, hp => by
    obtain ⟨x1, x2, x3⟩ := hok t (List.mem_cons_self ..)
    have hM0 : 0 < M := by first | with_reducible assumption | with_reducible exact Int.le_of_lt (by assumption) | with_reducible exact Nat.le_of_lt (by assumption) | with_reducible exact qz1 (by assumption) | with_reducible exact qz2 (by assumption) | with_reducible exact qz3 (by assumption) | with_reducible exact qz4 (by assumption) | with_reducible exact qz5 (by assumption) | with_reducible exact qz6 (by assumption) | with_reducible exact qz7 (by assumption) | with_reducible exact qz8 (by assumption) | with_reducible exact qz9 (by assumption) | with_reducible exact qza (by assumption) | with_reducible exact qzb (by assumption) | with_reducible exact qzc | with_reducible exact qzd | with_reducible exact qze | omega
    have hMr : (1000000000 : Rat) ≤ (M : Rat) := icast_le hM
    have w := rel10 h hM hM' x2 x3 (show 2 * (t.1.natAbs : Int) ≤ 15 * M by (first | (clear h hok hn h0 h1 hs hp x2 x3 hM0 hMr; omega) | omega))
    obtain ⟨b0, _⟩ := bnd10_le (x := t.1) (L := t.2) hM0 (by first | with_reducible assumption | with_reducible exact Int.le_of_lt (by assumption) | with_reducible exact Nat.le_of_lt (by assumption) | with_reducible exact qz1 (by assumption) | with_reducible exact qz2 (by assumption) | with_reducible exact qz3 (by assumption) | with_reducible exact qz4 (by assumption) | with_reducible exact qz5 (by assumption) | with_reducible exact qz6 (by assumption) | with_reducible exact qz7 (by assumption) | with_reducible exact qz8 (by assumption) | with_reducible exact qz9 (by assumption) | with_reducible exact qza (by assumption) | with_reducible exact qzb (by assumption) | with_reducible exact qzc | with_reducible exact qzd | with_reducible exact qze | (first | (clear h hok hn h0 h1 hs hp x2 x3 hM0 hMr w; omega) | omega)) x3
    have b1 := bnd10_le' (x := t.1) (L := t.2) hM0 x1 x3
    have hUp : 0 < 1000000 * (M : Rat) := by (first | (clear h hM hM' hok hn h0 h1 hs hp x1 x2 x3 hM0 w b0 b1; grind) | grind)
    obtain ⟨e, he⟩ : ∃ e : Rat, e * (1000000 * (M : Rat)) = (bnd10 t.1 M t.2 : Rat) - 20000 := ⟨((bnd10 t.1 M t.2 : Rat) - 20000) / (1000000 * (M : Rat)), by
      generalize 1000000 * (M : Rat) = U at *
      (first | (clear h hM hM' hok hn h0 h1 hp x1 x2 x3 hM0 hMr w b0 b1 hs; grind) | grind)⟩
    have b0r : (700000 : Rat) ≤ (bnd10 t.1 M t.2 : Rat) := icast_le b0
    have b1r : (bnd10 t.1 M t.2 : Rat) ≤ 32000000 := icast_le b1
    have he0 : 0 ≤ e := by
      refine Rat.not_lt.mp fun hlt => ?_
      have := Rat.mul_le_mul_of_nonneg_right (Rat.le_of_lt hlt) (Rat.le_of_lt hUp)
      (first | (clear h hM hM' hok hn h0 h1 hs hp x1 x2 x3 hM0 hMr w b0 b1 hUp b1r hlt; grind) | grind)
    have he1 : e ≤ 1 := by
      refine div_le' hUp ?_
      (first | (clear h hM hM' hok hn h0 h1 hs hp x1 x2 x3 hM0 w b0 b1 hUp b0r he0; grind) | grind)
    have h1r : (S : Rat) ≤ 32000000 * (n : Rat) := by have := icast_le h1; rwa [Rat.intCast_mul, Rat.intCast_natCast] at this
    have hnr : (n : Rat) ≤ 8 := by
      have h9 : n ≤ 8 := by simp only [List.length_cons] at hn; (first | (clear h hM hM' hok h0 h1 hs hp x1 x2 x3 hM0 hMr w b0 b1 hUp he b0r b1r he0 he1 h1r; omega) | omega)
      exact ncast_le h9
    have hn0 : (0 : Rat) ≤ (n : Rat) := Rat.natCast_nonneg
    have hs1 : s ≤ 1 := by
      refine div_le' hUp ?_
      (first | (clear h hM hM' hok hn h0 h1 hp x1 x2 x3 hM0 w b0 b1 hUp he b0r b1r he0 he1 hn0; grind) | grind)
    have hp' := hp.mul h.hd hM0 w he he0 he1 hs1
    have eQ : 524288 * W * Q + 524288 * W * t.1 = 524288 * W * (Q + t.1) := by (first | (clear h hM hM' hok hn h0 h1 hs hp x1 x2 x3 hM0 hMr w b0 b1 hUp he b0r b1r he0 he1 h1r hnr hn0 hs1 hp'; grind) | grind)
    rw [eQ] at hp'
    obtain ⟨s', a1, a2, a3, a4⟩ := prod_pr h hM hM' ts (p * iexp t.1 M t.2) (n + 1) (Q + t.1) (s + e) (S + bnd10 t.1 M t.2) (fun u hu => hok u (List.mem_cons_of_mem _ hu)) (by simp only [List.length_cons] at hn; (first | (clear h hM hM' hok h0 h1 hs hp x1 x2 x3 hM0 hMr w b0 b1 hUp he b0r b1r he0 he1 h1r hnr hn0 hs1 hp' eQ; omega) | omega)) (by first | with_reducible assumption | with_reducible exact Int.le_of_lt (by assumption) | with_reducible exact Nat.le_of_lt (by assumption) | with_reducible exact qz1 (by assumption) | with_reducible exact qz2 (by assumption) | with_reducible exact qz3 (by assumption) | with_reducible exact qz4 (by assumption) | with_reducible exact qz5 (by assumption) | with_reducible exact qz6 (by assumption) | with_reducible exact qz7 (by assumption) | with_reducible exact qz8 (by assumption) | with_reducible exact qz9 (by assumption) | with_reducible exact qza (by assumption) | with_reducible exact qzb (by assumption) | with_reducible exact qzc | with_reducible exact qzd | with_reducible exact qze | (first | (clear h hM hM' hok hs hp x1 x2 x3 hM0 hMr w hUp he b0r b1r he0 he1 h1r hnr hn0 hs1 hp' eQ; omega) | omega)) (by first | with_reducible assumption | with_reducible exact Int.le_of_lt (by assumption) | with_reducible exact Nat.le_of_lt (by assumption) | with_reducible exact qz1 (by assumption) | with_reducible exact qz2 (by assumption) | with_reducible exact qz3 (by assumption) | with_reducible exact qz4 (by assumption) | with_reducible exact qz5 (by assumption) | with_reducible exact qz6 (by assumption) | with_reducible exact qz7 (by assumption) | with_reducible exact qz8 (by assumption) | with_reducible exact qz9 (by assumption) | with_reducible exact qza (by assumption) | with_reducible exact qzb (by assumption) | with_reducible exact qzc | with_reducible exact qzd | with_reducible exact qze | (first | (clear h hM hM' hok hn h0 hs hp x1 x2 x3 hM0 hMr w hUp he b0r b1r he0 he1 h1r hnr hn0 hs1 hp' eQ; omega) | omega)) (by
      rw [Rat.intCast_add, cast_succ]; (first | (clear h hM hM' hok hn h0 h1 hp x1 x2 x3 hM0 hMr w b0 b1 hUp b0r b1r he0 he1 h1r hnr hn0 hs1 hp' eQ; grind) | grind)) hp'
    have eb : S + bnd10 t.1 M t.2 + sumB M ts = S + sumB M (t :: ts) := by show _ = S + (bnd10 t.1 M t.2 + sumB M ts); (first | (clear h hM hM' hok hn h0 h1 hs hp x1 x2 x3 hM0 hMr w b0 b1 hUp he b0r b1r he0 he1 h1r hnr hn0 hs1 hp' eQ a1 a2 a3 a4; omega) | omega)
    have el : n + 1 + ts.length = n + (t :: ts).length := by simp only [List.length_cons]; (first | (clear h hM hM' hok hn h0 h1 hs hp x1 x2 x3 hM0 hMr w b0 b1 hUp he b0r b1r he0 he1 h1r hnr hn0 hs1 hp' eQ a1 a2 a3 a4 eb; omega) | omega)
    have ex' : Q + t.1 + sumX ts = Q + sumX (t :: ts) := by show _ = Q + (t.1 + sumX ts); (first | (clear h hM hM' hok hn h0 h1 hs hp x1 x2 x3 hM0 hMr w b0 b1 hUp he b0r b1r he0 he1 h1r hnr hn0 hs1 hp' eQ a1 a2 a3 a4 eb el; omega) | omega)
    rw [eb, el] at a1 a4
    rw [el, ex'] at a2
    rw [eb] at a3
    exact ⟨s', a1, a2, a3, a4⟩
/-- both comparisons of the law -/
theorem one_part {x M L : Int} {U : Rat} (hM0 : 0 < M) (hU : U = 1000000 * (M : Rat)) (hUp : 0 < U) (hL' : L ≤ 10) (hx : 2 * (x.natAbs : Int) ≤ 15 * M) : ∃ e : Rat, e * U = (bnd10 x M L : Rat) - 20000 ∧ 0 ≤ e ∧ e * (M : Rat) ≤ 1790 := by
  obtain ⟨b0, b1⟩ := bnd10_le (L := L) hM0 hx hL'
  have b0r : (700000 : Rat) ≤ (bnd10 x M L : Rat) := icast_le b0
  have b1r : (bnd10 x M L : Rat) ≤ 1790000000 := icast_le b1
  generalize (bnd10 x M L : Rat) = b at *
  clear b0 b1 hx hM0 hL'
  obtain ⟨e, he⟩ : ∃ e : Rat, e * U = b - 20000 := ⟨(b - 20000) / U, by (first | (clear b0r b1r; grind) | grind)⟩
  refine ⟨e, he, ?_, ?_⟩
  · refine Rat.not_lt.mp fun hlt => ?_
    have := Rat.mul_lt_mul_of_pos_right hlt hUp
    (first | (clear hU hUp b1r hlt; grind) | grind)
  · refine div_le' (show (0 : Rat) < 1000000 by decide) ?_
    rw [hU] at he
    (first | (clear hU hUp b0r; grind) | grind)
theorem t10_small {m c s e : Rat} (hm : 1000000000 ≤ m) (hcM : 4 / 100 ≤ c * m) (hcM2 : c * m ≤ 1) (hs0 : 0 ≤ s) (he0 : 0 ≤ e) (hc0 : 0 ≤ c) (hse : s * m ≤ 160 ∧ e * m ≤ 1790 ∨ s * m ≤ 1950 ∧ e * m ≤ 0) : s ≤ 1 ∧ s + e + c ≤ 1 ∧ s * (s + e + c) ≤ c := by
  have hsM : s * m ≤ 1950 := by rcases hse with h | h <;> (first | (clear hm hcM hcM2 hs0 he0 hc0; grind) | grind)
  have heM : e * m ≤ 1790 := by rcases hse with h | h <;> (first | (clear hm hcM hcM2 hs0 he0 hc0 hsM; grind) | grind)
  have hMp : (0 : Rat) < m := by (first | (clear hcM hcM2 hs0 he0 hc0 hse hsM heM; grind) | grind)
  refine ⟨div_le' hMp (by first | with_reducible assumption | with_reducible exact Rat.le_of_lt (by assumption) | (first | (clear hcM hcM2 hs0 he0 hc0 hse heM hMp; grind) | grind)), div_le' hMp (by first | with_reducible assumption | with_reducible exact Rat.le_of_lt (by assumption) | (first | (clear hcM hs0 he0 hc0 hse hMp; grind) | grind)), ?_⟩
  have k1 : s * m * ((s + e + c) * m) ≤ 4000000 := by
    rcases hse with ⟨h1, h2⟩ | ⟨h1, h2⟩
    · have := rmul (Rat.mul_nonneg hs0 (Rat.le_of_lt hMp)) (show (0 : Rat) ≤ 1951 by decide) h1 (show (s + e + c) * m ≤ 1951 by (first | (clear hm hcM hs0 he0 hc0 hsM hMp h2; grind) | grind))
      (first | (clear hm hcM hcM2 hs0 he0 hc0 hsM heM hMp h1 h2; grind) | grind)
    · have := rmul (Rat.mul_nonneg hs0 (Rat.le_of_lt hMp)) (show (0 : Rat) ≤ 1951 by decide) h1 (show (s + e + c) * m ≤ 1951 by (first | (clear hm hcM hs0 he0 hc0 heM hMp h1; grind) | grind))
      (first | (clear hm hcM hcM2 hs0 he0 hc0 hsM heM hMp h1 h2; grind) | grind)
  have k2 : 4000000 ≤ c * m * m := by
    have := rmul (show (0 : Rat) ≤ 4 / 100 by (first | (clear hm hcM hcM2 hs0 he0 hc0 hse hsM heM hMp k1; grind) | grind)) (show (0 : Rat) ≤ m by (first | (clear hcM hcM2 hs0 he0 hc0 hse hsM heM hMp k1; grind) | grind)) hcM hm
    (first | (clear hm hcM hcM2 hs0 he0 hc0 hse hsM heM hMp k1; grind) | grind)
  refine div_le' (Rat.mul_pos hMp hMp) ?_
  (first | (clear hm hcM hcM2 hs0 he0 hc0 hse hsM heM hMp; grind) | grind)
theorem c_ex {U m n : Rat} (hU : U = 1000000 * m) (hUp : 0 < U) (hn1 : 1 ≤ n) (hn5 : n ≤ 5) : ∃ c : Rat, c * U = 20000 * (n + 1) ∧ 0 ≤ c ∧ 4 / 100 ≤ c * m ∧ c * m ≤ 1 := by
  obtain ⟨c, hc⟩ : ∃ c : Rat, c * U = 20000 * (n + 1) := ⟨20000 * (n + 1) / U, by (first | (clear hn1 hn5; grind) | grind)⟩
  refine ⟨c, hc, ?_, ?_, ?_⟩
  · refine Rat.not_lt.mp fun hlt => ?_
    have := Rat.mul_lt_mul_of_pos_right hlt hUp
    (first | (clear hU hUp hn5 hlt; grind) | grind)
  · refine div_le' (show (0 : Rat) < 1000000 by decide) ?_
    rw [hU] at hc
    (first | (clear hU hUp hn5; grind) | grind)
  · refine div_le' (show (0 : Rat) < 1000000 by decide) ?_
    rw [hU] at hc
    (first | (clear hU hUp hn1; grind) | grind)
theorem t10_law {M : Int} {ts : List (Int × Int)} {L1 L2 : Int} (hM : 10 ^ 9 ≤ M) (hM' : M < 10 ^ 13) (hok : ∀ t ∈ ts, Okt M t) (hl1 : 1 ≤ ts.length) (hl : ts.length ≤ 5) (h1 : 3 ≤ L1) (h1' : L1 ≤ 10) (h2 : 3 ≤ L2) (h2' : L2 ≤ 10) (hw : 2 * ((sumX ts).natAbs : Int) ≤ 15 * M) :
    (prodI M ts 1 * (10 ^ 6 * M - (sumB M ts + bnd10 (sumX ts) M L1)) ≤ iexp (sumX ts) M L1 * M ^ (ts.length - 1) * (10 ^ 6 * M) ∧ iexp (sumX ts) M L1 * M ^ (ts.length - 1) * (10 ^ 6 * M) ≤ prodI M ts 1 * (10 ^ 6 * M + (sumB M ts + bnd10 (sumX ts) M L1))) ∧
    (prodI M ts 1 * iexp (-sumX ts) M L2 * (10 ^ 6 * M - (sumB M ts + bnd10 (-sumX ts) M L2)) ≤ M ^ (ts.length + 1) * (10 ^ 6 * M) ∧ M ^ (ts.length + 1) * (10 ^ 6 * M) ≤ prodI M ts 1 * iexp (-sumX ts) M L2 * (10 ^ 6 * M + (sumB M ts + bnd10 (-sumX ts) M L2))) := by
  have hM0 : 0 < M := by first | with_reducible assumption | with_reducible exact Int.le_of_lt (by assumption) | with_reducible exact Nat.le_of_lt (by assumption) | with_reducible exact qz1 (by assumption) | with_reducible exact qz2 (by assumption) | with_reducible exact qz3 (by assumption) | with_reducible exact qz4 (by assumption) | with_reducible exact qz5 (by assumption) | with_reducible exact qz6 (by assumption) | with_reducible exact qz7 (by assumption) | with_reducible exact qz8 (by assumption) | with_reducible exact qz9 (by assumption) | with_reducible exact qza (by assumption) | with_reducible exact qzb (by assumption) | with_reducible exact qzc | with_reducible exact qzd | with_reducible exact qze | omega
  have hMr : (1000000000 : Rat) ≤ (M : Rat) := icast_le hM
  obtain ⟨d, W, h⟩ := S10_ex hM0
  have hd := h.hd
  have hp0 : Pr d M 1 0 (524288 * W * 0) 0 := by rw [Int.mul_zero]; exact Pr.one
  obtain ⟨s, a1, a2, a3, a4⟩ := prod_pr h hM hM' ts 1 0 0 0 0 hok (by first | with_reducible assumption | with_reducible exact Int.le_of_lt (by assumption) | with_reducible exact Nat.le_of_lt (by assumption) | with_reducible exact qz1 (by assumption) | with_reducible exact qz2 (by assumption) | with_reducible exact qz3 (by assumption) | with_reducible exact qz4 (by assumption) | with_reducible exact qz5 (by assumption) | with_reducible exact qz6 (by assumption) | with_reducible exact qz7 (by assumption) | with_reducible exact qz8 (by assumption) | with_reducible exact qz9 (by assumption) | with_reducible exact qza (by assumption) | with_reducible exact qzb (by assumption) | with_reducible exact qzc | with_reducible exact qzd | with_reducible exact qze | (first | (clear hM hM' hok h1 h1' h2 h2' hw hM0 hMr h hd hp0; omega) | omega)) (by decide) (by decide) (by rw [show ((0 : Int) : Rat) = 0 from rfl, show ((0 : Nat) : Rat) = 0 from rfl]; (first | (clear hM hM' hok hl1 hl h1 h1' h2 h2' hw hM0 hMr h hd hp0; grind) | grind)) hp0
  rw [Int.zero_add] at a1 a2 a3 a4
  rw [Nat.zero_add] at a1 a2 a4
  obtain ⟨U, hU⟩ : ∃ U : Rat, U = 1000000 * (M : Rat) := ⟨_, rfl⟩
  rw [← hU] at a1
  have hUp : 0 < U := by (first | (clear hM hM' hok hl1 hl h1 h1' h2 h2' hw hM0 h hd hp0 a2 a3 a4 a1; grind) | grind)
  have hn1 : (1 : Rat) ≤ (ts.length : Rat) := ncast_le hl1
  have hn5 : (ts.length : Rat) ≤ 5 := ncast_le hl
  have a3r : (0 : Rat) ≤ (sumB M ts : Rat) := Rat.intCast_nonneg.mpr a3
  have a4r : (sumB M ts : Rat) ≤ 32000000 * (ts.length : Rat) := by have := icast_le a4; rwa [Rat.intCast_mul, Rat.intCast_natCast] at this
  have hs0 := a2.s0
  have hs2 : s * (M : Rat) ≤ 160 := by
    refine div_le' (show (0 : Rat) < 1000000 by decide) ?_
    rw [hU] at a1
    (first | (clear hM hM' hok hl1 hl h1 h1' h2 h2' hw hM0 hMr h hd hp0 a2 a3 a4 hU hUp hn1 a3r hs0; grind) | grind)
  obtain ⟨c, hc, hc0, hcM, hcM2⟩ := c_ex hU hUp hn1 hn5
  constructor
  · obtain ⟨e, e1, e2, e3⟩ := one_part (x := sumX ts) (L := L1) hM0 hU hUp h1' hw
    have w := rel10 h hM hM' h1 h1' hw
    obtain ⟨p1, p2⟩ := part hd hM0 w (by rw [← hU]; exact e1)
    obtain ⟨q1, q2, q3⟩ := t10_small hMr hcM hcM2 hs0 e2 hc0 (.inl ⟨hs2, e3⟩)
    have hX : 0 < (M : Rat) ^ ts.length * ex d (524288 * W * sumX ts) := Rat.mul_pos (Rat.pow_pos (ipos hM0)) (ex_pos hd _)
    have hMn : (0 : Rat) < (M : Rat) ^ (ts.length - 1) := Rat.pow_pos (ipos hM0)
    have eM : (M : Rat) ^ ts.length = (M : Rat) * (M : Rat) ^ (ts.length - 1) := by
      obtain ⟨m, hm⟩ : ∃ m, ts.length = m + 1 := ⟨ts.length - 1, by (first | (clear hM hM' hok h1 h1' h2 h2' hw hM0 hMr h hd hp0 a2 a3 a4 a1 hU hUp hn1 hn5 a3r a4r hs0 hs2 hc hc0 hcM hcM2 e1 e2 e3 w p1 p2 q1 q2 q3 hX hMn; omega) | omega)⟩
      rw [hm, Rat.pow_succ, Nat.add_sub_cancel]; (first | (clear hM hM' hok hl1 hl h1 h1' h2 h2' hw hM0 hMr h hd hp0 a2 a3 a4 a1 hU hUp hn1 hn5 a3r a4r hs0 hs2 hc hc0 hcM hcM2 e1 e2 e3 w p1 p2 q1 q2 q3 hX hMn hm; grind) | grind)
    have p1' := Rat.mul_le_mul_of_nonneg_right p1 (Rat.le_of_lt hMn)
    have p2' := Rat.mul_le_mul_of_nonneg_right p2 (Rat.le_of_lt hMn)
    have cD : ((iexp (sumX ts) M L1 * M ^ (ts.length - 1) : Int) : Rat) = (iexp (sumX ts) M L1 : Rat) * (M : Rat) ^ (ts.length - 1) := by rw [Rat.intCast_mul, Rat.intCast_pow]
    obtain ⟨r1, r2⟩ := same_ok (D := ((iexp (sumX ts) M L1 * M ^ (ts.length - 1) : Int) : Rat)) (e := e) (c := c) hX a2.lo a2.hi (by rw [cD, eM]; (first | (clear hM hM' hok hl1 hl h1 h1' h2 h2' hw hM0 hMr h hd hp0 a2 a3 a4 a1 hU hUp hn1 hn5 a3r a4r hs0 hs2 hc hc0 hcM hcM2 e1 e2 e3 w p1 p2 q1 q2 q3 hX hMn eM p2' cD; grind) | grind)) (by rw [cD, eM]; (first | (clear hM hM' hok hl1 hl h1 h1' h2 h2' hw hM0 hMr h hd hp0 a2 a3 a4 a1 hU hUp hn1 hn5 a3r a4r hs0 hs2 hc hc0 hcM hcM2 e1 e2 e3 w p1 p2 q1 q2 q3 hX hMn eM p1' cD; grind) | grind)) hs0 q1 e2 hc0 q2 q3
    exact same_int hM0 hU (by rw [Rat.intCast_add]; (first | (clear hM hM' hok hl1 hl h1 h1' h2 h2' hw hM0 hMr h hd hp0 a2 a3 a4 hU hUp hn1 hn5 a3r a4r hs0 hs2 hc0 hcM hcM2 e2 e3 w p1 p2 q1 q2 q3 hX hMn eM p1' p2' cD r1 r2; grind) | grind)) r1 r2
  · obtain ⟨e, e1, e2, e3⟩ := one_part (x := -sumX ts) (L := L2) hM0 hU hUp h2' (by first | with_reducible assumption | with_reducible exact Int.le_of_lt (by assumption) | with_reducible exact Nat.le_of_lt (by assumption) | with_reducible exact qz1 (by assumption) | with_reducible exact qz2 (by assumption) | with_reducible exact qz3 (by assumption) | with_reducible exact qz4 (by assumption) | with_reducible exact qz5 (by assumption) | with_reducible exact qz6 (by assumption) | with_reducible exact qz7 (by assumption) | with_reducible exact qz8 (by assumption) | with_reducible exact qz9 (by assumption) | with_reducible exact qza (by assumption) | with_reducible exact qzb (by assumption) | with_reducible exact qzc | with_reducible exact qzd | with_reducible exact qze | (first | (clear hM hM' hok hl1 hl h1 h1' h2 h2' hM0 hMr h hd hp0 a2 a3 a4 a1 hU hUp hn1 hn5 a3r a4r hs0 hs2 hc hc0 hcM hcM2; omega) | omega))
    have w := rel10 h hM hM' h2 h2' (show 2 * ((-sumX ts).natAbs : Int) ≤ 15 * M by (first | (clear hM hM' hok hl1 hl h1 h1' h2 h2' hM0 hMr h hd hp0 a2 a3 a4 a1 hU hUp hn1 hn5 a3r a4r hs0 hs2 hc hc0 hcM hcM2 e1 e2 e3; omega) | omega))
    have hs1 : s ≤ 1 := (t10_small hMr hcM hcM2 hs0 e2 hc0 (.inl ⟨hs2, e3⟩)).1
    have he1 : e ≤ 1 := by
      have hMp : (0 : Rat) < (M : Rat) := by (first | (clear hM hM' hok hl1 hl h1 h1' h2 h2' hw hM0 h hd hp0 a2 a3 a4 a1 hU hUp hn1 hn5 a3r a4r hs0 hs2 hc hc0 hcM hcM2 e1 e2 e3 w hs1; grind) | grind)
      exact div_le' hMp (by first | with_reducible assumption | with_reducible exact Rat.le_of_lt (by assumption) | (first | (clear hM hM' hok hl1 hl h1 h1' h2 h2' hw hM0 h hd hp0 a2 a3 a4 a1 hU hUp hn1 hn5 a3r a4r hs0 hs2 hc hc0 hcM hcM2 e1 e2 w hs1 hMp; grind) | grind))
    have a5 := a2.mul hd hM0 w (by rw [← hU]; exact e1) e2 he1 hs1
    have eQ : 524288 * W * sumX ts + 524288 * W * -sumX ts = 0 := by (first | (clear hM hM' hok hl1 hl h1 h1' h2 h2' hw hM0 hMr h hd hp0 a2 a3 a4 a1 hU hUp hn1 hn5 a3r a4r hs0 hs2 hc hc0 hcM hcM2 e1 e2 e3 w hs1 he1 a5; grind) | grind)
    rw [eQ] at a5
    obtain ⟨q1, q2, q3⟩ := t10_small (s := s + e) hMr hcM hcM2 (by first | with_reducible assumption | with_reducible exact Rat.le_of_lt (by assumption) | (first | (clear hM hM' hok hl1 hl h1 h1' h2 h2' hw hM0 hMr h hd hp0 a2 a3 a4 a1 hU hUp hn1 hn5 a3r a4r hs2 hc hc0 hcM hcM2 e1 e3 w hs1 he1 a5 eQ; grind) | grind)) Rat.le_refl hc0 (.inr ⟨by (first | (clear hM hM' hok hl1 hl h1 h1' h2 h2' hw hM0 hMr h hd hp0 a2 a3 a4 a1 hU hUp hn1 hn5 a3r a4r hs0 hc hc0 hcM hcM2 e1 e2 w hs1 he1 a5 eQ; grind) | grind), by (first | (clear hM hM' hok hl1 hl h1 h1' h2 h2' hw hM0 hMr h hd hp0 a2 a3 a4 a1 hU hUp hn1 hn5 a3r a4r hs0 hs2 hc hc0 hcM hcM2 e1 e2 e3 w hs1 he1 a5 eQ; grind) | grind)⟩)
    have hX : 0 < (M : Rat) ^ (ts.length + 1) * ex d 0 := Rat.mul_pos (Rat.pow_pos (ipos hM0)) (ex_pos hd _)
    have cD : ((M ^ (ts.length + 1) : Int) : Rat) = (M : Rat) ^ (ts.length + 1) * ex d 0 := by rw [Rat.intCast_pow, ex_zero]; (first | (clear hM hM' hok hl1 hl h1 h1' h2 h2' hw hM0 hMr h hd hp0 a2 a3 a4 a1 hU hUp hn1 hn5 a3r a4r hs0 hs2 hc hc0 hcM hcM2 e1 e2 e3 w hs1 he1 a5 eQ q1 q2 q3 hX; grind) | grind)
    obtain ⟨r1, r2⟩ := same_ok (D := ((M ^ (ts.length + 1) : Int) : Rat)) (e := 0) (c := c) hX a5.lo a5.hi (by rw [cD]; (first | (clear hM hM' hok hl1 hl h1 h1' h2 h2' hw hM0 hMr h hd hp0 a2 a3 a4 a1 hU hUp hn1 hn5 a3r a4r hs0 hs2 hc hc0 hcM hcM2 e1 e2 e3 w hs1 he1 a5 eQ q1 q2 q3 hX cD; grind) | grind)) (by rw [cD]; (first | (clear hM hM' hok hl1 hl h1 h1' h2 h2' hw hM0 hMr h hd hp0 a2 a3 a4 a1 hU hUp hn1 hn5 a3r a4r hs0 hs2 hc hc0 hcM hcM2 e1 e2 e3 w hs1 he1 a5 eQ q1 q2 q3 hX cD; grind) | grind)) (by first | with_reducible assumption | with_reducible exact Rat.le_of_lt (by assumption) | (first | (clear hM hM' hok hl1 hl h1 h1' h2 h2' hw hM0 hMr h hd hp0 a2 a3 a4 a1 hU hUp hn1 hn5 a3r a4r hs2 hc hc0 hcM hcM2 e1 e3 w hs1 he1 a5 eQ q1 q2 q3 hX cD; grind) | grind)) q1 Rat.le_refl hc0 q2 q3
    exact same_int hM0 hU (by rw [Rat.intCast_add]; (first | (clear hM hM' hok hl1 hl h1 h1' h2 h2' hw hM0 hMr h hd hp0 a2 a3 a4 hU hUp hn1 hn5 a3r a4r hs0 hs2 hc0 hcM hcM2 e2 e3 w hs1 he1 a5 eQ q1 q2 q3 hX cD r1 r2; grind) | grind)) r1 r2

/-! Lambert's rows -/
section
variable {d : Rat} (hd : 0 < d)
include hd
/-- powers of two above exp: half a unit at a time -/
theorem ex_half {p h : Int} {k : Nat} (hh : (h : Rat) * d = 1 / 2) (hp : p ≤ (k : Int) * h) : ex d p ≤ 2 ^ k := by
  have h3 := ex_le hd h
  rw [hh] at h3
  have h4 := ex_pos hd h
  refine Rat.le_trans (ex_mono hd hp) ?_
  have e : ∀ k : Nat, ex d ((k : Int) * h) = ex d h ^ k := fun k => by
    induction k with
    | zero => rw [show ((0 : Nat) : Int) * h = 0 by simp, ex_zero, Rat.pow_zero]
    | succ k ih => rw [show ((k + 1 : Nat) : Int) * h = (k : Int) * h + h by rw [Int.natCast_add]; (first | (clear hd hh hp h3 h4 ih; grind) | grind), ex_add hd, ih, Rat.pow_succ]
  rw [e]
  exact pow_mono (Rat.le_of_lt h4) (by first | with_reducible assumption | with_reducible exact Rat.le_of_lt (by assumption) | (first | (clear hd hh hp h4 e; grind) | grind)) k
end
/-- with few doublings the sizes need no care -/
noncomputable def Cr (k : Nat) (y : Int) : Prop := y.natAbs + 2 ≤ 2 ^ (49 * 2 ^ k)
theorem cr_step {s y : Int} {k : Nat} (hs : 0 < s) (h : Cr k y) : Cr (k + 1) (divN (y * (y + s)) s) := by
  unfold Cr at *
  have h1 := divN_natAbs (a := y * (y + s)) hs
  have h2 : ((y * (y + s)).natAbs : Int) ≤ (y.natAbs : Int) * (y.natAbs + s) := mul_natAbs_le (Int.le_refl _) (by first | with_reducible assumption | with_reducible exact Int.le_of_lt (by assumption) | with_reducible exact Nat.le_of_lt (by assumption) | with_reducible exact qz1 (by assumption) | with_reducible exact qz2 (by assumption) | with_reducible exact qz3 (by assumption) | with_reducible exact qz4 (by assumption) | with_reducible exact qz5 (by assumption) | with_reducible exact qz6 (by assumption) | with_reducible exact qz7 (by assumption) | with_reducible exact qz8 (by assumption) | with_reducible exact qz9 (by assumption) | with_reducible exact qza (by assumption) | with_reducible exact qzb (by assumption) | with_reducible exact qzc | with_reducible exact qzd | with_reducible exact qze | (first | (clear h h1; omega) | omega))
  have e : 49 * 2 ^ (k + 1) = 49 * 2 ^ k + 49 * 2 ^ k := by rw [Nat.pow_succ]; (first | (clear hs h h1 h2; omega) | omega)
  rw [e, Nat.pow_add]
  have h3 := Nat.mul_le_mul h h
  refine Nat.le_trans ?_ h3
  generalize divN (y * (y + s)) s = q at *
  generalize ((y * (y + s)).natAbs : Int) = c at *
  have h4 : (q.natAbs : Int) + 2 ≤ ((y.natAbs : Int) + 2) * (y.natAbs + 2) := by
    have hY : (0 : Int) ≤ y.natAbs := Int.natCast_nonneg _
    generalize (y.natAbs : Int) = Y at *
    generalize (q.natAbs : Int) = p at *
    have hYY := Int.mul_nonneg hY hY
    refine Int.not_lt.mp fun hlt => ?_
    have h5 : (Y * Y + 4 * Y + 3) * s ≤ p * s := Int.mul_le_mul_of_nonneg_right (by first | with_reducible assumption | with_reducible exact Rat.le_of_lt (by assumption) | (first | (clear hs h e h3 h2 hY h1 hYY; grind) | grind)) (Int.le_of_lt hs)
    have h6 : Y * Y * 1 ≤ Y * Y * s := Int.mul_le_mul_of_nonneg_left hs hYY
    have h7 : 0 ≤ Y * s := Int.mul_nonneg hY (Int.le_of_lt hs)
    (first | (clear h e h3 hY hYY hlt; grind) | grind)
  exact_mod_cast h4
theorem cr_sz {k : Nat} {y : Int} (hk : k ≤ 13) (h : Cr k y) : y.natAbs < 2 ^ 410000 := by
  have h1 : 49 * 2 ^ k ≤ 49 * 2 ^ 13 := Nat.mul_le_mul_left _ (Nat.pow_le_pow_right (by decide) hk)
  have h2 : 2 ^ (49 * 2 ^ k) ≤ 2 ^ 410000 := Nat.pow_le_pow_right (by decide) (Nat.le_trans h1 (by decide))
  unfold Cr at h
  generalize 2 ^ (49 * 2 ^ k) = a at *
  generalize 2 ^ 410000 = b at *
  (first | (clear hk h1; omega) | omega)
theorem cr_first {x y : Int} (hx : x.natAbs < 2 ^ 47) (h : (y.natAbs : Int) ≤ 2 * x.natAbs + 1) : Cr 0 y := by
  unfold Cr
  rw [Nat.pow_zero, Nat.mul_one]
  omega
theorem dblE {R k : Nat} (hk : k < R) (hR : R ≤ 13) : ∃ n : Nat, R = n + 1 + k ∧ ((n + 1 + k : Nat) : Int) - 1 + (k : Int) * -1 + 2 = ((n + 2 : Nat) : Int) ∧ n + 1 + k - (k + 1) = n ∧ n + 2 ≤ 15 ∧ k ≤ 13 ∧ ((n + 2 : Nat) : Int) ≤ 1000 := ⟨R - k - 1, by omega⟩
theorem smR {R : Nat} (h : R ≤ 13) : -(2 ^ 60) ≤ (R : Int) - 1 ∧ (R : Int) - 1 ≤ 2 ^ 60 ∧ (-1 : Int) + (R : Int) = (R : Int) - 1 := by omega
theorem iexp_dbl3 {x L T : D} {M : Int} {R : Nat} {y : Int} {d6 d7 d8 : D} (hM : 0 < M) (sM : M.natAbs < 2 ^ 46) (hR' : R ≤ 13) (hy : Cr 0 y) :
    wpS GD s_iexp_2 [x, .int M, L, .int R, T, .int y, d6, d7, d8] (fun o _ => o = some (.int (M + dbl M R y))) := by
  have hc : cnt ((R : Int) - 1) (-1) (-1) = R := by
    have := cnt_down R (-1)
    rwa [(smR hR').2.2] at this
  refine forR_ok ((R : Int) - 1) (-1) (-1) ?_ (by decide) (by decide) (small_gen (smR hR').1 (smR hR').2.1 (by decide) (by decide) (by decide) (by decide))
    (fun k ρ => ∃ y' d6 d8, ρ = [x, .int M, L, .int R, T, .int y', d6, d7, d8] ∧ dbl M (R - k) y' = dbl M R y ∧ Cr k y') ⟨y, d6, d8, rfl, rfl, hy⟩ ?_ ?_
  · simp only [wlit, wbo, wvar, wbin, wneg, wnot, wcmp, wcmp2, wany, wite, wcall, wbi, wisI, wisB, wlst, wtup, widx, wslc, wand, wor, wnil, wcons, snil, worc, sopq, srais, sret, sset, sset2, saug, site, Mine.get, binW, cmpW, biW, truth, isBP, isIP, intP, Mine.ii, ibP, ilP, slP, tlP, lP, tP, Mine.l1, Mine.l2, Mine.l3, t2P, t3P, augW, Mine.onN, cutP, partP, E.isNil, List.isEmpty_nil, List.isEmpty_cons, List.set, ne_eq, reduceCtorEq, not_false_eq_true, true_and, and_true, if_true, if_false, Bool.false_eq_true, Option.some.injEq, exists_eq_left', Bool.not_true, Bool.not_false]
    simp
  · rintro k ρ hk ⟨y', d6, d8, rfl, he, hb⟩
    rw [hc] at hk
    clear hc
    obtain ⟨n, rfl, e1, e2, hn, hk13, hn1000⟩ := dblE hk hR'
    rw [Nat.add_sub_cancel] at he
    have hM3 : 0 < M * 2 ^ (n + 2) := Int.mul_pos hM (p2pos _)
    have s0 := szp2 (k := 15) (bigger 46 300 sM) hn
    have hsm := cr_sz hk13 hb
    have s1 : Sm y' := .of 410000 hsm
    have s2 : Sm (y' + M * 2 ^ (n + 2)) := .of 410001 (add_sz (n := 410000) rfl hsm (bigger 315 410000 s0))
    unfold s_iexp_2b
    simp only [wlit, wbo, wvar, wbin, wneg, wnot, wcmp, wcmp2, wany, wite, wcall, wbi, wisI, wisB, wlst, wtup, widx, wslc, wand, wor, wnil, wcons, snil, worc, sopq, srais, sret, sset, sset2, saug, site, Mine.get, binW, cmpW, biW, truth, isBP, isIP, intP, Mine.ii, ibP, ilP, slP, tlP, lP, tP, Mine.l1, Mine.l2, Mine.l3, t2P, t3P, augW, Mine.onN, cutP, partP, E.isNil, List.isEmpty_nil, List.isEmpty_cons, List.set, ne_eq, reduceCtorEq, not_false_eq_true, true_and, and_true, if_true, if_false, Bool.false_eq_true, Option.some.injEq, exists_eq_left', Bool.not_true, Bool.not_false]
    rw [e1, Int.toNat_natCast]
    refine ⟨Int.natCast_nonneg _, bits_add sM (by decide) hn1000, s1.mul s2, _, .div _ _ hM3 (lg 315 s0), ?_⟩
    rw [e2]
    exact ⟨_, _, _, rfl, he, cr_step hM3 hb⟩
  · rintro ρ ⟨y', d6, d8, rfl, he, _⟩
    rw [hc, Nat.sub_self] at he
    unfold s_iexp_2r
    simp only [wlit, wbo, wvar, wbin, wneg, wnot, wcmp, wcmp2, wany, wite, wcall, wbi, wisI, wisB, wlst, wtup, widx, wslc, wand, wor, wnil, wcons, snil, worc, sopq, srais, sret, sset, sset2, saug, site, Mine.get, binW, cmpW, biW, truth, isBP, isIP, intP, Mine.ii, ibP, ilP, slP, tlP, lP, tP, Mine.l1, Mine.l2, Mine.l3, t2P, t3P, augW, Mine.onN, cutP, partP, E.isNil, List.isEmpty_nil, List.isEmpty_cons, List.set, ne_eq, reduceCtorEq, not_false_eq_true, true_and, and_true, if_true, if_false, Bool.false_eq_true, Option.some.injEq, exists_eq_left', Bool.not_true, Bool.not_false]
    rw [← he]; rfl
theorem pos_nat {T : Int} (h : 1 ≤ T) : ∃ n : Nat, T = n + 1 := ⟨(T - 1).toNat, by omega⟩
theorem T57 {T : Int} {n : Nat} (h : T = n + 1) (h4 : T ≤ 57) : (T - 1).toNat = n ∧ n ≤ 1000 ∧ T.natAbs < 2 ^ 10 ∧ -(2 ^ 60) ≤ T - 1 ∧ T - 1 ≤ 2 ^ 60 ∧ (0 : Int) + (n : Int) = T - 1 := by omega
theorem L64 {L : Int} (hL : 1 ≤ L) (hL' : L ≤ 64) : (3 * L).natAbs < 2 ^ 10 ∧ 3 * L ≠ 0 ∧ 0 ≤ L ∧ L ≤ 1000 := by omega
theorem M46 {M : Int} (hM : 0 < M) (sM : M.natAbs < 2 ^ 46) : M < 10 ^ 14 ∧ M.natAbs ≠ 0 := by omega
theorem f60 {f : Nat} (h : f ≤ 14) : f < 2 ^ 60 := by omega
/-- the count of rows, and what is small about it -/
theorem T_facts {M L : Int} (hM : 0 < M) (hL : 1 ≤ L) (hL' : L ≤ 64) (sM : M.natAbs < 2 ^ 46) : ∃ n : Nat, nT M L = n + 1 ∧ (nT M L - 1).toNat = n ∧ n ≤ 1000 ∧ (nT M L).natAbs.log2 < 9000 ∧ (3 * L).natAbs.log2 < 9000 ∧ 3 * L ≠ 0 ∧ 0 ≤ L ∧ L ≤ 1000 ∧ figs M < 2 ^ 60 ∧ M.natAbs.log2 < 1920 ∧
    Builtin.Range.small (nT M L - 1) 0 (-1) = true ∧ cnt (nT M L - 1) 0 (-1) = n ∧ 1 ≤ nT M L := by
  obtain ⟨m1, m2⟩ := M46 hM sM
  have hT1 := (nT_facts hM hL).1
  obtain ⟨n, hn⟩ := pos_nat hT1
  obtain ⟨t1, t2, t3, t4, t5, t6⟩ := T57 hn (nT_le (k := 14) hM hL m1)
  obtain ⟨l1, l2, l3, l4⟩ := L64 hL hL'
  have hc := cnt_down n 0
  rw [t6] at hc
  exact ⟨n, hn, t1, t2, lg 10 t3, lg 10 l1, l2, l3, l4, f60 (figs_le (k := 14) hM m1), Nat.lt_of_lt_of_le ((Nat.log2_lt m2).mpr sM) (by decide), small_gen t4 t5 (by decide) (by decide) (by decide) (by decide), hc, hT1⟩
theorem turnE {T : Int} {n k : Nat} (hn : T = n + 1) (hk : k < n) (h : n ≤ 1000) : ∃ j : Nat, n - k = j + 1 ∧ T - 1 + (k : Int) * -1 = (j : Int) + 1 ∧ n - (k + 1) = j ∧ (1 : Int) ≤ (j : Int) + 1 ∧ j ≤ 1000 := ⟨n - k - 1, by omega⟩
theorem R13 {R : Nat} (h : R ≤ 13) : (R : Int) ≤ 1000 := by omega
theorem iexp_body3 (x M L : Int) (hM : 0 < M) (sM : M.natAbs < 2 ^ 46) (sx : x.natAbs < 2 ^ 47) (hL : 1 ≤ L) (hL' : L ≤ 64) (hR : nR x M L ≤ 13) :
    wpS GD s_iexp [.int x, .int M, .int L, .undef, .undef, .undef, .undef, .undef, .undef] (fun o _ => o = some (.int (iexp x M L))) := by
  obtain ⟨n, hn, hn2, hn1000, lT, l3, n3, hL0, hL1000, hfg, hstr, hsm, hc, hT1⟩ := T_facts hM hL hL' sM
  have hS := scale2 (x := x) hM hL
  have hfirst := first_le (x := x) hT1
  have b1 := bits_add (b := L) sx (by decide) hL1000
  have b2 := bits_add (b := (nR x M L : Int)) sM (by decide) (R13 hR)
  have hS0 : 0 < M * 2 ^ nR x M L := Int.mul_pos hM (p2pos _)
  have sS := bigger 313 372 (szp2 (k := 13) (bigger 46 300 sM) hR)
  clear hL'
  unfold s_iexp
  simp only [wlit, wbo, wvar, wbin, wneg, wnot, wcmp, wcmp2, wany, wite, wcall, wbi, wisI, wisB, wlst, wtup, widx, wslc, wand, wor, wnil, wcons, snil, worc, sopq, srais, sret, sset, sset2, saug, site, Mine.get, binW, cmpW, biW, truth, isBP, isIP, intP, Mine.ii, ibP, ilP, slP, tlP, lP, tP, Mine.l1, Mine.l2, Mine.l3, t2P, t3P, augW, Mine.onN, cutP, partP, E.isNil, List.isEmpty_nil, List.isEmpty_cons, List.set, ne_eq, reduceCtorEq, not_false_eq_true, true_and, and_true, if_true, if_false, Bool.false_eq_true, Option.some.injEq, exists_eq_left', Bool.not_true, Bool.not_false]
  refine ⟨hL0, b1, nz' hM, lg 46 sM, hstr, hfg, IntMulOk.of_left (by decide), IntMulOk.of_left (by decide), n3, l3, ?_⟩
  show ∃ r, GD "_div_nearest" [.int x, .int (nT M L)] r ∧ _
  refine ⟨_, .div _ _ hT1 lT, Int.natCast_nonneg _, b2, ?_⟩
  rw [Int.toNat_natCast]
  show wpS GD s_iexp_1 [.int x, .int M, .int L, .int (nR x M L : Int), .int (nT M L), .int (divN x (nT M L)), .int (M * 2 ^ nR x M L), .undef, .undef] _
  have hfin : iexp x M L = M + dbl M (nR x M L) (ser x (M * 2 ^ nR x M L) n (divN x (nT M L))) := by unfold iexp; rw [hn2]
  rw [hfin]
  generalize nR x M L = R at *
  generalize hSg : M * 2 ^ R = S at *
  generalize divN x (nT M L) = y0 at *
  clear hT1 lT l3 n3 b1 b2 hfg hstr hn2 hL hL0 hfin hSg
  refine forR_ok (nT M L - 1) 0 (-1) ?_ (by decide) (by decide) hsm
    (fun k ρ => ∃ y' d7, ρ = [.int x, .int M, .int L, .int R, .int (nT M L), .int y', .int S, d7, .undef] ∧ ser x S (n - k) y' = ser x S n y0 ∧ (y'.natAbs : Int) ≤ 2 * x.natAbs + 1) ⟨y0, _, rfl, rfl, hfirst⟩ ?_ ?_
  · simp only [wlit, wbo, wvar, wbin, wneg, wnot, wcmp, wcmp2, wany, wite, wcall, wbi, wisI, wisB, wlst, wtup, widx, wslc, wand, wor, wnil, wcons, snil, worc, sopq, srais, sret, sset, sset2, saug, site, Mine.get, binW, cmpW, biW, truth, isBP, isIP, intP, Mine.ii, ibP, ilP, slP, tlP, lP, tP, Mine.l1, Mine.l2, Mine.l3, t2P, t3P, augW, Mine.onN, cutP, partP, E.isNil, List.isEmpty_nil, List.isEmpty_cons, List.set, ne_eq, reduceCtorEq, not_false_eq_true, true_and, and_true, if_true, if_false, Bool.false_eq_true, Option.some.injEq, exists_eq_left', Bool.not_true, Bool.not_false]
    simp
  · rintro k ρ hk ⟨y', d7, rfl, he, hb⟩
    rw [hc] at hk
    clear hM sM hR hsm
    obtain ⟨j, hj, e1, hn', hj1, hj2⟩ := turnE hn hk hn1000
    rw [hj] at he
    obtain ⟨m1, m2, m3⟩ := iexp_turn (bigger 47 306 sx) sS hb hj2
    unfold s_iexp_1b
    simp only [wlit, wbo, wvar, wbin, wneg, wnot, wcmp, wcmp2, wany, wite, wcall, wbi, wisI, wisB, wlst, wtup, widx, wslc, wand, wor, wnil, wcons, snil, worc, sopq, srais, sret, sset, sset2, saug, site, Mine.get, binW, cmpW, biW, truth, isBP, isIP, intP, Mine.ii, ibP, ilP, slP, tlP, lP, tP, Mine.l1, Mine.l2, Mine.l3, t2P, t3P, augW, Mine.onN, cutP, partP, E.isNil, List.isEmpty_nil, List.isEmpty_cons, List.set, ne_eq, reduceCtorEq, not_false_eq_true, true_and, and_true, if_true, if_false, Bool.false_eq_true, Option.some.injEq, exists_eq_left', Bool.not_true, Bool.not_false]
    rw [e1]
    refine ⟨m1, m2, _, .div _ _ (Int.mul_pos hS0 hj1) m3, ?_⟩
    rw [hn']
    exact ⟨_, _, rfl, he, ser_step hS0 hS hj1 hb⟩
  · rintro ρ ⟨y', d7, rfl, he, hb⟩
    rw [hc, Nat.sub_self] at he
    rw [← he]
    show wpS GD s_iexp_1r _ _
    unfold s_iexp_1r
    exact iexp_dbl3 hM sM hR (cr_first sx hb)


section comp
variable {prog : Program} {w : World} {name : Str} {sc : Scope} {L : Addr} {a : Option Addr × Option Addr} {cd : Value} {cs : List (Str × Addr)}

theorem comp_eOf {scope : Scope} {cl : List (Str × Addr)} {C : Addr} : compEnvC scope cl C (eOf name sc L a cd cs) = eOf name (relabel scope (eOf name sc L a cd cs)) C (none, a.2) cd cl := rfl

end comp


section comp
variable {prog : Program} {w : World} {hB h₀ : Heap} {mg mb : Str → Option Value} {us : Us} {N : List Str} {sc : Scope} {Γ : Str → List D → D → Prop} {n : Nat} {name : Str} {L : Addr} {a : Option Addr × Option Addr} {cd : Value} {cs : List (Str × Addr)}

/-- a cell's name -/
theorem cell_ld {A : Around} {s : Shared} {y : Str} {pos : Pos} {c : Addr} {v : Value} {Q : Value → Shared → Prop} (hk : sc.kind = .function) (hl : sc.names.lookup y = some .cell) (hc : cs.lookup y = some c) (hv : s.heap.IsCell c (some v)) (hd : (y == ("__debug__" : Str)) = false) (h : Q v s) :
    wpAny (model prog w) A (eval (.Name y pos) (eOf name sc L a cd cs)) Q Fls s := wpAny_Name (wpAny_loadName_cell hk hl hc hv h) hd

end comp
/-! numbers drawn from the script -/
theorem abs_if (a : Int) : (if a < 0 then -a else a) = (a.natAbs : Int) := by split <;> omega
section
variable {Γ : Str → List D → D → Prop} {ns : List Int} {ρ : List D} {P : D → Prop} {e e2 : E}
/-- if script -/
theorem if_script (hl : ns.length ≤ 63) (h1 : ns ≠ [] → wp Γ e (.list (ns.map .int) :: ρ) P) (h2 : ns = [] → wp Γ e2 (.list (ns.map .int) :: ρ) P) : wp Γ (.ite (.var 0) e e2) (.list (ns.map .int) :: ρ) P := by
  simp only [wlit, wbo, wvar, wbin, wneg, wnot, wcmp, wcmp2, wany, wite, wcall, wbi, wisI, wisB, wlst, wtup, widx, wslc, wand, wor, wnil, wcons, snil, worc, sopq, srais, sret, sset, sset2, saug, site, Mine.get, binW, cmpW, biW, truth, isBP, isIP, intP, Mine.ii, ibP, ilP, slP, tlP, lP, tP, Mine.l1, Mine.l2, Mine.l3, t2P, t3P, augW, Mine.onN, cutP, partP, E.isNil, List.isEmpty_nil, List.isEmpty_cons, List.set, ne_eq, reduceCtorEq, not_false_eq_true, true_and, and_true, if_true, if_false, Bool.false_eq_true, Option.some.injEq, exists_eq_left', Bool.not_true, Bool.not_false]
  rw [if_pos (by rw [List.length_map]; (first | (clear h1 h2; omega) | omega))]
  refine ⟨_, rfl, ?_⟩
  cases ns with
  | nil => exact h2 rfl
  | cons a r => exact h1 (by simp)
/-- abs(script[i]) % c -/
theorem draw_mod {i c : Int} (hl : ns.length ≤ 63) (hi : 0 ≤ i) (hi2 : i < ns.length) (hc : 0 < c) {ec : E} (hec : ∀ P' : D → Prop, P' (.int c) → wp Γ ec (.list (ns.map .int) :: ρ) P') (h : ∀ v : Int, 0 ≤ v → v < c → P (.int v)) :
    wp Γ (.bin .Mod (.bi .abs (.cons (.idx (.var 0) (.lit i)) .nil)) ec) (.list (ns.map .int) :: ρ) P := by
  simp only [wlit, wbo, wvar, wbin, wneg, wnot, wcmp, wcmp2, wany, wite, wcall, wbi, wisI, wisB, wlst, wtup, widx, wslc, wand, wor, wnil, wcons, snil, worc, sopq, srais, sret, sset, sset2, saug, site, Mine.get, binW, cmpW, biW, truth, isBP, isIP, intP, Mine.ii, ibP, ilP, slP, tlP, lP, tP, Mine.l1, Mine.l2, Mine.l3, t2P, t3P, augW, Mine.onN, cutP, partP, E.isNil, List.isEmpty_nil, List.isEmpty_cons, List.set, ne_eq, reduceCtorEq, not_false_eq_true, true_and, and_true, if_true, if_false, Bool.false_eq_true, Option.some.injEq, exists_eq_left', Bool.not_true, Bool.not_false]
  refine idxI hi hi2 (by first | with_reducible assumption | with_reducible exact Int.le_of_lt (by assumption) | with_reducible exact Nat.le_of_lt (by assumption) | with_reducible exact qz1 (by assumption) | with_reducible exact qz2 (by assumption) | with_reducible exact qz3 (by assumption) | with_reducible exact qz4 (by assumption) | with_reducible exact qz5 (by assumption) | with_reducible exact qz6 (by assumption) | with_reducible exact qz7 (by assumption) | with_reducible exact qz8 (by assumption) | with_reducible exact qz9 (by assumption) | with_reducible exact qza (by assumption) | with_reducible exact qzb (by assumption) | with_reducible exact qzc | with_reducible exact qzd | with_reducible exact qze | (first | (clear hi hi2 hc hec h; omega) | omega)) ?_
  simp only [wlit, wbo, wvar, wbin, wneg, wnot, wcmp, wcmp2, wany, wite, wcall, wbi, wisI, wisB, wlst, wtup, widx, wslc, wand, wor, wnil, wcons, snil, worc, sopq, srais, sret, sset, sset2, saug, site, Mine.get, binW, cmpW, biW, truth, isBP, isIP, intP, Mine.ii, ibP, ilP, slP, tlP, lP, tP, Mine.l1, Mine.l2, Mine.l3, t2P, t3P, augW, Mine.onN, cutP, partP, E.isNil, List.isEmpty_nil, List.isEmpty_cons, List.set, ne_eq, reduceCtorEq, not_false_eq_true, true_and, and_true, if_true, if_false, Bool.false_eq_true, Option.some.injEq, exists_eq_left', Bool.not_true, Bool.not_false]
  refine hec _ ?_
  simp only [intP]
  rw [abs_if, Int.fmod_eq_emod_of_nonneg _ (by first | with_reducible assumption | with_reducible exact Int.le_of_lt (by assumption) | with_reducible exact Nat.le_of_lt (by assumption) | with_reducible exact qz1 (by assumption) | with_reducible exact qz2 (by assumption) | with_reducible exact qz3 (by assumption) | with_reducible exact qz4 (by assumption) | with_reducible exact qz5 (by assumption) | with_reducible exact qz6 (by assumption) | with_reducible exact qz7 (by assumption) | with_reducible exact qz8 (by assumption) | with_reducible exact qz9 (by assumption) | with_reducible exact qza (by assumption) | with_reducible exact qzb (by assumption) | with_reducible exact qzc | with_reducible exact qzd | with_reducible exact qze | omega)]
  exact ⟨by (first | (clear hl hi hi2 hec h; omega) | omega), h _ (Int.emod_nonneg _ (by first | with_reducible assumption | with_reducible exact Int.le_of_lt (by assumption) | with_reducible exact Nat.le_of_lt (by assumption) | with_reducible exact qz1 (by assumption) | with_reducible exact qz2 (by assumption) | with_reducible exact qz3 (by assumption) | with_reducible exact qz4 (by assumption) | with_reducible exact qz5 (by assumption) | with_reducible exact qz6 (by assumption) | with_reducible exact qz7 (by assumption) | with_reducible exact qz8 (by assumption) | with_reducible exact qz9 (by assumption) | with_reducible exact qza (by assumption) | with_reducible exact qzb (by assumption) | with_reducible exact qzc | with_reducible exact qzd | with_reducible exact qze | omega)) (Int.emod_lt_of_pos _ hc)⟩
end


section tup
variable {prog : Program} {w : World} {A : Around} {E : Value → Shared → Prop} {s : Shared}

end tup


/-- data without a list within -/
inductive NoL : D → Prop where
  | none : NoL .none
  | int (i : Int) : NoL (.int i)
  | bool (b : Bool) : NoL (.bool b)
  | str (x : Str) : NoL (.str x)
  | tup {ds : List D} (h : ∀ d ∈ ds, NoL d) : NoL (.tup ds)
noncomputable def TupK (h h' : Heap) : Prop := ∀ b o items n, h.get? b = some o → o.cls = .type "tuple" → o.data = .seq items n → h'.get? b = some o
theorem RV.keepT {h h' : Heap} (hk : TupK h h') {v : Value} {d : D} (r : RV h v d) (hn : NoL d) : RV h' v d := by
  induction r with
  | none => exact .none
  | int i t => exact .int i t
  | bool b => exact .bool b
  | str x t => exact .str x t
  | obj a => cases hn
  | list hl _ _ _ => cases hn
  | @tup a vs ds hl hl2 _ ih =>
    obtain ⟨o, ho, hc, n, hd⟩ := hl
    cases hn with
    | tup hn => exact .tup ⟨o, hk _ o _ n ho hc hd, hc, n, hd⟩ hl2 fun i v d e1 e2 => ih i v d e1 e2 (hn d (List.mem_of_getElem? e2))
theorem RVs.keepT {h h' : Heap} (hk : TupK h h') {vs : List Value} {ds : List D} (r : RVs h vs ds) (hn : ∀ d ∈ ds, NoL d) : RVs h' vs ds :=
  ⟨r.1, fun i v d e1 e2 => (r.2 i v d e1 e2).keepT hk (hn d (List.mem_of_getElem? e2))⟩
theorem RVs.snoc {h : Heap} {vs : List Value} {ds : List D} {v : Value} {d : D} (r : RVs h vs ds) (r1 : RV h v d) : RVs h (vs ++ [v]) (ds ++ [d]) := r.append (RVs.cons r1 RVs.nil)

section comp
variable {prog : Program} {w : World}

end comp


section own
variable {prog : Program} {w : World} {hB h₀ : Heap} {mg mb : Str → Option Value} {us : Us} {N : List Str} {sc : Scope} {Γ : Str → List D → D → Prop} {n : Nat} {name : Str} {L : Addr} {a : Option Addr × Option Addr} {cd : Value} {cs : List (Str × Addr)}

theorem St.swap {ρ : List D} {s : Shared} {i : Nat} {o : Addr} {vs : List Value} {ds : List D} (S : St h₀ L N ρ s) (hi : ρ[i]? = some (.obj o)) (hl : s.heap.IsList o vs.toArray) (hv : RVs s.heap vs ds) : St h₀ L N (ρ.set i (.list ds)) s := by
  obtain ⟨m, F, R⟩ := S
  refine ⟨m, F, fun j x d e1 e2 e3 => ?_⟩
  by_cases hij : i = j
  · subst hij
    rw [List.getElem?_set] at e2
    simp at e2
    obtain ⟨_, rfl⟩ := e2
    obtain ⟨v, hm, r⟩ := R i x _ e1 hi (by simp)
    obtain rfl := r.inv_obj
    exact ⟨_, hm, .list hl hv.1 hv.2⟩
  · rw [get_set_ne hij] at e2
    exact R j x d e1 e2 e3
/-- what survives a change of a list -/
noncomputable def Fl (d : D) : Prop := d = .undef ∨ NoL d ∨ ∃ o, d = .obj o
theorem St.own {ρ : List D} {s : Shared} {o : Addr} {vs : Array Value} {h' : Heap} {tk : Nat} (S : St h₀ L N ρ s) (hf : ∀ d ∈ ρ, Fl d) (hl : s.heap.IsList o vs) (hoL : o ≠ L) (ho0 : h₀.get? o = none) (hs : Heap.SameBut o s.heap h') :
    St h₀ L N ρ { s with heap := h', toks := tk } := by
  obtain ⟨m, F, R⟩ := S
  refine ⟨m, ⟨F.ns.at' fun ob e => (hs.2 L (Ne.symm hoL)).trans e, fun b ob hb e => (hs.2 b fun h => by subst h; rw [ho0] at e; cases e).trans (F.keep b ob hb e)⟩, fun i x d e1 e2 e3 => ?_⟩
  obtain ⟨v, hv, r⟩ := R i x d e1 e2 e3
  rcases hf d (List.mem_of_getElem? e2) with rfl | hn | ⟨o', rfl⟩
  · exact absurd rfl e3
  · refine ⟨v, hv, r.keepT (fun b ob items n e hc hd => (hs.2 b fun h => ?_).trans e) hn⟩
    subst h
    obtain ⟨o', ho', hc', _⟩ := hl
    rw [e] at ho'; cases ho'; rw [hc] at hc'; exact absurd hc' (by decide)
  · obtain rfl := r.inv_obj
    exact ⟨_, hv, .obj _⟩

/-- x.append(e) as a statement -/
noncomputable def dsApp : Stmt → Option (Str × Expr)
  | .Expr (.Call (.Attribute (.Name y _) f apos) [e] [] pos) _ => if f == "append" && apos.endLine == pos.line && notStarred e then some (y, e) else none
  | _ => none
theorem iApp {st : Stmt} {t : Str × Expr} (h : dsApp st = some t) : ∃ py apos pos epos, st = .Expr (.Call (.Attribute (.Name t.1 py) "append" apos) [t.2] [] pos) epos ∧ (apos.endLine == pos.line) = true ∧ notStarred t.2 = true := by
  unfold dsApp at h
  split at h
  · split at h
    · rename_i hc
      simp only [Bool.and_eq_true] at hc
      cases h
      obtain ⟨⟨h1, h2⟩, h3⟩ := hc
      have := beq_iff_eq.mp h1
      subst this
      exact ⟨_, _, _, _, rfl, h2, h3⟩
    · cases h
  · cases h

theorem app_ok (C : Cx prog w hB h₀ mg mb us N sc Γ n name L a cd cs) {A : Around} {s : Shared} {ρ : List D} {i : Nat} {y : Str} {o : Addr} {its : List Value} {ds : List D} {dd : D} {e : E} {elt : Expr} {py apos pos epos : Pos} {Q : Flow → Shared → Prop}
    (hA : AOk n A) (S : St h₀ L N ρ s) (hi : N[i]? = some y) (hρ : ρ[i]? = some (.obj o)) (hl : PlainL s.heap o its.toArray) (hoL : o ≠ L) (ho0 : h₀.get? o = none) (hf : ∀ d ∈ ρ, Fl d) (hc : chkE us N sc e elt = true) (hns : notStarred elt = true)
    (hline : (apos.endLine == pos.line) = true) (hw : wp Γ e ρ (fun d => d = dd)) (hd : NoL dd) (hsz : its.length ≤ 2 ^ 20) (hv : RVs s.heap its ds) (hds : ∀ d ∈ ds, NoL d)
    (go : ∀ s' v, St h₀ L N ρ s' → PlainL s'.heap o (its ++ [v]).toArray → RVs s'.heap (its ++ [v]) (ds ++ [dd]) → (∃ h' tk, s' = { s with heap := h', toks := tk }) → (∀ b ob, b ≠ o → s.heap.get? b = some ob → s'.heap.get? b = some ob) → Q .next s') :
    wpAny (model prog w) A (exec (.Expr (.Call (.Attribute (.Name y py) "append" apos) [elt] [] pos) epos) (eOf name sc L a cd cs)) Q Fls s := by
  have htr : backTo pos (starEach [elt] (eOf name sc L a cd cs)) = [(false, eval elt (eOf name sc L a cd cs))] := by
    rw [starEach_cons hns]; rfl
  refine wpAny_Expr (wpAny_Call_append rfl (by rw [htr]; rfl) hline htr ?_) (by unfold interactive; show ((sc.kind == .module) && _) = false; rw [C.hk]; rfl)
  obtain ⟨m, F, R⟩ := id S
  obtain ⟨v, hm, r⟩ := R i y _ hi hρ (by simp)
  obtain rfl := r.inv_obj
  have hloc := C.loc y (List.mem_of_getElem? hi)
  refine wpAny_Name (wpAny_loadName_local C.hk hloc.1 F.ns hm ⟨o, its.toArray, rfl, hl, ?_⟩) hloc.2
  rw [rw1] at hw
  refine wpAny_mono ((sound C e).val _ hc A s ρ _ hA S hw) (fun v s₂ h₂ => ?_) fun _ _ x => x
  obtain ⟨k, d, rv, rfl⟩ := h₂
  have hl2 := hl.keeps (kAll k)
  refine list_append_plainL hl2 (fun h' hl' hs' => ?_) (by rw [List.size_toArray]; exact size_le hsz)
  have S₂ := (S.keeps k).own (tk := s₂.toks) hf hl2.isList hoL ho0 hs'
  have tk : TupK s₂.heap h' := fun b ob items n e hc hd => (hs'.2 b fun h => by
    subst h
    obtain ⟨o', ho', hc', _⟩ := hl2.isList
    rw [e] at ho'; cases ho'; rw [hc] at hc'; exact absurd hc' (by decide)).trans e
  refine go _ v S₂ (by simpa using hl') (((hv.keep (kSeq k)).keepT tk hds).snoc (rv.keepT tk hd)) ?_ fun b ob hb e => (hs'.2 b hb).trans (kAll k b ob e)
  obtain ⟨hh, tkk, rfl, _⟩ := k
  exact ⟨h', _, rfl⟩

/-- two lists put together: a new list -/
theorem add_new {A : Around} {s : Shared} {l1 l2 : Addr} {vs us : List Value} {Q : Value → Shared → Prop} (hl : s.heap.IsList l1 vs.toArray) (hl2 : s.heap.IsList l2 us.toArray) (hz : vs.length + us.length ≤ 2 ^ 20)
    (h : ∀ h', Kp s.heap h' → s.heap.get? s.heap.objs.size = none → PlainL h' s.heap.objs.size (vs ++ us).toArray → Q (.ref s.heap.objs.size) { s with heap := h' }) :
    wpAny (model prog w) A (binaryOp .Add (.ref l1) (.ref l2)) Q Fls s := by
  obtain ⟨⟨c1, d1, t1, s1⟩, ho, hc, n, hd⟩ := hl
  obtain ⟨⟨c2, d2, t2, s2⟩, ho2, hc2, n2, hd2⟩ := hl2
  dsimp only at hc hd hc2 hd2
  subst hc hd hc2 hd2
  refine concat_meets ⟨_, ho, rfl⟩ ⟨_, ho2, rfl⟩ noFill_list_add seq_list_add PySem.F.slot_list_add PySem.F.entry_list_add (PySem.F.args_list_add_2 _ _)
    (list_addW l1 l2 vs.toArray us.toArray n n2 d1 d2 s1 s2 (by simp only [List.size_toArray]; exact size_le hz)) ⟨ho, ho2, ?_⟩
  refine h _ (fun _ _ e => Heap.get?_push_of_some _ e) (none_at (Nat.le_refl _)) ?_
  exact ⟨_, 0, Heap.get?_push_size _ rfl, rfl, rfl, by simp⟩

/-- a law's end, by the engine -/
theorem law_tail (C : Cx prog w hB h₀ mg mb us N sc Γ n name L a cd cs) (hL : hB.objs.size ≤ L) {A : Around} {s s₀ : Shared} {ρ : List D} {body : List Stmt} {c : S} (hA : AOk n A) (hK : us.k A) (S : St h₀ L N ρ s) (hchk : chkS us N sc c body = true)
    (hsp : wpS Γ c ρ (fun o _ => o = some (.bool true))) (hs : ∃ h' tk, s = { s₀ with heap := h', toks := tk }) :
    wpAny (model prog w) A (execs body (eOf name sc L a cd cs)) (fun f s' => f = .ret (.bool true) ∧ ∃ m h' tk, s' = { s₀ with heap := h', toks := tk } ∧ Fr hB L h' m) Fls s := by
  rw [rw5] at hsp
  refine wpAny_mono (soundS C c body hchk A s _ _ ⟨hA, hK⟩ S hsp) (fun f s' h' => ?_) fun _ _ x => x
  obtain ⟨⟨h₂, tk, rfl, _⟩, o, ρ', ⟨m', F', _⟩, hf, rfl⟩ := h'
  obtain ⟨h1, tk1, rfl⟩ := hs
  cases f with
  | ret v =>
    obtain rfl := RV.inv_bool hf
    exact ⟨rfl, m', h₂, tk, rfl, ⟨F'.ns, fun b o e => F'.keep b o (C.base b o e).1 (C.base b o e).2, hL⟩⟩
  | next => exact hf.elim
  | brk => exact hf.elim
  | cont => exact hf.elim
end own


theorem execs_app {M : Model} {A : Around} {env : Env} {l1 l2 : List Stmt} {Q : Flow → Shared → Prop} {E : Value → Shared → Prop} {s : Shared}
    (h : wpAny M A (execs l1 env) (fun f s' => match f with | .next => wpAny M A (execs l2 env) Q E s' | f => Q f s') E s) : wpAny M A (execs (l1 ++ l2) env) Q E s := by
  intro Γ p hΓ
  have key : ∀ (l1 : List Stmt) (p : Pos) (s : Shared), Sem.wp M Γ (execs l1 env) (fun f _ s' => match f with | .next => wpAny M A (execs l2 env) Q E s' | f => Q f s') (fun e _ s' => E e s') p s →
      Sem.wp M Γ (execs (l1 ++ l2) env) (fun f _ s' => Q f s') (fun e _ s' => E e s') p s := by
    intro l1
    induction l1 with
    | nil => intro p s h; exact h Γ p hΓ
    | cons st l1 ih =>
      intro p s h
      rw [execs_cons, Sem.wp_bind'] at h
      rw [List.cons_append, execs_cons, Sem.wp_bind']
      refine Sem.wp_mono M Γ _ (fun f p' s' h' => ?_) (fun _ _ _ h' => h') _ _ h
      cases f <;> first | exact ih p' s' h' | exact h'
  exact key l1 p s (h Γ p hΓ)

section own
variable {prog : Program} {w : World} {hB h₀ : Heap} {mg mb : Str → Option Value} {us : Us} {N : List Str} {sc : Scope} {Γ : Str → List D → D → Prop} {n : Nat} {name : Str} {L : Addr} {a : Option Addr × Option Addr} {cd : Value} {cs : List (Str × Addr)}

/-- all but the frame's object and an owned list is kept -/
noncomputable def Tr2 (L o : Addr) (s s' : Shared) : Prop := ∃ h' tk, s' = { s with heap := h', toks := tk } ∧ ∀ b ob, b ≠ L → b ≠ o → s.heap.get? b = some ob → h'.get? b = some ob
theorem Tr2.trans {L o : Addr} {s s' s'' : Shared} (x : Tr2 L o s s') (y : Tr2 L o s' s'') : Tr2 L o s s'' := by
  obtain ⟨h', tk, rfl, hk⟩ := x
  obtain ⟨h'', tk', rfl, hk'⟩ := y
  exact ⟨h'', tk', rfl, fun b o n m e => hk' b o n m (hk b o n m e)⟩
theorem Tr.two {L : Addr} {s s' : Shared} (x : Tr L s s') (o : Addr) : Tr2 L o s s' := by
  obtain ⟨h', tk, rfl, hk⟩ := x
  exact ⟨h', tk, rfl, fun b ob n _ e => hk b ob n e⟩
structure OwnSt (h₀ : Heap) (L : Addr) (N : List Str) (i : Nat) (o : Addr) (ρ ds : List D) (s : Shared) : Prop where
  st : St h₀ L N ρ s
  at' : ρ[i]? = some (.obj o)
  fl : ∀ d ∈ ρ, Fl d
  pl : ∃ its, PlainL s.heap o its.toArray ∧ RVs s.heap its ds
  noL : ∀ d ∈ ds, NoL d
  ne : o ≠ L
  fr : h₀.get? o = none

theorem plain_tr {o : Addr} {its : Array Value} {s s' : Shared} (t : Tr L s s') (hne : o ≠ L) (h : PlainL s.heap o its) : PlainL s'.heap o its := by
  obtain ⟨ob, nn, e, r⟩ := h
  exact ⟨ob, nn, t.all _ _ hne e, r⟩
/-- a stretch that the engine runs -/
theorem OwnSt.step {i : Nat} {o : Addr} {ρ ρ' ds : List D} {s s' : Shared} (X : OwnSt h₀ L N i o ρ ds s) (S' : St h₀ L N ρ' s') (t : Tr L s s') (ha : ρ'[i]? = some (.obj o)) (hf : ∀ d ∈ ρ', Fl d) : OwnSt h₀ L N i o ρ' ds s' := by
  obtain ⟨its, hp, hr⟩ := X.pl
  exact ⟨S', ha, hf, ⟨its, plain_tr t X.ne hp, hr.keep (st_seq X.st t)⟩, X.noL, X.ne, X.fr⟩

theorem app_own (C : Cx prog w hB h₀ mg mb us N sc Γ n name L a cd cs) {A : Around} {s : Shared} {ρ ds : List D} {i : Nat} {y : Str} {o : Addr} {dd : D} {e : E} {elt : Expr} {py apos pos epos : Pos} {Q : Flow → Shared → Prop}
    (hA : AOk n A) (X : OwnSt h₀ L N i o ρ ds s) (hi : N[i]? = some y) (hc : chkE us N sc e elt = true) (hns : notStarred elt = true)
    (hline : (apos.endLine == pos.line) = true) (hw : wp Γ e ρ (fun d => d = dd)) (hd : NoL dd) (hsz : ds.length ≤ 2 ^ 20)
    (go : ∀ s', OwnSt h₀ L N i o ρ (ds ++ [dd]) s' → Tr2 L o s s' → Q .next s') :
    wpAny (model prog w) A (exec (.Expr (.Call (.Attribute (.Name y py) "append" apos) [elt] [] pos) epos) (eOf name sc L a cd cs)) Q Fls s := by
  obtain ⟨its, hp, hr⟩ := X.pl
  refine app_ok C hA X.st hi X.at' hp X.ne X.fr X.fl hc hns hline hw hd (by rw [hr.1]; exact hsz) hr X.noL fun s' v S' hp' hr' hs' hk => ?_
  refine go s' ⟨S', X.at', X.fl, ⟨_, hp', hr'⟩, ?_, X.ne, X.fr⟩ ?_
  · intro d hd'
    rcases List.mem_append.mp hd' with h | h
    · exact X.noL d h
    · have : d = dd := by simpa using h
      subst this; exact hd
  · obtain ⟨h', tk, rfl⟩ := hs'
    exact ⟨h', tk, rfl, fun b ob _ hb e => hk b ob hb e⟩

/-- a for loop over a list of its own, that may grow the owned list -/
theorem for_own (C : Cx prog w hB h₀ mg mb us N sc Γ n name L a cd cs) {A : Around} {s : Shared} {ρ acc : List D} {i j : Nat} {x : Str} {o : Addr} {px pos : Pos} {iter : Expr} {body : List Stmt} (ds : List D)
    (hA : AOk n A) (X : OwnSt h₀ L N i o ρ acc s) (hx : N[j]? = some x) (hij : j ≠ i) (hset : notSet iter = true) (hnd : ∀ d ∈ ds, NoL d)
    (hit : wpAny (model prog w) A (eval iter (eOf name sc L a cd cs)) (fun v s₂ => Keeps s s₂ ∧ ∃ ad vs, v = .ref ad ∧ s.heap.get? ad = none ∧ s₂.heap.IsList ad vs.toArray ∧ RVs s₂.heap vs ds) Fls s)
    (J : Nat → List D → List D → Prop) (h0 : J 0 ρ acc)
    (turn : ∀ k d ρ' acc' (s₁ : Shared), ds[k]? = some d → J k ρ' acc' → OwnSt h₀ L N i o (ρ'.set j d) acc' s₁ →
      wpAny (model prog w) A (execs body (eOf name sc L a cd cs)) (fun f s' => f = .next ∧ Tr2 L o s₁ s' ∧ ∃ ρ'' acc'', OwnSt h₀ L N i o ρ'' acc'' s' ∧ J (k + 1) ρ'' acc'') Fls s₁) :
    wpAny (model prog w) A (exec (.For (.Name x px) iter body [] pos) (eOf name sc L a cd cs)) (fun f s' => f = .next ∧ Tr2 L o s s' ∧ ∃ ρ' acc', OwnSt h₀ L N i o ρ' acc' s' ∧ J ds.length ρ' acc') Fls s := by
  refine wpAny_For (wpAny_mono hit (fun v s₂ h₂ => ?_) fun _ _ x => x) (notSet_fold hset)
  obtain ⟨k12, ad, vs, rfl, hfr, hl, hv⟩ := h₂
  refine wpAny_pyIter_list hl ?_
  have X₂ : OwnSt h₀ L N i o ρ acc s₂ := X.step (X.st.keeps k12) (kTr k12) X.at' X.fl
  have k3 : Keeps s₂ { s₂ with heap := s₂.heap.push { cls := .type "list_iterator", data := .fields #[.ref ad, .int 0 0] } } := push_keeps _
  have X₃ := X₂.step (X₂.st.keeps k3) (kTr k3) X₂.at' X₂.fl
  obtain ⟨hLs, hLh⟩ := lt_of_fr X₂.st
  have hne : ad ≠ s₂.heap.objs.size := by obtain ⟨o, ho, _⟩ := hl; exact Nat.ne_of_lt (Heap.lt_size ho)
  have hLad : L ≠ ad := by
    intro e; subst e
    obtain ⟨oL, hoL, hn⟩ := st_frL X₂.st
    obtain ⟨o, ho, _, q, hd⟩ := hl
    rw [hoL] at ho; cases ho; exact hn _ _ hd
  obtain ⟨its, hpl, _⟩ := X.pl
  have hoad : o ≠ ad := by
    intro e; subst e
    obtain ⟨ob, _, e, _⟩ := hpl
    rw [hfr] at e; cases e
  have hoI : o ≠ s₂.heap.objs.size := by
    obtain ⟨its, ⟨ob, _, e, _⟩, _⟩ := X₂.pl
    exact Nat.ne_of_lt (Heap.lt_size e)
  have hLI : L ≠ s₂.heap.objs.size := Nat.ne_of_lt hLs
  have hfrI : s.heap.get? s₂.heap.objs.size = none := fresh_of k12
  have hsz : vs.toArray.size = ds.length := by rw [List.size_toArray, hv.1]
  have W := Walks.list (prog := prog) (w := w) hA.1 s₂.heap.objs.size ad hne vs.toArray
  rw [hsz] at W
  have hnsq : ∀ k (h : Heap) ob, (h.IsListIter s₂.heap.objs.size ad k ∧ h.IsList ad vs.toArray) → h.get? s₂.heap.objs.size = some ob → ∀ items q, ob.data ≠ .seq items q := by
    intro k h ob hst ho items q
    obtain ⟨⟨o', ho', _, hd'⟩, _⟩ := hst
    rw [ho'] at ho; cases ho; rw [hd']; simp
  have hst0 : (s₂.heap.push { cls := .type "list_iterator", data := .fields #[.ref ad, .int 0 0] }).IsListIter s₂.heap.objs.size ad 0 ∧ (s₂.heap.push { cls := .type "list_iterator", data := .fields #[.ref ad, .int 0 0] }).IsList ad vs.toArray :=
    ⟨⟨_, Heap.get?_push_size _ rfl, rfl, rfl⟩, hl.at fun o e => Heap.get?_push_of_some _ e⟩
  have hI2 : s₂.heap.get? s₂.heap.objs.size = none := none_at (Nat.le_refl _)
  generalize s₂.heap.objs.size = I at *
  generalize hH : s₂.heap.push { cls := .type "list_iterator", data := .fields #[.ref ad, .int 0 0] } = H at *
  have kH : ∀ b ob, s₂.heap.get? b = some ob → H.get? b = some ob := fun b ob e => hH ▸ Heap.get?_push_of_some _ e
  refine codeAny_forLoop (fun c s' => ∃ h' tk ρ' acc' k, s' = { s₂ with heap := h', toks := tk } ∧ (h'.IsListIter I ad k ∧ h'.IsList ad vs.toArray) ∧ OwnSt h₀ L N i o ρ' acc' s' ∧ J k ρ' acc' ∧ k ≤ ds.length ∧ c = ds.length + 1 - k ∧
      (∀ b ob, b ≠ L → b ≠ o → s₂.heap.get? b = some ob → h'.get? b = some ob)) ?_ (ds.length + 1)
    ⟨H, s₂.toks, ρ, acc, 0, rfl, hst0, X₃, h0, Nat.zero_le _, rfl, fun b ob _ _ e => kH b ob e⟩
  rintro c s' ⟨h', tk, ρ', acc', k, rfl, hst', X', hJ, hk, rfl, hkp⟩
  have but : ∀ (h₁ : Heap) (tk₁ : Nat), (∀ b ob, b ∉ [I] → h'.get? b = some ob → h₁.get? b = some ob) → OwnSt h₀ L N i o ρ' acc' { s₂ with heap := h₁, toks := tk₁ } := by
    intro h₁ tk₁ hk₁
    have S₁ : St h₀ L N ρ' { s₂ with heap := h₁, toks := tk₁ } := X'.st.but hLI hLh (fun ob e => hnsq k _ ob hst' e) fun b ob hb e => hk₁ b ob (by simpa using hb) e
    obtain ⟨its, ⟨ob, nn, e, r⟩, hr⟩ := X'.pl
    refine ⟨S₁, X'.at', X'.fl, ⟨its, ⟨ob, nn, hk₁ _ _ (by simpa using hoI) e, r⟩, hr.keep ?_⟩, X'.noL, X'.ne, X'.fr⟩
    intro b ob items q e hd
    by_cases hb : b = I
    · subst hb; exact absurd hd (hnsq k _ ob hst' e items q)
    · exact hk₁ b ob (by simpa using hb) e
  have kp1 : ∀ (h₁ : Heap), (∀ b ob, b ∉ [I] → h'.get? b = some ob → h₁.get? b = some ob) → ∀ b ob, b ≠ L → b ≠ o → s₂.heap.get? b = some ob → h₁.get? b = some ob := by
    intro h₁ hk₁ b ob h1 h2 e
    exact hk₁ b ob (by simpa using (fun h => by subst h; rw [hI2] at e; cases e)) (hkp b ob h1 h2 e)
  by_cases hlt : k < ds.length
  · refine W.item k _ _ _ hlt hst' fun v h₁ tk₁ hP hst₁ hk₁ => ?_
    have X₁ := but h₁ tk₁ hk₁
    have kp₁ := kp1 h₁ hk₁
    have hP : vs[k]? = some v := by simpa using hP
    have hd : ds[k]? = some ds[k] := List.getElem?_eq_getElem hlt
    have hNd := hnd _ (List.mem_of_getElem? hd)
    have hrv : RV h₁ v ds[k] := (hv.2 k v _ hP hd).keepT (fun b ob items q e hc hd' => kp₁ b ob (fun h => by
        subst h
        obtain ⟨oL, hoL, hn⟩ := st_frL X₂.st
        rw [hoL] at e; cases e; exact hn _ _ hd') (fun h => by
        subst h
        obtain ⟨its, ⟨ob', _, e', hc', _⟩, _⟩ := X₂.pl
        rw [e] at e'; cases e'; rw [hc] at hc'; exact absurd hc' (by decide)) e) hNd
    refine PySem.wpAny_assign_Name (wpAny_mono (sto_ok (Q := fun _ s₄ => St h₀ L N (ρ'.set j ds[k]) s₄ ∧ Tr L { s₂ with heap := h₁, toks := tk₁ } s₄) C X₁.st hx hrv (fun s₄ S₄ t₄ => ⟨S₄, t₄⟩)) (fun _ s₄ h₄ => ?_) fun _ _ x => x.elim)
    obtain ⟨S₄, t₄⟩ := h₄
    have X₄ : OwnSt h₀ L N i o (ρ'.set j ds[k]) acc' s₄ := X₁.step S₄ t₄ (by rw [get_set_ne hij]; exact X'.at') fun d hd => by
      rcases List.mem_or_eq_of_mem_set hd with h | h
      · exact X'.fl d h
      · subst h; exact .inr (.inl hNd)
    refine wpAny_mono (turn k ds[k] ρ' acc' s₄ hd hJ X₄) (fun f s₅ h₅ => ?_) fun _ _ x => x.elim
    obtain ⟨rfl, t₅, ρ'', acc'', X₅, hJ'⟩ := h₅
    have t45 := (t₄.two o).trans t₅
    obtain ⟨h₆, tk₆, rfl, kp₆⟩ := t45
    refine ⟨ds.length + 1 - (k + 1), by (first | (clear C hA X hx hij hset hnd hit h0 turn k12 hfr hl hv X₂ hLad hpl hoad hsz hLs hLh hne hoI hLI hfrI W hnsq hI2 hH k3 X₃ hst0 kH hst' X' hJ hk hkp but kp1 hst₁ hk₁ X₁ kp₁ hP hd hNd hrv S₄ t₄ X₄ hJ' kp₆ t₅ X₅; omega) | omega), h₆, tk₆, ρ'', acc'', k + 1, rfl, ?_, X₅, hJ', hlt, rfl, fun b ob h1 h2 e => kp₆ b ob h1 h2 (kp₁ b ob h1 h2 e)⟩
    exact W.frame _ _ _ hst₁ fun b hb ob e => kp₆ b ob (fun h => by subst h; simp at hb; rcases hb with h | h; exact hLI h; exact hLad h) (fun h => by subst h; simp at hb; rcases hb with h | h; exact hoI h; exact hoad h) e
  · have hkm : k = ds.length := by (first | (clear C hA X hx hij hset hnd hit h0 turn k12 hfr hl hv X₂ hLad hpl hoad hsz hLs hLh hne hoI hLI hfrI W hnsq hI2 hH k3 X₃ hst0 kH hst' X' hJ hkp but kp1; omega) | omega)
    subst hkm
    refine W.done _ _ _ hst' fun h₁ tk₁ hk₁ => wpAny_execs_nil ?_
    refine ⟨rfl, ?_, ρ', acc', but h₁ tk₁ hk₁, hJ⟩
    have kp₁ := kp1 h₁ hk₁
    obtain ⟨h'', tk'', rfl, kk⟩ := k12
    exact ⟨h₁, tk₁, rfl, fun b ob h1 h2 e => kp₁ b ob h1 h2 (kk b ob e)⟩
end own


theorem ints_any {h h' : Heap} {vs : List Value} {ns : List Int} (r : RVs h vs (ns.map .int)) : RVs h' vs (ns.map .int) := ints_rv (rvs_ints r)
/-- a pair of whole numbers -/
noncomputable def dP (p : Int × Int) : D := .tup [.int p.1, .int p.2]
theorem dP_noL (p : Int × Int) : NoL (dP p) := .tup fun d hd => by
  simp only [List.mem_cons, List.not_mem_nil, or_false] at hd
  rcases hd with rfl | rfl <;> exact .int _
theorem dP_inv {h : Heap} {v : Value} {p : Int × Int} (r : RV h v (dP p)) : ∃ t a b, v = .ref t ∧ h.IsTuple t #[.int p.1 a, .int p.2 b] := by
  obtain ⟨t, vs, rfl, hl, hv⟩ := RV.inv_tup r
  obtain ⟨v1, vs, rfl, r1, hv⟩ := hv.inv_cons
  obtain ⟨v2, vs, rfl, r2, hv⟩ := hv.inv_cons
  obtain rfl := hv.inv_nil
  obtain ⟨a, rfl⟩ := r1.inv_int
  obtain ⟨b, rfl⟩ := r2.inv_int
  exact ⟨t, a, b, rfl, hl⟩
theorem none_size {h : Heap} {a : Addr} (ha : h.objs.size ≤ a) : h.get? a = none := by
  cases e : h.get? a with
  | none => rfl
  | some o => exact absurd (Heap.lt_size e) (Nat.not_lt.mpr ha)

section comp
variable {prog : Program} {w : World}
theorem pair_core {elt iter : Expr} {x x₂ : Str} {px px₂ tp pos pos2 : Pos} {tk : Nat} {scope : Scope} {cl : List (Str × Addr)} {A : Around} {s : Shared} {env : Env} {use : Option (Value → Sem Unit)} {Q : Value → Shared → Prop} (ps : List (Int × Int)) (f : Int × Int → Int)
    (hA : A.handled = none) (hcl : closureFor scope env = pure cl) (hcell : ∀ y ∈ scope.names, y.2 ≠ .cell) (hkind : scope.kind = .function)
    (hnames : ∀ y ∈ scope.names, y.2 = .local → scope.names.lookup y.1 = some .local) (hx : scope.names.lookup x = some .local) (hx₂ : scope.names.lookup x₂ = some .local) (hxx : x ≠ x₂) (hfold : ∀ v, foldedSetIterable iter env v = pure v) (hsz : ps.length ≤ 2 ^ 20)
    (h : wpAny (model prog w) A (eval iter env) (fun v s₂ => Keeps s s₂ ∧ ∃ ad vs, v = .ref ad ∧ s₂.heap.IsList ad vs.toArray ∧ RVs s₂.heap vs (ps.map dP)) Fls s)
    (helt : ∀ (C : Addr) (s₃ : Shared) (m₃ : Str → Option Value) (p : Int × Int) (t₁ t₂ : Tok), p ∈ ps → s.heap.get? C = none → s₃.heap.Ns C m₃ → m₃ x = some (.int p.1 t₁) → m₃ x₂ = some (.int p.2 t₂) → Kp s.heap s₃.heap →
      wpAny (model prog w) A (eval elt (compEnvC scope cl C env)) (fun y s₄ => Keeps s₃ s₄ ∧ RV s₄.heap y (.int (f p))) Fls s₃)
    (fin : ∀ (s' : Shared) (Da C : Addr) (m : Str → Option Value) (ys : List Value), Keeps s s' → s.heap.get? C = none → s.heap.get? Da = none → Da ≠ C → s'.heap.Ns C m → s'.heap.IsList Da ys.toArray → RVs s'.heap ys ((ps.map f).map .int) → compPost (model prog w) A Fls use Q (.ref Da) C (.ok .next) s') :
    wpAny (model prog w) A (comprehension (.ListComp elt [⟨.Tuple [.Name x px, .Name x₂ px₂] tk tp, iter, [], 0⟩] scope pos) scope env pos2 (newList []) false (eval iter env) use) Q Fls s := by
  refine wpAny_comprehension_free (use := use) rfl hfold hcl hkind hnames (wpAny_mono h (fun xv s₁ h₁ => ?_) fun _ _ e => e)
  obtain ⟨k1, ad, vs, rfl, hl, hv⟩ := h₁
  refine wpAny_pyIter_list hl ?_
  have hlen : vs.length = ps.length := by have := hv.1; simpa using this
  have adlt : ad < s₁.heap.objs.size := by obtain ⟨o, ho, _⟩ := hl; exact Heap.lt_size ho
  have kI : ∀ b o, s₁.heap.get? b = some o → (s₁.heap.push { cls := .type "list_iterator", data := .fields #[.ref ad, .int 0 0] }).get? b = some o := fun b o e => Heap.get?_push_of_some _ e
  have hst : (s₁.heap.push { cls := .type "list_iterator", data := .fields #[.ref ad, .int 0 0] }).IsListIter s₁.heap.objs.size ad 0 ∧ (s₁.heap.push { cls := .type "list_iterator", data := .fields #[.ref ad, .int 0 0] }).IsList ad vs.toArray :=
    ⟨⟨_, Heap.get?_push_size _ rfl, rfl, rfl⟩, hl.at fun o e => kI _ o e⟩
  have hne : ad ≠ s₁.heap.objs.size := Nat.ne_of_lt adlt
  have hks : Keeps s { s₁ with heap := s₁.heap.push { cls := .type "list_iterator", data := .fields #[.ref ad, .int 0 0] } } := kTrans k1 ⟨_, s₁.toks, rfl, kI⟩
  have hIs : s.heap.get? s₁.heap.objs.size = none := fresh_of k1
  have hv₂ : RVs (s₁.heap.push { cls := .type "list_iterator", data := .fields #[.ref ad, .int 0 0] }) vs (ps.map dP) := hv.keep (SeqK.of kI)
  have hI2' : s₁.heap.objs.size < (s₁.heap.push { cls := .type "list_iterator", data := .fields #[.ref ad, .int 0 0] }).objs.size := by rw [Heap.size_push]; exact Nat.lt_succ_self _
  have adlt2 : ad < (s₁.heap.push { cls := .type "list_iterator", data := .fields #[.ref ad, .int 0 0] }).objs.size := by rw [Heap.size_push]; exact Nat.lt_succ_of_lt adlt
  generalize hs₂ : ({ s₁ with heap := s₁.heap.push { cls := .type "list_iterator", data := .fields #[.ref ad, .int 0 0] } } : Shared) = s₂ at *
  have hh₂ : s₁.heap.push { cls := .type "list_iterator", data := .fields #[.ref ad, .int 0 0] } = s₂.heap := by rw [← hs₂]
  rw [hh₂] at hst hv₂ hI2' adlt2
  generalize s₁.heap.objs.size = I at *
  have W := Walks.list (prog := prog) (w := w) hA I ad hne vs.toArray
  have hsw : vs.toArray.size = ps.length := by rw [List.size_toArray, hlen]
  rw [hsw] at W
  refine wpAny_newObj_type (wpAny_newFunctionEnv hcell (by intro y hy; simp at hy) (fun h₁ hns₁ hsb₁ => ?_) hkind)
  dsimp only at hns₁ hsb₁ ⊢
  generalize hH2 : s₂.heap.push { cls := .type "list", dict := none, data := .seq ([] : List Value).toArray } = H2 at hns₁ hsb₁ ⊢
  have hC : H2.objs.size = s₂.heap.objs.size + 1 := by rw [← hH2, Heap.size_push]
  generalize hCg : H2.objs.size = C at *
  generalize hDg : s₂.heap.objs.size = Da at *
  have hDC : Da ≠ C := by rw [hC]; exact Nat.ne_of_lt (Nat.lt_succ_self _)
  have hID : I ≠ Da := Nat.ne_of_lt hI2'
  have hIC : I ≠ C := by rw [hC]; exact Nat.ne_of_lt (Nat.lt_succ_of_lt hI2')
  have hfp : ∀ b ∈ [I, ad], b < Da := by
    intro b hb
    simp only [List.mem_cons, List.not_mem_nil, or_false] at hb
    rcases hb with rfl | rfl
    · exact hI2'
    · exact adlt2
  have below : ∀ b o, s₂.heap.get? b = some o → b ≠ C ∧ b ≠ Da := fun b o e => by
    have := Heap.lt_size e
    rw [hDg] at this
    exact ⟨by rw [hC]; exact Nat.ne_of_lt (Nat.lt_succ_of_lt this), Nat.ne_of_lt this⟩
  have hDf : Da ∉ [I, ad] := fun hm => Nat.lt_irrefl _ (hfp _ hm)
  have hCf : C ∉ [I, ad] := fun hm => by have := hfp _ hm; rw [hC] at this; exact Nat.lt_irrefl _ (Nat.lt_of_succ_lt this)
  have old : ∀ b o, s₂.heap.get? b = some o → h₁.get? b = some o := fun b o e => hsb₁.extBut b o (below b o e).1 (Heap.get?_push_of_some _ (hH2 ▸ Heap.get?_push_of_some _ e))
  have hacc : h₁.IsList Da ([] : List Value).toArray := ⟨_, hsb₁.extBut _ _ hDC (Heap.get?_push_of_some _ (hH2 ▸ hDg ▸ Heap.get?_push_size _ rfl)), rfl, _, rfl⟩
  have hst₁ : h₁.IsListIter I ad 0 ∧ h₁.IsList ad vs.toArray := W.frame 0 _ _ hst fun b _ o e => old b o e
  have freshC : s.heap.get? C = none := by
    cases e : s.heap.get? C with
    | none => rfl
    | some o => exact absurd rfl (below C o (kAll hks _ _ e)).1
  have freshD : s.heap.get? Da = none := by
    cases e : s.heap.get? Da with
    | none => rfl
    | some o => exact absurd rfl (below Da o (kAll hks _ _ e)).2
  have hkC : (compEnvC scope cl C env).kindOf x = some .local := lookup_relabel_local hx
  have hkC₂ : (compEnvC scope cl C env).kindOf x₂ = some .local := lookup_relabel_local hx₂
  have hpC : ((compEnvC scope cl C env).scope.kind == .class || ((compEnvC scope cl C env).scope.kind == .module && (compEnvC scope cl C env).locals != (compEnvC scope cl C env).globals)) = false := by
    show (scope.kind == .class || (scope.kind == .module && C != env.globals)) = false; rw [hkind]; rfl
  have loop : ∀ s₃ : Shared, s₃ = { s₂ with heap := h₁, toks := s₂.toks + ([] : List (Str × Value)).length } →
      codeAny (model prog w) A (.compLoop (.ListComp elt [⟨.Tuple [.Name x px, .Name x₂ px₂] tk tp, iter, [], 0⟩] scope pos) 0 (.ref I) (.ref Da) (compEnvC scope cl C env))
        (compPost (model prog w) A Fls use Q (.ref Da) C) s₃ := by
    rintro s₃ rfl
    refine LCp.codeAny_compLoop_pair (fun n s' => ∃ j h' tk m ys, n = ps.length - j ∧ j ≤ ps.length ∧ s' = { s₂ with heap := h', toks := tk } ∧ (h'.IsListIter I ad j ∧ h'.IsList ad vs.toArray) ∧ h'.Ns C m ∧ h'.IsList Da ys.toArray ∧ RVs h' ys (((ps.take j).map f).map .int) ∧
      (∀ b o, b ≠ I → s₂.heap.get? b = some o → h'.get? b = some o)) ?_ ps.length ⟨0, h₁, _, _, [], rfl, Nat.zero_le _, rfl, hst₁, hns₁, hacc, by simpa using RVs.nil, fun b o _ e => old b o e⟩
    rintro n s' ⟨j, h', tk, m, ys, rfl, hj, rfl, st, hns, hl', hys, hk⟩
    by_cases hlt : j < ps.length
    · refine W.item j _ _ _ hlt st fun v h₂ tk₂ hPv st₂ hk₂ => ?_
      dsimp only at hk₂ ⊢
      have k2 : ∀ b o, b ≠ I → h'.get? b = some o → h₂.get? b = some o := fun b o hb e => hk₂ b o (by simpa using hb) e
      have hPv : vs[j]? = some v := by simpa using hPv
      obtain ⟨t, t₁, t₂, rfl, ht⟩ := dP_inv (hv₂.2 j v (dP ps[j]) hPv (by rw [List.getElem?_map, List.getElem?_eq_getElem hlt]; rfl))
      generalize hp : ps[j] = p at *
      have hpm : p ∈ ps := hp ▸ List.getElem_mem hlt
      have htI : t ≠ I := by
        intro e; subst e
        obtain ⟨o, ho, hc, _⟩ := ht
        obtain ⟨⟨o', ho', hc', _⟩, _⟩ := hst
        rw [ho] at ho'; cases ho'; rw [hc] at hc'; exact absurd hc' (by decide)
      have ht₂ : h₂.IsTuple t #[.int p.1 t₁, .int p.2 t₂] := by
        obtain ⟨o, ho, r⟩ := ht
        exact ⟨o, k2 t o htI (hk t o htI ho), r⟩
      refine wpAny_letOwnedTupleGo_listiter st₂.1 ?_
      refine assign_Tuple_tuple hA ht₂ rfl rfl fun h₅ he => ?_
      have he' : ∀ b o, h₂.get? b = some o → h₅.get? b = some o := fun b o e => he b o (Nat.ne_of_lt (Heap.lt_size e)) e
      have hns₅ : h₅.Ns C m := (hns.at' fun o e => k2 C o (Ne.symm hIC) e).at' fun o e => he' _ o e
      refine assignInOrder_cons (PySem.wpAny_assign_Name (wpAny_storeName_local hkC hns₅ (fun h₆ hn₆ hs₆ => ?_) hpC))
      refine assignInOrder_cons (PySem.wpAny_assign_Name (wpAny_storeName_local hkC₂ hn₆ (fun h₃ hns₃ hs₃ => ?_) hpC))
      refine assignInOrder_nil ?_
      dsimp only at hs₆ hs₃ hns₃ ⊢
      have k3 : ∀ b o, b ≠ I → b ≠ C → h'.get? b = some o → h₃.get? b = some o := fun b o h1 h2 e => hs₃.extBut b o h2 (hs₆.extBut b o h2 (he' b o (k2 b o h1 e)))
      have st₃ : h₃.IsListIter I ad (j + 1) ∧ h₃.IsList ad vs.toArray := W.frame (j + 1) _ _ st₂ fun b hb o e => hs₃.extBut b o (fun (h : b = C) => hCf (h ▸ hb)) (hs₆.extBut b o (fun (h : b = C) => hCf (h ▸ hb)) (he' b o e))
      have kp3 : Kp s.heap h₃ := fun b o e => k3 b o (fun h => by subst h; rw [hIs] at e; cases e) (fun h => by subst h; rw [freshC] at e; cases e) (hk b o (fun h => by subst h; rw [hIs] at e; cases e) (kAll hks b o e))
      refine wpAny_mono (helt C _ _ p t₁ t₂ hpm freshC hns₃ (by simp [hxx]) (by simp) kp3) (fun y s₄ h₄ => ?_) fun _ _ x => x.elim
      obtain ⟨⟨h₄, tk₄, rfl, hk₄⟩, hry⟩ := h₄
      dsimp only at hk₄ hry ⊢
      have hysl : ys.length = j := by have := hys.1; simp at this; (first | (clear hA hcl hcell hkind hnames hx hx₂ hxx hfold hsz h helt fin k1 hl hv kI hv₂ hs₂ hks hh₂ adlt hne hIs hst W hH2 hCg hns₁ hsb₁ hDg adlt2 hI2' hC hDC hID hIC hfp below hDf hCf old hacc hst₁ freshC freshD hkC hkC₂ hpC hj st hns hl' hys hk st₂ hk₂ k2 hPv hp ht hpm htI ht₂ he he' hns₅ hn₆ hs₆ hns₃ hs₃ k3 st₃ kp3 hk₄ hry; omega) | omega)
      have hysz : ys.toArray.size ≤ sizeLine := by
        rw [List.size_toArray, hysl]
        exact size_le (by first | with_reducible assumption | with_reducible exact Int.le_of_lt (by assumption) | with_reducible exact Nat.le_of_lt (by assumption) | with_reducible exact qz1 (by assumption) | with_reducible exact qz2 (by assumption) | with_reducible exact qz3 (by assumption) | with_reducible exact qz4 (by assumption) | with_reducible exact qz5 (by assumption) | with_reducible exact qz6 (by assumption) | with_reducible exact qz7 (by assumption) | with_reducible exact qz8 (by assumption) | with_reducible exact qz9 (by assumption) | with_reducible exact qza (by assumption) | with_reducible exact qzb (by assumption) | with_reducible exact qzc | with_reducible exact qzd | with_reducible exact qze | (first | (clear hA hcl hcell hkind hnames hx hx₂ hxx hfold h helt fin k1 hl hv kI hv₂ hs₂ hks hh₂ adlt hne hIs hst W hH2 hCg hns₁ hsb₁ hDg adlt2 hI2' hC hDC hID hIC hfp below hDf hCf old hacc hst₁ freshC freshD hkC hkC₂ hpC hj st hns hl' hys hk st₂ hk₂ k2 hPv hp ht hpm htI ht₂ he he' hns₅ hn₆ hs₆ hns₃ hs₃ k3 st₃ kp3 hk₄ hry; omega) | omega))
      refine wpAny_list_append (hsz := hysz) (hl'.at fun o e => hk₄ _ o (k3 Da o (Ne.symm hID) hDC e)) fun h₇ hl₇ hs₇ => ?_
      refine ⟨ps.length - (j + 1), by (first | (clear hA hcl hcell hkind hnames hx hx₂ hxx hfold hsz h helt fin k1 hl hv kI hv₂ hs₂ hks hh₂ adlt hne hIs hst W hH2 hCg hns₁ hsb₁ hDg adlt2 hI2' hC hDC hID hIC hfp below hDf hCf old hacc hst₁ freshC freshD hkC hkC₂ hpC hj st hns hl' hys hk st₂ hk₂ k2 hPv hp ht hpm htI ht₂ he he' hns₅ hn₆ hs₆ hns₃ hs₃ k3 st₃ kp3 hk₄ hry hysz hl₇ hs₇; omega) | omega), j + 1, h₇, tk₄, _, ys ++ [y], rfl, hlt, rfl, ?_, (hns₃.keeps hk₄).sameBut hs₇ (Ne.symm hDC), by simpa using hl₇, ?_, fun b o hb e => hs₇.extBut b o (below b o e).2 (hk₄ b o (k3 b o hb (below b o e).1 (hk b o hb e)))⟩
      · exact W.frame (j + 1) _ _ (W.frame (j + 1) _ _ st₃ fun b _ o e => hk₄ b o e) fun b hb o e => hs₇.extBut b o (fun h => hDf (h ▸ hb)) e
      · have e1 : ps.take (j + 1) = ps.take j ++ [p] := by rw [← hp]; exact List.take_succ_eq_append_getElem hlt
        rw [e1, List.map_append, List.map_append]
        obtain ⟨u, rfl⟩ := hry.inv_int
        exact (ints_any hys).snoc (.int _ u)
    · have hjm : j = ps.length := by (first | (clear hA hcl hcell hkind hnames hx hx₂ hxx hfold hsz h helt fin k1 hl hv kI hv₂ hs₂ hks hh₂ adlt hne hIs hst W hH2 hCg hns₁ hsb₁ hDg adlt2 hI2' hC hDC hID hIC hfp below hDf hCf old hacc hst₁ freshC freshD hkC hkC₂ hpC st hns hl' hys hk; omega) | omega)
      subst hjm
      refine W.done _ _ _ st fun h₂ tk₂ hk₂ => ?_
      dsimp only at hk₂ ⊢
      have k2 : ∀ b o, b ≠ I → h'.get? b = some o → h₂.get? b = some o := fun b o hb e => hk₂ b o (by simpa using hb) e
      rw [List.take_length] at hys
      refine fin _ Da C m ys ?_ freshC freshD hDC (hns.at' fun o e => k2 C o (Ne.symm hIC) e) (hl'.at fun o e => k2 Da o (Ne.symm hID) e) (ints_any hys)
      obtain ⟨hh, tkk, rfl, hks'⟩ := hks
      exact ⟨h₂, tk₂, rfl, fun b o e => k2 b o (fun h => by subst h; rw [hIs] at e; cases e) (hk b o (fun h => by subst h; rw [hIs] at e; cases e) (hks' b o e))⟩
  exact codeAny_compStart_list (loop _ rfl) (W.self 0 _ _ _ hst₁ (loop _ rfl))
end comp


section own
variable {prog : Program} {w : World} {hB h₀ : Heap} {mg mb : Str → Option Value} {us : Us} {N : List Str} {sc : Scope} {Γ : Str → List D → D → Prop} {n : Nat} {name : Str} {L : Addr} {a : Option Addr × Option Addr} {cd : Value} {cs : List (Str × Addr)}
/-- a list that is written out is a new one -/
theorem fresh_list (C : Cx prog w hB h₀ mg mb us N sc Γ n name L a cd cs) {A : Around} {s : Shared} {ρ ds : List D} {l : E} {ex : Expr} (hA : AOk n A) (S : St h₀ L N ρ s) (hc : chkE us N sc (.lst l) ex = true) (hw : wpL Γ l ρ (fun es => es = ds)) (hz : ds.length ≤ 2 ^ 20) :
    wpAny (model prog w) A (eval ex (eOf name sc L a cd cs)) (fun v s' => Keeps s s' ∧ ∃ ad vs, v = .ref ad ∧ s.heap.get? ad = none ∧ PlainL s'.heap ad vs.toArray ∧ RVs s'.heap vs ds) Fls s := by
  obtain ⟨es, p, rfl, h1⟩ := inv_lst hc
  rw [rw4] at hw
  refine List_ (wpAny_mono ((sound C l).lst es p h1 A s ρ _ hA S hw) (fun vs s' h' => ?_) fun _ _ x => x)
  obtain ⟨k, ds', rs, rfl⟩ := h'
  refine wpAny_newObj_type ⟨kTrans k (push_keeps _), s'.heap.objs.size, vs, rfl, fresh_of k, ⟨_, 0, Heap.get?_push_size _ rfl, rfl, rfl, rfl⟩, rs.keep (SeqK.of fun _ _ e => Heap.get?_push_of_some _ e)⟩ ?_
  show vs.toArray.size ≤ sizeLine
  rw [List.size_toArray, rs.1]; exact size_le hz
theorem keeps_but {s s' : Shared} {h' : Heap} {C : Addr} (k : Keeps s s') (fC : s.heap.get? C = none) (hs : Heap.SameBut C s'.heap h') : Keeps s { s' with heap := h' } := by
  obtain ⟨h1, tk, rfl, hk⟩ := k
  exact ⟨h', tk, rfl, fun b o e => (hs.2 b fun h => by subst h; rw [fC] at e; cases e).trans (hk b o e)⟩
/-- a comprehension over pairs -/
theorem comp_pair {elt iter : Expr} {x x₂ : Str} {px px₂ tp pos : Pos} {tk : Nat} {scope : Scope} {cl : List (Str × Addr)} {A : Around} {s : Shared} {env : Env} (ps : List (Int × Int)) (f : Int × Int → Int)
    (hA : A.handled = none) (hcl : closureFor scope env = pure cl) (hcell : ∀ y ∈ scope.names, y.2 ≠ .cell) (hkind : scope.kind = .function)
    (hnames : ∀ y ∈ scope.names, y.2 = .local → scope.names.lookup y.1 = some .local) (hx : scope.names.lookup x = some .local) (hx₂ : scope.names.lookup x₂ = some .local) (hxx : x ≠ x₂) (hfold : ∀ v, foldedSetIterable iter env v = pure v) (hsz : ps.length ≤ 2 ^ 20)
    (h : wpAny (model prog w) A (eval iter env) (fun v s₂ => Keeps s s₂ ∧ ∃ ad vs, v = .ref ad ∧ s₂.heap.IsList ad vs.toArray ∧ RVs s₂.heap vs (ps.map dP)) Fls s)
    (helt : ∀ (C : Addr) (s₃ : Shared) (m₃ : Str → Option Value) (p : Int × Int) (t₁ t₂ : Tok), p ∈ ps → s.heap.get? C = none → s₃.heap.Ns C m₃ → m₃ x = some (.int p.1 t₁) → m₃ x₂ = some (.int p.2 t₂) → Kp s.heap s₃.heap →
      wpAny (model prog w) A (eval elt (compEnvC scope cl C env)) (fun y s₄ => Keeps s₃ s₄ ∧ RV s₄.heap y (.int (f p))) Fls s₃) :
    wpAny (model prog w) A (eval (.ListComp elt [⟨.Tuple [.Name x px, .Name x₂ px₂] tk tp, iter, [], 0⟩] scope pos) env) (fun v s' => Keeps s s' ∧ RV s'.heap v (.list ((ps.map f).map .int))) Fls s := by
  rw [eval_ListComp]
  refine pair_core (use := none) ps f hA hcl hcell hkind hnames hx hx₂ hxx hfold hsz h helt fun s' Da C m ys k fC fD hDC hn hl hy => ?_
  exact ⟨m, hn, fun h' hs' => ⟨keeps_but k fC hs', .list (hl.extBut hs'.extBut hDC) hy.1 (ints_any hy).2⟩⟩
/-- the same, put into a name at once -/
theorem asg_pair (C : Cx prog w hB h₀ mg mb us N sc Γ n name L a cd cs) {elt iter : Expr} {x x₂ y : Str} {px px₂ tp pos py spos : Pos} {tk i : Nat} {scope : Scope} {cl : List (Str × Addr)} {A : Around} {s : Shared} {ρ : List D} (ps : List (Int × Int)) (f : Int × Int → Int)
    (hA : AOk n A) (S : St h₀ L N ρ s) (hi : N[i]? = some y) (hline : (py.line == pos.line) = true) (hyn : (scope.names.any fun z => z.1 == y && (z.2 == .local || z.2 == .cell)) = false)
    (hcl : closureFor scope (eOf name sc L a cd cs) = pure cl) (hcell : ∀ y ∈ scope.names, y.2 ≠ .cell) (hkind : scope.kind = .function)
    (hnames : ∀ y ∈ scope.names, y.2 = .local → scope.names.lookup y.1 = some .local) (hx : scope.names.lookup x = some .local) (hx₂ : scope.names.lookup x₂ = some .local) (hxx : x ≠ x₂) (hfold : ∀ v, foldedSetIterable iter (eOf name sc L a cd cs) v = pure v) (hsz : ps.length ≤ 2 ^ 20)
    (h : wpAny (model prog w) A (eval iter (eOf name sc L a cd cs)) (fun v s₂ => Keeps s s₂ ∧ ∃ ad vs, v = .ref ad ∧ s₂.heap.IsList ad vs.toArray ∧ RVs s₂.heap vs (ps.map dP)) Fls s)
    (helt : ∀ (C : Addr) (s₃ : Shared) (m₃ : Str → Option Value) (p : Int × Int) (t₁ t₂ : Tok), p ∈ ps → s.heap.get? C = none → s₃.heap.Ns C m₃ → m₃ x = some (.int p.1 t₁) → m₃ x₂ = some (.int p.2 t₂) → Kp s.heap s₃.heap →
      wpAny (model prog w) A (eval elt (compEnvC scope cl C (eOf name sc L a cd cs))) (fun y s₄ => Keeps s₃ s₄ ∧ RV s₄.heap y (.int (f p))) Fls s₃) :
    wpAny (model prog w) A (exec (.Assign [.Name y py] (.ListComp elt [⟨.Tuple [.Name x px, .Name x₂ px₂] tk tp, iter, [], 0⟩] scope pos) spos) (eOf name sc L a cd cs))
      (fun fl s' => fl = .next ∧ Tr L s s' ∧ St h₀ L N (ρ.set i (.list ((ps.map f).map .int))) s') Fls s := by
  have hloc := C.loc y (List.mem_of_getElem? hi)
  have hsw : swapsWith (.ListComp elt [⟨.Tuple [.Name x px, .Name x₂ px₂] tk tp, iter, [], 0⟩] scope pos) (some (.Name y py)) spos.line (eOf name sc L a cd cs) = pure true := by
    show (pure (((eOf name sc L a cd cs).blockKind == .function && sc.names.lookup y == some .local && py.line == pos.line && !(scope.names.any fun z => z.1 == y && (z.2 == .local || z.2 == .cell)))) : Sem Bool) = pure true
    rw [hloc.1, hline, hyn]
    have : (eOf name sc L a cd cs).blockKind = .function := by
      first
        | exact C.hk
        | (unfold Env.blockKind; simp [eOf, C.hk])
    rw [this]; rfl
  rw [exec_Assign_Name_used _ _ _ _ hsw]
  refine wpAny_bind (wpAny_standAt (wpAny_bind ?_))
  show wpAny _ A (do let _ ← comprehension (.ListComp elt [⟨.Tuple [.Name x px, .Name x₂ px₂] tk tp, iter, [], 0⟩] scope pos) scope (eOf name sc L a cd cs) _ (newList []) false (eval iter (eOf name sc L a cd cs)) (some (assign (.Name y py) (eOf name sc L a cd cs)))) _ _ s
  refine wpAny_bind (wpAny_mono (pair_core (use := some (assign (.Name y py) (eOf name sc L a cd cs))) (Q := fun _ s' => Tr L s s' ∧ St h₀ L N (ρ.set i (.list ((ps.map f).map .int))) s') ps f hA.1 hcl hcell hkind hnames hx hx₂ hxx hfold hsz h helt
    fun s' Da Cc m ys k fC fD hDC hn hl hy => ?_) (fun _ s' hq => wpAny_pure (wpAny_pure ⟨rfl, hq⟩)) fun _ _ e => e)
  have S' := S.keeps k
  have hCL : Cc ≠ L := by
    intro e; subst e
    obtain ⟨m0, F0, _⟩ := S
    obtain ⟨o, _, _, ho, _⟩ := F0.ns
    rw [fC] at ho; cases ho
  have hC0 : h₀.get? Cc = none := by
    cases e : h₀.get? Cc with
    | none => rfl
    | some o =>
      obtain ⟨m0, F0, _⟩ := S
      have := F0.keep Cc o hCL e
      rw [fC] at this; cases this
  have rv : RV s'.heap (.ref Da) (.list ((ps.map f).map .int)) := .list hl hy.1 hy.2
  refine PySem.wpAny_assign_Name (wpAny_mono (sto_ok (Q := fun _ s₄ => St h₀ L N (ρ.set i (.list ((ps.map f).map .int))) s₄ ∧ Tr L s' s₄) C S' hi rv (fun s₄ S₄ t₄ => ⟨S₄, t₄⟩)) (fun _ s₄ h₄ => ?_) fun _ _ x => x.elim)
  obtain ⟨S₄, t₄⟩ := h₄
  have hn₄ : s₄.heap.Ns Cc m := hn.at' fun o e => t₄.all Cc o hCL e
  refine ⟨m, hn₄, fun h' hs' => ⟨?_, ?_⟩⟩
  · obtain ⟨h1, tk1, rfl, hk1⟩ := k
    obtain ⟨h2, tk2, rfl, hk2⟩ := t₄
    exact ⟨h', tk2, rfl, fun b o hb e => (hs'.2 b fun h => by subst h; rw [fC] at e; cases e).trans (hk2 b o hb (hk1 b o e))⟩
  · exact S₄.but (tk := s₄.toks) (Ne.symm hCL) hC0 (fun o e => ns_notSeq hn₄ e) fun b o hb e => (hs'.2 b hb).trans e
end own


section own
variable {prog : Program} {w : World} {hB h₀ : Heap} {mg mb : Str → Option Value} {us : Us} {N : List Str} {sc : Scope} {Γ : Str → List D → D → Prop} {n : Nat} {name : Str} {L : Addr} {a : Option Addr × Option Addr} {cd : Value} {cs : List (Str × Addr)}
theorem nd_ne {N : List Str} {i j : Nat} {x y : Str} (hnd : N.Nodup) (hi : N[i]? = some x) (hj : N[j]? = some y) (hij : i ≠ j) : y ≠ x := by
  intro e; subst e
  obtain ⟨hi', ei⟩ := List.getElem?_eq_some_iff.mp hi
  obtain ⟨hj', ej⟩ := List.getElem?_eq_some_iff.mp hj
  exact hij ((List.getElem_inj hnd).mp (ei.trans ej.symm))
/-- a for over two lists at once, whose turns do nothing but ask -/
theorem zip_ok (C : Cx prog w hB h₀ mg mb us N sc Γ n name L a cd cs) {A : Around} {s : Shared} {ρ ds1 ds2 : List D} {i j : Nat} {x1 x2 : Str} {p1 p2 tp q zp ip pos : Pos} {tk : Nat} {ea eb test : Expr} {suite : List Stmt} {e1 e2 et : E}
    (hA : AOk n A) (S : St h₀ L N ρ s) (hi : N[i]? = some x1) (hj : N[j]? = some x2) (hij : i ≠ j) (hui : ρ[i]? = some .undef) (huj : ρ[j]? = some .undef)
    (hz : mg ("zip" : Str) = none ∧ mb ("zip" : Str) = some (.type "zip")) (hg : glb sc "zip" = true) (hc : chkEs us N sc (.cons e1 (.cons e2 .nil)) [ea, eb] = true) (hl : wpL Γ (.cons e1 (.cons e2 .nil)) ρ (fun ds => ds = [.list ds1, .list ds2]))
    (hct : chkE us N sc et test = true) (htest : ∀ (k : Nat) d1 d2, ds1[k]? = some d1 → ds2[k]? = some d2 → wp Γ et ((ρ.set i d1).set j d2) (fun d => ∃ b, truth d = some b ∧ b = false)) :
    wpAny (model prog w) A (exec (.For (.Tuple [.Name x1 p1, .Name x2 p2] tk tp) (.Call (.Name "zip" q) [ea, eb] [] zp) [.If test suite [] ip] [] pos) (eOf name sc L a cd cs))
      (fun f s' => f = .next ∧ Tr L s s' ∧ St h₀ L N ρ s') Fls s := by
  have hg' := hg
  simp only [glb, Bool.and_eq_true, beq_iff_eq, bne_iff_ne, ne_eq] at hg'
  obtain ⟨e', es', e0, hs, _, _⟩ := inv_cons hc
  cases e0
  rw [rw4] at hl
  refine wpAny_For (Call_ (Calls.Name_function_global C.hk hg'.1 (Calls.loadGlobal_builtin (env := eOf name sc L a cd cs) (C.W.g.keeps (fr_of C S)) hz.1 (C.W.b.keeps (fr_of C S)) hz.2
    (callB hs (chkEs_stars hc) (.inr ⟨_, rfl⟩) (wpAny_mono ((sound C (.cons e1 (.cons e2 .nil))).lst _ _ hc A s ρ _ hA S hl) (fun vs s₁ h₁ => ?_) fun _ _ x => x))) (beq_eq_false_iff_ne.mpr hg'.2))) (fun _ => rfl)
  obtain ⟨k1, ds, rs, rfl⟩ := h₁
  obtain ⟨v1, vs, rfl, r1, rs⟩ := rs.inv_cons
  obtain ⟨v2, vs, rfl, r2, rs⟩ := rs.inv_cons
  obtain rfl := rs.inv_nil
  obtain ⟨l1, vs1, rfl, il1, hv1⟩ := r1.inv_list
  obtain ⟨l2, vs2, rfl, il2, hv2⟩ := r2.inv_list
  have S₁ := S.keeps k1
  refine call_zip_2 il1 il2 fun h₃ hzz hTI hTO hit1 hit2 hsz3 hk3 => ?_
  have lt1 : l1 < s₁.heap.objs.size := by obtain ⟨o, ho, _⟩ := il1; exact Heap.lt_size ho
  have lt2 : l2 < s₁.heap.objs.size := by obtain ⟨o, ho, _⟩ := il2; exact Heap.lt_size ho
  have Ap := zipApart_new lt1 lt2
  have hLs : L < s₁.heap.objs.size := (lt_of_fr S₁).1
  obtain ⟨m0, F0, R0⟩ := id S₁
  have hLne : ∀ k, L ≠ s₁.heap.objs.size + k := fun k => Nat.ne_of_lt (Nat.lt_of_lt_of_le hLs (Nat.le_add_right _ _))
  have hLl1 : L ≠ l1 := by
    intro e; subst e
    obtain ⟨oL, hoL, hn⟩ := st_frL S₁
    obtain ⟨o, ho, _, q, hd⟩ := il1
    rw [hoL] at ho; cases ho; exact hn _ _ hd
  have hLl2 : L ≠ l2 := by
    intro e; subst e
    obtain ⟨oL, hoL, hn⟩ := st_frL S₁
    obtain ⟨o, ho, _, q, hd⟩ := il2
    rw [hoL] at ho; cases ho; exact hn _ _ hd
  have newk : ∀ k, s₁.heap.get? (s₁.heap.objs.size + k) = none := fun k => none_size (Nat.le_add_right _ _)
  have W := WalksT.zip2 (prog := prog) (w := w) hA.1 (s₁.heap.objs.size + 4) (s₁.heap.objs.size + 2) (s₁.heap.objs.size + 3) (s₁.heap.objs.size) (s₁.heap.objs.size + 1) l1 l2 Ap vs1.toArray vs2.toArray
  have hst0 : IsZip h₃ (s₁.heap.objs.size + 4) (s₁.heap.objs.size + 2) (s₁.heap.objs.size + 3) .none ∧ IsPair h₃ (s₁.heap.objs.size + 2) (.ref s₁.heap.objs.size) (.ref (s₁.heap.objs.size + 1)) ∧ (∃ a b, IsPair h₃ (s₁.heap.objs.size + 3) a b) ∧ h₃.IsListIter s₁.heap.objs.size l1 0 ∧ h₃.IsListIter (s₁.heap.objs.size + 1) l2 0 ∧ h₃.IsList l1 vs1.toArray ∧ h₃.IsList l2 vs2.toArray :=
    ⟨hzz, hTI, ⟨_, _, hTO⟩, hit1, hit2, il1.at fun o e => hk3 _ o e, il2.at fun o e => hk3 _ o e⟩
  refine W.self 0 _ _ _ hst0 ?_
  have hLfp : L ∉ [s₁.heap.objs.size + 4, s₁.heap.objs.size + 2, s₁.heap.objs.size + 3, s₁.heap.objs.size, s₁.heap.objs.size + 1, l1, l2] := by
    simp only [List.mem_cons, List.not_mem_nil, or_false, not_or]
    exact ⟨hLne 4, hLne 2, hLne 3, hLne 0, hLne 1, hLl1, hLl2⟩
  have wrn : ∀ b o, s₁.heap.get? b = some o → b ∉ [s₁.heap.objs.size + 4, s₁.heap.objs.size + 3, s₁.heap.objs.size, s₁.heap.objs.size + 1] := by
    intro b o e hb
    simp only [List.mem_cons, List.not_mem_nil, or_false] at hb
    rcases hb with rfl | rfl | rfl | rfl
    · rw [newk 4] at e; cases e
    · rw [newk 3] at e; cases e
    · rw [show s₁.heap.objs.size = s₁.heap.objs.size + 0 from rfl, newk 0] at e; cases e
    · rw [newk 1] at e; cases e
  have hLwr : L ∉ [s₁.heap.objs.size + 4, s₁.heap.objs.size + 3, s₁.heap.objs.size, s₁.heap.objs.size + 1] := fun h => hLfp (W.sub _ h)
  clear hzz hTI hTO hit1 hit2 newk hLne
  generalize s₁.heap.objs.size + 4 = z at *
  generalize s₁.heap.objs.size + 2 = TI at *
  generalize s₁.heap.objs.size + 3 = TO at *
  generalize s₁.heap.objs.size + 1 = i2 at *
  generalize s₁.heap.objs.size = i1 at *
  have hloc1 := (C.loc x1 (List.mem_of_getElem? hi)).1
  have hloc2 := (C.loc x2 (List.mem_of_getElem? hj)).1
  have hp : ((eOf name sc L a cd cs).scope.kind == .class || ((eOf name sc L a cd cs).scope.kind == .module && (eOf name sc L a cd cs).locals != (eOf name sc L a cd cs).globals)) = false := by
    show (sc.kind == .class || (sc.kind == .module && L != mainGlobals)) = false
    rw [C.hk]; rfl
  refine codeAny_forLoop_any (fun c s' => ∃ h' tk m' k, s' = { s₁ with heap := h', toks := tk } ∧ (IsZip h' z TI TO .none ∧ IsPair h' TI (.ref i1) (.ref i2) ∧ (∃ a b, IsPair h' TO a b) ∧ h'.IsListIter i1 l1 k ∧ h'.IsListIter i2 l2 k ∧ h'.IsList l1 vs1.toArray ∧ h'.IsList l2 vs2.toArray) ∧
      Fm h₀ L h' m' ∧ Rep N ρ s₁.heap m' ∧ k ≤ min vs1.toArray.size vs2.toArray.size ∧ c = min vs1.toArray.size vs2.toArray.size + 1 - k ∧ (∀ b o, b ≠ L → s₁.heap.get? b = some o → h'.get? b = some o)) ?_ (min vs1.toArray.size vs2.toArray.size + 1)
    ⟨h₃, s₁.toks, m0, 0, rfl, hst0, F0.grownK hk3, R0, Nat.zero_le _, rfl, fun b o _ e => hk3 b o e⟩
  rintro c s' ⟨h', tk', m', k, rfl, hst', F', R', hk, rfl, hkp⟩
  -- what the writes of the zip object leave
  have but : ∀ (h₁ : Heap), (∀ b o, b ∉ [z, TO, i1, i2] → h'.get? b = some o → h₁.get? b = some o) → Fm h₀ L h₁ m' ∧ (∀ b o, b ≠ L → s₁.heap.get? b = some o → h₁.get? b = some o) := by
    intro h₁ hk₁
    refine ⟨⟨F'.ns.at' fun o e => hk₁ L o hLwr e, fun b o hb e => ?_⟩, fun b o hb e => hk₁ b o (wrn b o e) (hkp b o hb e)⟩
    have e1 : s₁.heap.get? b = some o := F0.keep b o hb e
    exact hk₁ b o (wrn b o e1) (hkp b o hb e1)
  have sqk : ∀ (h₁ : Heap), (∀ b o, b ≠ L → s₁.heap.get? b = some o → h₁.get? b = some o) → SeqK s₁.heap h₁ := fun h₁ hk₁ => seqK_of_but F0.ns hk₁
  have rep : ∀ (h₁ : Heap) (m₁ : Str → Option Value) (ρ₁ : List D), SeqK s₁.heap h₁ → Rep N ρ₁ s₁.heap m₁ → Rep N ρ₁ h₁ m₁ := fun h₁ m₁ ρ₁ sk r l y d a1 a2 a3 => by
    obtain ⟨v, hv, rv⟩ := r l y d a1 a2 a3
    exact ⟨v, hv, rv.keep sk⟩
  by_cases hlt : k < min vs1.toArray.size vs2.toArray.size
  · refine W.item k _ _ _ hlt hst' fun T vals h₁ tk₁ hPt _ hT hMid hk₁ => ?_
    obtain ⟨v1, v2, e1, e2, rfl⟩ := hPt
    have e1 : vs1[k]? = some v1 := by simpa using e1
    have e2 : vs2[k]? = some v2 := by simpa using e2
    refine W.go _ tk tp k T _ _ _ hMid fun h₂ hst₂ hk₂ => ?_
    have ht₂ : h₂.IsTuple T #[v1, v2] := hT.at fun o e => hk₂ T o (W.apart k T h₁ hMid) e
    refine assign_Tuple_tuple hA.1 ht₂ rfl rfl fun h₅ he => ?_
    have he' : ∀ b o, h₂.get? b = some o → h₅.get? b = some o := fun b o e => he b o (Nat.ne_of_lt (Heap.lt_size e)) e
    obtain ⟨F₅, kp₅⟩ := but h₅ fun b o hb e => he' b o (hk₂ b o hb (hk₁ b o hb e))
    refine assignInOrder_cons (PySem.wpAny_assign_Name (wpAny_storeName_local hloc1 F₅.ns (fun h₆ hn₆ hs₆ => ?_) hp))
    refine assignInOrder_cons (PySem.wpAny_assign_Name (wpAny_storeName_local hloc2 hn₆ (fun h₇ hn₇ hs₇ => ?_) hp))
    refine assignInOrder_nil ?_
    dsimp only at hs₆ hs₇ hn₇ ⊢
    have F₇ := (F₅.set hn₆ hs₆).set hn₇ hs₇
    have kp₇ : ∀ b o, b ≠ L → s₁.heap.get? b = some o → h₇.get? b = some o := fun b o hb e => (hs₇.2 b hb).trans ((hs₆.2 b hb).trans (kp₅ b o hb e))
    have hst₇ := W.frame (k + 1) _ h₇ hst₂ fun b hb o e => (hs₇.2 b fun (h : b = L) => hLfp (h ▸ hb)).trans ((hs₆.2 b fun (h : b = L) => hLfp (h ▸ hb)).trans (he' b o e))
    have hne12 : x2 ≠ x1 := nd_ne C.nd hi hj hij
    obtain ⟨d1, g1, q1⟩ : ∃ d1, ds1[k]? = some d1 ∧ RV s₁.heap v1 d1 := by
      have hkl : k < ds1.length := by rw [← hv1.1]; exact (List.getElem?_eq_some_iff.mp e1).1
      exact ⟨_, List.getElem?_eq_getElem hkl, hv1.2 k v1 _ e1 (List.getElem?_eq_getElem hkl)⟩
    obtain ⟨d2, g2, q2⟩ : ∃ d2, ds2[k]? = some d2 ∧ RV s₁.heap v2 d2 := by
      have hkl : k < ds2.length := by rw [← hv2.1]; exact (List.getElem?_eq_some_iff.mp e2).1
      exact ⟨_, List.getElem?_eq_getElem hkl, hv2.2 k v2 _ e2 (List.getElem?_eq_getElem hkl)⟩
    have R₇ : Rep N ρ s₁.heap (fun y => if y = x2 then some v2 else if y = x1 then some v1 else m' y) := fun l y d a1 a2 a3 => by
      have hli : l ≠ i := fun h => by subst h; rw [hui] at a2; cases a2; exact a3 rfl
      have hlj : l ≠ j := fun h => by subst h; rw [huj] at a2; cases a2; exact a3 rfl
      obtain ⟨v, hv, rv⟩ := R' l y d a1 a2 a3
      exact ⟨v, by dsimp only; rw [if_neg (nd_ne C.nd hj a1 (Ne.symm hlj)), if_neg (nd_ne C.nd hi a1 (Ne.symm hli))]; exact hv, rv⟩
    have R₈ : Rep N ((ρ.set i d1).set j d2) s₁.heap (fun y => if y = x2 then some v2 else if y = x1 then some v1 else m' y) := fun l y d a1 a2 a3 => by
      by_cases hlj : j = l
      · subst hlj
        rw [hj] at a1; cases a1
        have : d = d2 := by rw [List.getElem?_set] at a2; simp at a2; exact a2.2.symm
        subst this
        exact ⟨v2, by simp, q2⟩
      · rw [get_set_ne hlj] at a2
        by_cases hli : i = l
        · subst hli
          rw [hi] at a1; cases a1
          have : d = d1 := by rw [List.getElem?_set] at a2; simp at a2; exact a2.2.symm
          subst this
          exact ⟨v1, by simp [hne12.symm], q1⟩
        · rw [get_set_ne hli] at a2
          exact R₇ l y d a1 a2 a3
    have S₈ : ∀ tk, St h₀ L N ((ρ.set i d1).set j d2) { s₁ with heap := h₇, toks := tk } := fun tk => ⟨_, F₇, rep _ _ _ (sqk _ kp₇) R₈⟩
    have hw := htest k d1 d2 g1 g2
    rw [rw1] at hw
    refine wpAny_execs_cons (wpAny_If (wpAny_mono ((sound C et).tst test hct A _ _ (fun b => b = false) hA (S₈ _) hw) (fun t s₉ h₉ => ?_) fun _ _ x => x.elim))
    obtain ⟨⟨h₉, tk₉, rfl, hk₉⟩, rfl⟩ := h₉
    dsimp only at hk₉ ⊢
    simp only [Bool.false_eq_true, if_false]
    refine wpAny_execs_nil (wpAny_execs_nil ?_)
    refine ⟨min vs1.toArray.size vs2.toArray.size + 1 - (k + 1), by (first | (clear C hA S hi hj hij hui huj hz hg hc hl hct htest hg' hs k1 r1 il1 hv1 r2 rs il2 hv2 S₁ hk3 F0 R0 hLl1 hLl2 hsz3 lt1 lt2 hLs wrn hLwr Ap W hst0 hLfp hloc1 hloc2 hp hst' F' R' hk hkp but sqk rep hMid hk₁ hT e1 e2 hst₂ hk₂ ht₂ he he' F₅ kp₅ hn₆ hs₆ hn₇ hs₇ F₇ kp₇ hst₇ hne12 g1 q1 g2 q2 R₇ R₈ S₈ hw hk₉; omega) | omega), h₉, tk₉, _, k + 1, rfl, W.frame (k + 1) _ _ hst₇ fun b _ o e => hk₉ b o e, F₇.grownK hk₉, R₇, hlt, rfl, fun b o hb e => hk₉ b o (kp₇ b o hb e)⟩
  · have hkm : k = min vs1.toArray.size vs2.toArray.size := by (first | (clear C hA S hi hj hij hui huj hz hg hc hl hct htest hg' hs k1 r1 il1 hv1 r2 rs il2 hv2 S₁ hk3 F0 R0 hLl1 hLl2 hsz3 lt1 lt2 hLs wrn hLwr Ap W hst0 hLfp hloc1 hloc2 hp hst' F' R' hkp but sqk rep; omega) | omega)
    subst hkm
    refine W.done _ _ _ hst' fun h₁ tk₁ hk₁ => wpAny_execs_nil ?_
    obtain ⟨F₁, kp₁⟩ := but h₁ hk₁
    refine ⟨rfl, ?_, ⟨m', F₁, rep _ _ _ (sqk _ kp₁) R'⟩⟩
    obtain ⟨h9, tk9, rfl, kk⟩ := k1
    exact ⟨h₁, tk₁, rfl, fun b o hb e => kp₁ b o hb (kk b o e)⟩
end own


noncomputable def n_lawbound : List Str := ["x", "M", "L", "total", "scale"]
noncomputable def p_lawbound : List Str := ["x", "M", "L"]
noncomputable def u_lawbound : List B := [.abs]
noncomputable def s_lawbound_1b : S :=
  (.aug 3 .Add (.bin .Add (.bin .FloorDiv (.bin .Mult (.bin .Pow (.lit 10) (.lit 6)) (.bin .Pow (.bin .Mult (.lit 64) (.var 4)) (.lit 64))) (.bin .Mult (.lit 2) (.bin .Pow (.bin .Add (.bin .Mult (.lit 64) (.var 4)) (.var 0)) (.lit 64)))) (.lit 1))
  (.aug 4 .Mult (.lit 2)
  .nil))
noncomputable def s_lawbound_1r : S :=
  (.ret (.var 3))
noncomputable def s_lawbound_1 : S := .whl (.cmp .Lt (.var 4) (.bin .Add (.bin .LShift (.bi .abs (.cons (.var 0) .nil)) (.var 2)) (.var 1))) s_lawbound_1b s_lawbound_1r
noncomputable def s_lawbound : S :=
  (.set 3 (.bin .Add (.bin .Add (.lit 700000) (.bin .FloorDiv (.bin .Mult (.bin .Pow (.lit 10) (.lit 6)) (.bi .abs (.cons (.var 0) .nil))) (.bin .Mult (.lit 16) (.var 1)))) (.lit 1))
  (.set 4 (.var 1)
  s_lawbound_1))

noncomputable def n_lawsame : List Str := ["product", "due", "bound", "M", "unit"]
noncomputable def p_lawsame : List Str := ["product", "due", "bound", "M"]
noncomputable def u_lawsame : List B := []
noncomputable def s_lawsame : S :=
  (.set 4 (.bin .Mult (.bin .Pow (.lit 10) (.lit 6)) (.var 3))
  (.ret (.cmp2 (.bin .Mult (.var 0) (.bin .Sub (.var 4) (.var 2))) .LtE (.bin .Mult (.var 1) (.var 4)) .LtE (.bin .Mult (.var 0) (.bin .Add (.var 4) (.var 2))))))

noncomputable def n_law : List Str := ["script", "steps", "v", "x", "whole", "answers", "told", "step", "bounds", "product", "count", "bound"]
noncomputable def u_law : List B := [(.fn "_law_same"), .abs, .list, .sum, .len, .isinstance, .bool, .int]
noncomputable def e_draw10 : E := .ite (.var 0) (.bin .Add (.bin .Pow (.lit 10) (.lit 9)) (.bin .Mod (.bi .abs (.cons (.idx (.var 0) (.lit 0)) .nil)) (.bin .Pow (.lit 10) (.lit 12)))) (.bin .Pow (.lit 10) (.lit 9))
noncomputable def e_test10 : E := .any (.cons (.isB (.var 6)) (.cons (.not (.isI (.var 6))) (.cons (.cmp .Lt (.var 6) (.bin .Add (.orc "M") (.idx (.var 7) (.lit 0)))) .nil)))
noncomputable def s_law_2 : S :=
  (.set 11 (.bi .sum (.cons (.slc (.var 8) .nil (.var 10)) .nil))
  (.ite (.not (.call "_law_same" (.cons (.var 9) (.cons (.bin .Mult (.idx (.var 5) (.neg (.lit 2))) (.bin .Pow (.orc "M") (.bin .Sub (.var 10) (.lit 1)))) (.cons (.bin .Add (.var 11) (.idx (.var 8) (.neg (.lit 2)))) (.cons (.orc "M") .nil))))))
    (.ret (.bo false))
    .nil
  (.ret (.call "_law_same" (.cons (.bin .Mult (.var 9) (.idx (.var 5) (.neg (.lit 1)))) (.cons (.bin .Pow (.orc "M") (.bin .Add (.var 10) (.lit 1))) (.cons (.bin .Add (.var 11) (.idx (.var 8) (.neg (.lit 1)))) (.cons (.orc "M") .nil))))))))
noncomputable def s_law_1b : S :=
  (.aug 9 .Mult (.var 6)
  .nil)
noncomputable def s_law_1 : S := .forL 6 (.slc (.var 5) .nil (.var 10)) s_law_1b s_law_2
noncomputable def s_law : S :=
  (.opq "answers"
  (.opq "zip"
  (.opq "bounds"
  (.set2 9 10 (.tup (.cons (.lit 1) (.cons (.bin .Sub (.bi .len (.cons (.var 1) .nil)) (.lit 2)) .nil)))
  s_law_1))))

/-! sizes -/
theorem szofI {a : Int} {k : Nat} (h0 : 0 ≤ a) (h : a < 2 ^ k) : a.natAbs < 2 ^ k := by
  have e : ((2 ^ k : Nat) : Int) = 2 ^ k := by norm_cast
  rw [← e] at h; omega
theorem szmul {a b : Int} {i j : Nat} (ha : a.natAbs < 2 ^ i) (hb : b.natAbs < 2 ^ j) : (a * b).natAbs < 2 ^ (i + j) := by
  rw [Int.natAbs_mul, Nat.pow_add]
  exact Nat.mul_lt_mul'' ha hb
theorem szpow {a : Int} {i : Nat} (ha : a.natAbs < 2 ^ i) (k : Nat) (hk : 0 < k) : (a ^ k).natAbs < 2 ^ (i * k) := by
  rw [Int.natAbs_pow, Nat.pow_mul]
  exact Nat.pow_lt_pow_left ha (by first | with_reducible assumption | with_reducible exact Int.le_of_lt (by assumption) | with_reducible exact Nat.le_of_lt (by assumption) | with_reducible exact qz1 (by assumption) | with_reducible exact qz2 (by assumption) | with_reducible exact qz3 (by assumption) | with_reducible exact qz4 (by assumption) | with_reducible exact qz5 (by assumption) | with_reducible exact qz6 (by assumption) | with_reducible exact qz7 (by assumption) | with_reducible exact qz8 (by assumption) | with_reducible exact qz9 (by assumption) | with_reducible exact qza (by assumption) | with_reducible exact qzb (by assumption) | with_reducible exact qzc | with_reducible exact qzd | with_reducible exact qze | (first | (clear ha; omega) | omega))
theorem sub_sz {a b : Int} {n m : Nat} (hm : m = n + 1) (ha : a.natAbs < 2 ^ n) (hb : b.natAbs < 2 ^ n) : (a - b).natAbs < 2 ^ m := by
  have := add_sz hm ha (show (-b).natAbs < 2 ^ n by rw [Int.natAbs_neg]; exact hb)
  rwa [Int.sub_eq_add_neg]
theorem b10_le (k : Int) (hk : 0 ≤ k) (hk' : k ≤ 1000) : (Builtin.Int.intBits 10 : Int) * k ≤ 2 ^ 27 := by
  have := intBits_le (a := 10) (k := 4) (by decide)
  have h2 := Int.mul_le_mul (show (Builtin.Int.intBits 10 : Int) ≤ 4 by (first | (clear hk hk'; omega) | omega)) hk' hk (by decide)
  (first | (clear hk hk' this; omega) | omega)
theorem pow_ok {a : Int} {k : Nat} (h : a.natAbs < 2 ^ k) (hk : k ≤ 1000) (e : Int) (he : 0 ≤ e) (he' : e ≤ 1000) : (Builtin.Int.intBits a : Int) * e ≤ 2 ^ 27 := by
  have := intBits_le h
  have h2 := Int.mul_le_mul (show (Builtin.Int.intBits a : Int) ≤ 1000 by (first | (clear h he he'; omega) | omega)) he' he (by decide)
  (first | (clear h hk he he' this; omega) | omega)
/-- the answer's size -/
theorem iexp_sz10 {x M L : Int} (hM : 10 ^ 9 ≤ M) (hM' : M < 10 ^ 13) (hL : 3 ≤ L) (hL2 : L ≤ 10) (hx : 2 * (x.natAbs : Int) ≤ 15 * M) : (iexp x M L).natAbs < 2 ^ 63 := by
  have hM0 : 0 < M := by first | with_reducible assumption | with_reducible exact Int.le_of_lt (by assumption) | with_reducible exact Nat.le_of_lt (by assumption) | with_reducible exact qz1 (by assumption) | with_reducible exact qz2 (by assumption) | with_reducible exact qz3 (by assumption) | with_reducible exact qz4 (by assumption) | with_reducible exact qz5 (by assumption) | with_reducible exact qz6 (by assumption) | with_reducible exact qz7 (by assumption) | with_reducible exact qz8 (by assumption) | with_reducible exact qz9 (by assumption) | with_reducible exact qza (by assumption) | with_reducible exact qzb (by assumption) | with_reducible exact qzc | with_reducible exact qzd | with_reducible exact qze | omega
  obtain ⟨d, W, h⟩ := S10_ex hM0
  have hd := h.hd
  have hW := h.hW
  have w := rel10 h hM hM' hL hL2 hx
  have hge := iexp_ge (x := x) (show 1000 ≤ M by first | with_reducible assumption | with_reducible exact Int.le_of_lt (by assumption) | with_reducible exact Nat.le_of_lt (by assumption) | with_reducible exact qz1 (by assumption) | with_reducible exact qz2 (by assumption) | with_reducible exact qz3 (by assumption) | with_reducible exact qz4 (by assumption) | with_reducible exact qz5 (by assumption) | with_reducible exact qz6 (by assumption) | with_reducible exact qz7 (by assumption) | with_reducible exact qz8 (by assumption) | with_reducible exact qz9 (by assumption) | with_reducible exact qza (by assumption) | with_reducible exact qzb (by assumption) | with_reducible exact qzc | with_reducible exact qzd | with_reducible exact qze | omega) (show 1 ≤ L by first | with_reducible assumption | with_reducible exact Int.le_of_lt (by assumption) | with_reducible exact Nat.le_of_lt (by assumption) | with_reducible exact qz1 (by assumption) | with_reducible exact qz2 (by assumption) | with_reducible exact qz3 (by assumption) | with_reducible exact qz4 (by assumption) | with_reducible exact qz5 (by assumption) | with_reducible exact qz6 (by assumption) | with_reducible exact qz7 (by assumption) | with_reducible exact qz8 (by assumption) | with_reducible exact qz9 (by assumption) | with_reducible exact qza (by assumption) | with_reducible exact qzb (by assumption) | with_reducible exact qzc | with_reducible exact qzd | with_reducible exact qze | omega) (show L ≤ 12 by first | with_reducible assumption | with_reducible exact Int.le_of_lt (by assumption) | with_reducible exact Nat.le_of_lt (by assumption) | with_reducible exact qz1 (by assumption) | with_reducible exact qz2 (by assumption) | with_reducible exact qz3 (by assumption) | with_reducible exact qz4 (by assumption) | with_reducible exact qz5 (by assumption) | with_reducible exact qz6 (by assumption) | with_reducible exact qz7 (by assumption) | with_reducible exact qz8 (by assumption) | with_reducible exact qz9 (by assumption) | with_reducible exact qza (by assumption) | with_reducible exact qzb (by assumption) | with_reducible exact qzc | with_reducible exact qzd | with_reducible exact qze | omega)
  have hh : ((262144 * W * M : Int) : Rat) * d = 1 / 2 := by
    have := h.h1
    rw [Rat.intCast_mul, Rat.intCast_mul, show ((262144 : Int) : Rat) = 262144 from rfl]
    (first | (clear hM hM' hL hL2 hx hM0 h hd hW w hge; grind) | grind)
  have hE : ex d (524288 * W * x) ≤ 65536 := by
    have h9 := ex_half (k := 16) hd hh (p := 524288 * W * x) (by
      have h1 : W * x ≤ W * (8 * M) := Int.mul_le_mul_of_nonneg_left (by first | with_reducible assumption | with_reducible exact Int.le_of_lt (by assumption) | with_reducible exact Nat.le_of_lt (by assumption) | with_reducible exact qz1 (by assumption) | with_reducible exact qz2 (by assumption) | with_reducible exact qz3 (by assumption) | with_reducible exact qz4 (by assumption) | with_reducible exact qz5 (by assumption) | with_reducible exact qz6 (by assumption) | with_reducible exact qz7 (by assumption) | with_reducible exact qz8 (by assumption) | with_reducible exact qz9 (by assumption) | with_reducible exact qza (by assumption) | with_reducible exact qzb (by assumption) | with_reducible exact qzc | with_reducible exact qzd | with_reducible exact qze | (first | (clear hM hM' hL hL2 hM0 h hd hW w hge hh; omega) | omega)) (by first | with_reducible assumption | with_reducible exact Int.le_of_lt (by assumption) | with_reducible exact Nat.le_of_lt (by assumption) | with_reducible exact qz1 (by assumption) | with_reducible exact qz2 (by assumption) | with_reducible exact qz3 (by assumption) | with_reducible exact qz4 (by assumption) | with_reducible exact qz5 (by assumption) | with_reducible exact qz6 (by assumption) | with_reducible exact qz7 (by assumption) | with_reducible exact qz8 (by assumption) | with_reducible exact qz9 (by assumption) | with_reducible exact qza (by assumption) | with_reducible exact qzb (by assumption) | with_reducible exact qzc | with_reducible exact qzd | with_reducible exact qze | (first | (clear hM hM' hL hL2 hx hM0 h hd w hge hh; omega) | omega))
      have e1 : 524288 * W * x = 524288 * (W * x) := by (first | (clear hM hM' hL hL2 hx hM0 h hd hW w hge hh h1; grind) | grind)
      have e2 : ((16 : Nat) : Int) * (262144 * W * M) = 524288 * (W * (8 * M)) := by
        show (16 : Int) * (262144 * W * M) = _; (first | (clear hM hM' hL hL2 hx hM0 h hd hW w hge hh h1 e1; grind) | grind)
      (first | (clear hM hM' hL hL2 hx hM0 h hd hW w hge hh; omega) | omega))
    have e16 : (2 : Rat) ^ 16 = 65536 := rfl
    rw [e16] at h9
    exact h9
  obtain ⟨b0, b1⟩ := bnd10_le (L := L) hM0 hx hL2
  have b1r : (bnd10 x M L : Rat) ≤ 1790000000 := icast_le b1
  have b0r : (700000 : Rat) ≤ (bnd10 x M L : Rat) := icast_le b0
  have hMr : (M : Rat) ≤ 10000000000000 := icast_le (show M ≤ 10000000000000 by first | with_reducible assumption | with_reducible exact Int.le_of_lt (by assumption) | with_reducible exact Nat.le_of_lt (by assumption) | with_reducible exact qz1 (by assumption) | with_reducible exact qz2 (by assumption) | with_reducible exact qz3 (by assumption) | with_reducible exact qz4 (by assumption) | with_reducible exact qz5 (by assumption) | with_reducible exact qz6 (by assumption) | with_reducible exact qz7 (by assumption) | with_reducible exact qz8 (by assumption) | with_reducible exact qz9 (by assumption) | with_reducible exact qza (by assumption) | with_reducible exact qzb (by assumption) | with_reducible exact qzc | with_reducible exact qzd | with_reducible exact qze | (first | (clear hL hL2 hx hM0 h hd hW w hge hh hE b0 b1 b1r b0r; omega) | omega))
  have hMr0 : (1000000000 : Rat) ≤ (M : Rat) := icast_le hM
  have hE0 := ex_pos hd (524288 * W * x)
  have up : (iexp x M L : Rat) ≤ ((700000000000000000 : Int) : Rat) := by
    rw [show ((700000000000000000 : Int) : Rat) = 700000000000000000 from rfl]
    obtain ⟨_, w2⟩ := w
    have a1 := rmul (show (0 : Rat) ≤ (M : Rat) by (first | (clear hM hM' hL hL2 hx hM0 h hd hW hge hh hE b0 b1 b1r b0r hMr hE0 w2; grind) | grind)) (show (0 : Rat) ≤ 65536 by decide) hMr hE
    have a2 := rmul (show (0 : Rat) ≤ (bnd10 x M L : Rat) - 20000 by (first | (clear hM hM' hL hL2 hx hM0 h hd hW hge hh hE b0 b1 b1r hMr hMr0 hE0 w2 a1; grind) | grind)) (show (0 : Rat) ≤ 65536 by decide) (show (bnd10 x M L : Rat) - 20000 ≤ 1790000000 by (first | (clear hM hM' hL hL2 hx hM0 h hd hW hge hh hE b0 b1 b0r hMr hMr0 hE0 w2 a1; grind) | grind)) hE
    (first | (clear hM hM' hL hL2 hx hM0 h hd hW hge hh hE b0 b1 b1r b0r hMr hMr0 hE0; grind) | grind)
  have up := Rat.intCast_le_intCast.mp up
  (first | (clear hL hL2 hM0 h hd hW w hh hE b0 b1 b1r b0r hMr hMr0 hE0; omega) | omega)
/-! the two helpers -/
section
variable {Γ : Str → List D → D → Prop}
theorem hpos10 {m M x : Int} (hm : M ≤ m) (hx : 2 * (x.natAbs : Int) ≤ 15 * M) (hM : 0 < M) : 0 < 64 * m + x := by omega
theorem sS10 {M : Int} {j : Nat} (sM : M.natAbs < 2 ^ 44) (hj : j ≤ 13) : (M * 2 ^ j).natAbs < 2 ^ 60 := by
  have h2 : (2 : Int) ^ j ≤ 2 ^ 13 := ipow_le (by decide) hj
  exact bigger 58 60 (szmul (j := 14) sM (szofI (Int.le_of_lt (p2pos j)) (by first | with_reducible assumption | with_reducible exact Int.le_of_lt (by assumption) | with_reducible exact Nat.le_of_lt (by assumption) | with_reducible exact qz1 (by assumption) | with_reducible exact qz2 (by assumption) | with_reducible exact qz3 (by assumption) | with_reducible exact qz4 (by assumption) | with_reducible exact qz5 (by assumption) | with_reducible exact qz6 (by assumption) | with_reducible exact qz7 (by assumption) | with_reducible exact qz8 (by assumption) | with_reducible exact qz9 (by assumption) | with_reducible exact qza (by assumption) | with_reducible exact qzb (by assumption) | with_reducible exact qzc | with_reducible exact qzd | with_reducible exact qze | (first | (clear sM hj; omega) | omega))))
theorem nz2 {a : Int} (h : 0 < a) : 2 * a ≠ 0 := by omega
theorem nz16 {a : Int} (h : 0 < a) : 16 * a ≠ 0 := by omega
theorem sM13 {M : Int} (h : 10 ^ 9 ≤ M) (h' : M < 10 ^ 13) : 0 < M ∧ M.natAbs < 2 ^ 44 := by omega
theorem sx47 {x M : Int} (h' : M < 10 ^ 13) (hx : 2 * (x.natAbs : Int) ≤ 15 * M) : x.natAbs < 2 ^ 47 := by omega
theorem L1000 {L : Int} (h : 3 ≤ L) (h' : L ≤ 10) : 0 ≤ L ∧ L ≤ 1000 := by omega
theorem lt_t10 {a b : Int} {j t : Nat} (hj : j ≤ t) (hc : j = t → ¬ a < b) (h : a < b) : j < t := Nat.lt_of_le_of_ne hj fun e => hc e h
theorem sub_lt10 {j t : Nat} (h : j < t) : t - (j + 1) < t - j := by omega
noncomputable def IB10 (x M L : Int) (n : Nat) (ρ : List D) : Prop := ∃ j : Nat, j ≤ t10 x M L ∧ n = t10 x M L - j ∧ ρ = [.int x, .int M, .int L, .int (700000 + (10 ^ 6 * (x.natAbs : Int)).fdiv (16 * M) + 1 + sumTo (termC x M) j), .int (M * 2 ^ j)]
theorem bnd10_body (x M L : Int) (hM : 10 ^ 9 ≤ M) (hM' : M < 10 ^ 13) (hL : 3 ≤ L) (hL2 : L ≤ 10) (hx : 2 * (x.natAbs : Int) ≤ 15 * M) :
    wpS Γ s_lawbound [.int x, .int M, .int L, .undef, .undef] (fun o _ => o = some (.int (bnd10 x M L))) := by
  obtain ⟨hM0, sM⟩ := sM13 hM hM'
  obtain ⟨hL0, hL1000⟩ := L1000 hL hL2
  have ht := t10_le hM0 hx hL2
  obtain ⟨t1, t2⟩ := t10_facts (x := x) (L := L) hM0
  have sx := sx47 hM' hx
  have bx : (Builtin.Int.intBits (x.natAbs : Int) : Int) + L ≤ 2 ^ 27 := bits_add (a := (x.natAbs : Int)) (k := 47) (by simpa using sx) (by decide) hL1000
  have e6 : (10 : Int) ^ (6 : Int).toNat = 10 ^ 6 := rfl
  have l16 : (16 * M).natAbs.log2 < 9000 := lg 100 (bigger 54 100 (szmul (i := 10) (j := 44) (by decide) sM))
  have n16 : 16 * M ≠ 0 := nz16 hM0
  unfold s_lawbound
  simp only [wlit, wbo, wvar, wbin, wneg, wnot, wcmp, wcmp2, wany, wite, wcall, wbi, wisI, wisB, wlst, wtup, widx, wslc, wand, wor, wnil, wcons, snil, worc, sopq, srais, sret, sset, sset2, saug, site, Mine.get, binW, cmpW, biW, truth, isBP, isIP, intP, Mine.ii, ibP, ilP, slP, tlP, lP, tP, Mine.l1, Mine.l2, Mine.l3, t2P, t3P, augW, Mine.onN, cutP, partP, E.isNil, List.isEmpty_nil, List.isEmpty_cons, List.set, ne_eq, reduceCtorEq, not_false_eq_true, true_and, and_true, if_true, if_false, Bool.false_eq_true, Option.some.injEq, exists_eq_left', Bool.not_true, Bool.not_false]
  rw [e6, abs_if]
  refine ⟨by decide, b10_le 6 (by decide) (by decide), .of_left (by decide), .of_left (by decide), n16, l16, ?_⟩
  unfold s_lawbound_1
  refine whl_ok (IB10 x M L) (t10 x M L) ⟨0, Nat.zero_le _, rfl, by
    have : sumTo (termC x M) 0 = 0 := rfl
    rw [this, Int.pow_zero, Int.mul_one, Int.add_zero]⟩ ?_
  rintro n ρ ⟨j, hj, rfl, rfl⟩
  simp only [wlit, wbo, wvar, wbin, wneg, wnot, wcmp, wcmp2, wany, wite, wcall, wbi, wisI, wisB, wlst, wtup, widx, wslc, wand, wor, wnil, wcons, snil, worc, sopq, srais, sret, sset, sset2, saug, site, Mine.get, binW, cmpW, biW, truth, isBP, isIP, intP, Mine.ii, ibP, ilP, slP, tlP, lP, tP, Mine.l1, Mine.l2, Mine.l3, t2P, t3P, augW, Mine.onN, cutP, partP, E.isNil, List.isEmpty_nil, List.isEmpty_cons, List.set, ne_eq, reduceCtorEq, not_false_eq_true, true_and, and_true, if_true, if_false, Bool.false_eq_true, Option.some.injEq, exists_eq_left', Bool.not_true, Bool.not_false]
  rw [abs_if]
  refine ⟨hL0, bx, ?_⟩
  by_cases hc : M * 2 ^ j < (x.natAbs : Int) * 2 ^ L.toNat + M
  · rw [if_pos (by simpa using hc)]
    have hjt : j < t10 x M L := lt_t10 hj (fun e => e ▸ Int.not_lt.mpr t1) hc
    have sS : (M * 2 ^ j).natAbs < 2 ^ 60 := sS10 sM (Nat.le_trans hj ht)
    have hS := m2_ge hM0 j
    have hpos : 0 < 64 * (M * 2 ^ j) + x := hpos10 hS hx hM0
    have s1 : (64 * (M * 2 ^ j)).natAbs < 2 ^ 67 := szmul (i := 7) (by decide) sS
    have s2 := add_sz rfl s1 (bigger 47 67 sx)
    have p1 := pow_ok s1 (by decide) 64 (by decide) (by decide)
    have p2 := pow_ok s2 (by decide) 64 (by decide) (by decide)
    have s3 := szpow s2 64 (by decide)
    have hB : 0 < (64 * (M * 2 ^ j) + x) ^ 64 := Int.pow_pos hpos
    have e64 : ∀ z : Int, z ^ (64 : Int).toNat = z ^ 64 := fun z => rfl
    have l1 : (2 * (64 * (M * 2 ^ j) + x) ^ 64).natAbs.log2 < 9000 := lg (2 + 68 * 64) (szmul (i := 2) (by decide) s3)
    have eS : M * 2 ^ j * 2 = M * 2 ^ (j + 1) := by rw [Int.pow_succ]; (first | (clear hM hM' hL hL2 hx hM0 sM hL0 hL1000 ht t1 t2 sx bx e6 l16 n16 hj hc hjt sS hS hpos s1 s2 p1 p2 s3 hB e64 l1; grind) | grind)
    have hm : t10 x M L - (j + 1) < t10 x M L - j := sub_lt10 hjt
    unfold s_lawbound_1b
    simp only [wlit, wbo, wvar, wbin, wneg, wnot, wcmp, wcmp2, wany, wite, wcall, wbi, wisI, wisB, wlst, wtup, widx, wslc, wand, wor, wnil, wcons, snil, worc, sopq, srais, sret, sset, sset2, saug, site, Mine.get, binW, cmpW, biW, truth, isBP, isIP, intP, Mine.ii, ibP, ilP, slP, tlP, lP, tP, Mine.l1, Mine.l2, Mine.l3, t2P, t3P, augW, Mine.onN, cutP, partP, E.isNil, List.isEmpty_nil, List.isEmpty_cons, List.set, ne_eq, reduceCtorEq, not_false_eq_true, true_and, and_true, if_true, if_false, Bool.false_eq_true, Option.some.injEq, exists_eq_left', Bool.not_true, Bool.not_false]
    simp only [e64, e6]
    refine ⟨by decide, b10_le 6 (by decide) (by decide), .of_left (by decide), by decide, p1, .of_left (by decide), .of_left (by decide), by decide, p2, mul2, nz2 hB, l1, .of_right (by decide), t10 x M L - (j + 1), hm, j + 1, hjt, rfl, ?_⟩
    rw [eS]
    have e7 : 700000 + (10 ^ 6 * (x.natAbs : Int)).fdiv (16 * M) + 1 + sumTo (termC x M) j + ((10 ^ 6 * (64 * (M * 2 ^ j)) ^ 64).fdiv (2 * (64 * (M * 2 ^ j) + x) ^ 64) + 1) = 700000 + (10 ^ 6 * (x.natAbs : Int)).fdiv (16 * M) + 1 + sumTo (termC x M) (j + 1) := by
      show _ = 700000 + (10 ^ 6 * (x.natAbs : Int)).fdiv (16 * M) + 1 + (sumTo (termC x M) j + termC x M j)
      rw [Int.add_assoc]; rfl
    rw [e7]
  · rw [if_neg (by simpa using hc)]
    have hjt : j = t10 x M L := by
      refine Nat.le_antisymm hj (Nat.not_lt.mp fun hlt => ?_)
      exact hc (t2 j hlt)
    subst hjt
    unfold s_lawbound_1r
    simp only [wlit, wbo, wvar, wbin, wneg, wnot, wcmp, wcmp2, wany, wite, wcall, wbi, wisI, wisB, wlst, wtup, widx, wslc, wand, wor, wnil, wcons, snil, worc, sopq, srais, sret, sset, sset2, saug, site, Mine.get, binW, cmpW, biW, truth, isBP, isIP, intP, Mine.ii, ibP, ilP, slP, tlP, lP, tP, Mine.l1, Mine.l2, Mine.l3, t2P, t3P, augW, Mine.onN, cutP, partP, E.isNil, List.isEmpty_nil, List.isEmpty_cons, List.set, ne_eq, reduceCtorEq, not_false_eq_true, true_and, and_true, if_true, if_false, Bool.false_eq_true, Option.some.injEq, exists_eq_left', Bool.not_true, Bool.not_false]
    rfl
theorem same_body (p due bd M : Int) (hM : M.natAbs < 2 ^ 44) (hp : p.natAbs < 2 ^ 1000) (hd : due.natAbs < 2 ^ 1000) (hb : bd.natAbs < 2 ^ 100) (h1 : p * (10 ^ 6 * M - bd) ≤ due * (10 ^ 6 * M)) (h2 : due * (10 ^ 6 * M) ≤ p * (10 ^ 6 * M + bd)) :
    wpS Γ s_lawsame [.int p, .int due, .int bd, .int M, .undef] (fun o _ => o = some (.bool true)) := by
  have e6 : (10 : Int) ^ (6 : Int).toNat = 10 ^ 6 := rfl
  have sU : (10 ^ 6 * M).natAbs < 2 ^ 64 := szmul (i := 20) (by decide) hM
  have s1 := sub_sz rfl (bigger 64 100 sU) hb
  have s2 := add_sz rfl (bigger 64 100 sU) hb
  unfold s_lawsame
  simp only [wlit, wbo, wvar, wbin, wneg, wnot, wcmp, wcmp2, wany, wite, wcall, wbi, wisI, wisB, wlst, wtup, widx, wslc, wand, wor, wnil, wcons, snil, worc, sopq, srais, sret, sset, sset2, saug, site, Mine.get, binW, cmpW, biW, truth, isBP, isIP, intP, Mine.ii, ibP, ilP, slP, tlP, lP, tP, Mine.l1, Mine.l2, Mine.l3, t2P, t3P, augW, Mine.onN, cutP, partP, E.isNil, List.isEmpty_nil, List.isEmpty_cons, List.set, ne_eq, reduceCtorEq, not_false_eq_true, true_and, and_true, if_true, if_false, Bool.false_eq_true, Option.some.injEq, exists_eq_left', Bool.not_true, Bool.not_false]
  rw [e6]
  have q1 : decide (p * (10 ^ 6 * M - bd) ≤ due * (10 ^ 6 * M)) = true := decide_eq_true h1
  have q2 : decide (due * (10 ^ 6 * M) ≤ p * (10 ^ 6 * M + bd)) = true := decide_eq_true h2
  rw [q1, q2]
  simp only [if_true]
  refine ⟨by decide, b10_le 6 (by decide) (by decide), .of_left (by decide), Sm.mul (.of _ hp) (.of _ s1), Sm.mul (.of _ hd) (.of _ sU), Sm.mul (.of _ hp) (.of _ s2), trivial⟩
end


noncomputable def ansF (M : Int) (p : Int × Int) : Int := iexp p.1 M p.2
noncomputable def bndF (M : Int) (p : Int × Int) : Int := bnd10 p.1 M p.2
/-- the law's frame names, what its opaque parts give -/
inductive G10 (M : Int) (ps : List (Int × Int)) : Str → List D → D → Prop where
  | same (p due bd : Int) (hp : p.natAbs < 2 ^ 1000) (hd : due.natAbs < 2 ^ 1000) (hb : bd.natAbs < 2 ^ 100) (h1 : p * (10 ^ 6 * M - bd) ≤ due * (10 ^ 6 * M)) (h2 : due * (10 ^ 6 * M) ≤ p * (10 ^ 6 * M + bd)) :
      G10 M ps "_law_same" [.int p, .int due, .int bd, .int M] (.bool true)
  | mm (ρ : List D) : G10 M ps "M" ρ (.int M)
  | answers (ρ : List D) (h : ρ[1]? = some (.list (ps.map dP))) : G10 M ps "answers" ρ (.list (ρ.set 5 (.list ((ps.map (ansF M)).map .int))))
  | bounds (ρ : List D) (h : ρ[1]? = some (.list (ps.map dP))) : G10 M ps "bounds" ρ (.list (ρ.set 8 (.list ((ps.map (bndF M)).map .int))))
  | zip (ρ : List D) (h : ρ[1]? = some (.list (ps.map dP))) (h5 : ρ[5]? = some (.list ((ps.map (ansF M)).map .int))) (h6 : ρ[6]? = some .undef) (h7 : ρ[7]? = some .undef) : G10 M ps "zip" ρ (.list ρ)
theorem prodI_snoc (M : Int) : ∀ (ts : List (Int × Int)) (t : Int × Int) (p : Int), prodI M (ts ++ [t]) p = prodI M ts p * iexp t.1 M t.2
  | [], _, _ => rfl
  | u :: ts, t, p => prodI_snoc M ts t (p * iexp u.1 M u.2)
theorem sumB_sum (M : Int) : ∀ ts : List (Int × Int), (ts.map (bndF M)).sum = sumB M ts
  | [] => rfl
  | t :: ts => by
    show ((bndF M t) :: ts.map (bndF M)).sum = bnd10 t.1 M t.2 + sumB M ts
    rw [List.sum_cons, sumB_sum M ts]; rfl
theorem prodI_sz {M : Int} {k : Nat} : ∀ (ts : List (Int × Int)) (p : Int) (j : Nat), (∀ t ∈ ts, (iexp t.1 M t.2).natAbs < 2 ^ k) → p.natAbs < 2 ^ j → (prodI M ts p).natAbs < 2 ^ (j + k * ts.length)
  | [], p, j, _, hp => hp
  | t :: ts, p, j, h, hp => by
    have h1 := szmul hp (h t (List.mem_cons_self ..))
    have h2 := prodI_sz ts _ _ (fun u hu => h u (List.mem_cons_of_mem _ hu)) h1
    show (prodI M ts (p * iexp t.1 M t.2)).natAbs < _
    have e : j + k * (t :: ts).length = j + k + k * ts.length := by simp only [List.length_cons]; rw [Nat.mul_succ]; (first | (clear h hp h1 h2; omega) | omega)
    rw [e]; exact h2
/-- the facts of one script -/
structure In10 (M : Int) (ts : List (Int × Int)) (L1 L2 : Int) : Prop where
  hM : 10 ^ 9 ≤ M
  hM' : M < 10 ^ 13
  hok : ∀ t ∈ ts, Okt M t
  hl1 : 1 ≤ ts.length
  hl : ts.length ≤ 5
  h1 : 3 ≤ L1
  h1' : L1 ≤ 10
  h2 : 3 ≤ L2
  h2' : L2 ≤ 10
  hw : 2 * ((sumX ts).natAbs : Int) ≤ 15 * M
noncomputable def stepsOf (ts : List (Int × Int)) (L1 L2 : Int) : List (Int × Int) := ts ++ [(sumX ts, L1), (-sumX ts, L2)]
theorem In10.all {M : Int} {ts : List (Int × Int)} {L1 L2 : Int} (h : In10 M ts L1 L2) : ∀ p ∈ stepsOf ts L1 L2, 2 * (p.1.natAbs : Int) ≤ 15 * M ∧ 3 ≤ p.2 ∧ p.2 ≤ 10 := by
  have hM := h.hM
  intro p hp
  unfold stepsOf at hp
  rcases List.mem_append.mp hp with hp | hp
  · obtain ⟨a, b, c⟩ := h.hok p hp
    exact ⟨by (first | (clear h hp b c; omega) | omega), b, c⟩
  · simp only [List.mem_cons, List.not_mem_nil, or_false] at hp
    have hw := h.hw
    rcases hp with rfl | rfl
    · exact ⟨hw, h.h1, h.h1'⟩
    · exact ⟨by show 2 * ((-sumX ts).natAbs : Int) ≤ 15 * M; (first | (clear h hM hp; omega) | omega), h.h2, h.h2'⟩
theorem idx_end {l : List Int} {a b : Int} {P : D → Prop} (hl : l.length < 2 ^ 60) : (P (.int a) → idxW (.list ((l ++ [a, b]).map .int)) (.int (-2)) P) ∧ (P (.int b) → idxW (.list ((l ++ [a, b]).map .int)) (.int (-1)) P) := by
  have e : ((l ++ [a, b]).map D.int).length = l.length + 2 := by simp
  constructor
  · intro h
    show -(2 ^ 62) ≤ (-2 : Int) ∧ (-2 : Int) < 2 ^ 62 ∧ ∃ d, ((l ++ [a, b]).map D.int)[(if (-2 : Int) < 0 then (-2 : Int) + (((l ++ [a, b]).map D.int).length : Int) else -2).toNat]? = some d ∧ 0 ≤ (if (-2 : Int) < 0 then (-2 : Int) + (((l ++ [a, b]).map D.int).length : Int) else -2) ∧ P d
    rw [if_pos (by decide), e]
    have e2 : (-2 + ((l.length + 2 : Nat) : Int)).toNat = l.length := by (first | (clear h; omega) | omega)
    rw [e2]
    refine ⟨by decide, by decide, .int a, by simp, by (first | (clear h; omega) | omega), h⟩
  · intro h
    show -(2 ^ 62) ≤ (-1 : Int) ∧ (-1 : Int) < 2 ^ 62 ∧ ∃ d, ((l ++ [a, b]).map D.int)[(if (-1 : Int) < 0 then (-1 : Int) + (((l ++ [a, b]).map D.int).length : Int) else -1).toNat]? = some d ∧ 0 ≤ (if (-1 : Int) < 0 then (-1 : Int) + (((l ++ [a, b]).map D.int).length : Int) else -1) ∧ P d
    rw [if_pos (by decide), e]
    have e2 : (-1 + ((l.length + 2 : Nat) : Int)).toNat = l.length + 1 := by (first | (clear h; omega) | omega)
    rw [e2]
    refine ⟨by decide, by decide, .int b, by simp, by (first | (clear h; omega) | omega), h⟩
theorem sumB_le {M : Int} (hM : 0 < M) : ∀ ts : List (Int × Int), (∀ t ∈ ts, Okt M t) → 0 ≤ sumB M ts ∧ sumB M ts ≤ 32000000 * ts.length
  | [], _ => by show (0 : Int) ≤ 0 ∧ (0 : Int) ≤ _; simp
  | t :: ts, h => by
    obtain ⟨x1, x2, x3⟩ := h t (List.mem_cons_self ..)
    have ih := sumB_le hM ts fun u hu => h u (List.mem_cons_of_mem _ hu)
    have b0 := (bnd10_le (x := t.1) (L := t.2) hM (by first | with_reducible assumption | with_reducible exact Int.le_of_lt (by assumption) | with_reducible exact Nat.le_of_lt (by assumption) | with_reducible exact qz1 (by assumption) | with_reducible exact qz2 (by assumption) | with_reducible exact qz3 (by assumption) | with_reducible exact qz4 (by assumption) | with_reducible exact qz5 (by assumption) | with_reducible exact qz6 (by assumption) | with_reducible exact qz7 (by assumption) | with_reducible exact qz8 (by assumption) | with_reducible exact qz9 (by assumption) | with_reducible exact qza (by assumption) | with_reducible exact qzb (by assumption) | with_reducible exact qzc | with_reducible exact qzd | with_reducible exact qze | (first | (clear h x2 x3 ih; omega) | omega)) x3).1
    have b1 := bnd10_le' (x := t.1) (L := t.2) hM x1 x3
    show 0 ≤ bnd10 t.1 M t.2 + sumB M ts ∧ bnd10 t.1 M t.2 + sumB M ts ≤ 32000000 * ((ts.length + 1 : Nat) : Int)
    (first | (clear hM h x1 x2 x3; omega) | omega)
theorem nn10 {n : Nat} (h : 1 ≤ n) (h5 : n ≤ 5) : ((n : Int) - 1).toNat = n - 1 ∧ ((n : Int) + 1).toNat = n + 1 ∧ (0 ≤ (n : Int) - 1 ∧ 0 ≤ (n : Int) + 1) ∧ ((n : Int) - 1 ≤ 1000 ∧ (n : Int) + 1 ≤ 1000) ∧ (n - 1 ≤ 5 ∧ n + 1 ≤ 6) ∧ 1 + 63 * n ≤ 400 ∧ 32000000 * (n : Int) ≤ 160000000 := by omega
theorem bz40 {a b c : Int} (h0 : 0 ≤ a) (h1 : a ≤ c) (h2 : c ≤ 160000000) (h3 : 0 ≤ b) (h4 : b ≤ 1790000000) : (a + b).natAbs < 2 ^ 40 := by omega
theorem len10 {n : Nat} (h : n ≤ 5) : n + 2 ≤ 2 ^ 20 ∧ n < 2 ^ 60 := by omega
theorem Mpow {M : Int} (sM : M.natAbs < 2 ^ 44) (hM : 0 < M) {k : Nat} (hk : k ≤ 6) : (M ^ k).natAbs < 2 ^ 300 := by
  have h9 := szpow (k := 6) sM (by decide)
  rw [Int.natAbs_pow] at h9 ⊢
  exact Nat.lt_of_le_of_lt (Nat.pow_le_pow_right (by clear h9 sM; (first | (clear hk; omega) | omega)) hk) (bigger 264 300 h9)
theorem sM44 {M : Int} (hM : 0 < M) (h : M < 10 ^ 13) : M.natAbs < 2 ^ 44 := by omega
set_option maxHeartbeats 2000000 in
/-- from the answers on -/
theorem l10_end {M : Int} {ts : List (Int × Int)} {L1 L2 : Int} {d0 d1 d2 d3 d4 d6 d7 d11 : D} (h : In10 M ts L1 L2) :
    wpS (G10 M (stepsOf ts L1 L2)) s_law_2 [d0, d1, d2, d3, d4, .list (((stepsOf ts L1 L2).map (ansF M)).map .int), d6, d7, .list (((stepsOf ts L1 L2).map (bndF M)).map .int), .int (prodI M ts 1), .int (ts.length : Int), d11]
      (fun o _ => o = some (.bool true)) := by
  obtain ⟨t1, t2⟩ := t10_law h.hM h.hM' h.hok h.hl1 h.hl h.h1 h.h1' h.h2 h.h2' h.hw
  have hM0 : 0 < M := Int.lt_of_lt_of_le (by decide) h.hM
  have hl := h.hl
  have hl1 := h.hl1
  obtain ⟨i1, i2, ⟨n1, n2⟩, ⟨n3, n4⟩, ⟨n5, n6⟩, n7, n8⟩ := nn10 hl1 hl
  obtain ⟨sb0, sb1⟩ := sumB_le hM0 ts h.hok
  have all := h.all
  have az : ∀ p ∈ stepsOf ts L1 L2, (ansF M p).natAbs < 2 ^ 63 := fun p hp => by
    obtain ⟨a, b, c⟩ := all p hp
    exact iexp_sz10 h.hM h.hM' b c a
  have bz : ∀ p ∈ stepsOf ts L1 L2, 0 ≤ bndF M p ∧ bndF M p ≤ 1790000000 := fun p hp => by
    obtain ⟨a, b, c⟩ := all p hp
    have := bnd10_le (L := p.2) hM0 a c
    unfold bndF
    (first | (clear h t1 t2 hM0 hl hl1 i1 i2 n1 n2 n3 n4 n5 n6 n7 n8 sb0 sb1 all az hp a b c; omega) | omega)
  have hmem1 : (sumX ts, L1) ∈ stepsOf ts L1 L2 := by unfold stepsOf; simp
  have hmem2 : (-sumX ts, L2) ∈ stepsOf ts L1 L2 := by unfold stepsOf; simp
  have sM : M.natAbs < 2 ^ 44 := sM44 hM0 h.hM'
  have a1 : (iexp (sumX ts) M L1).natAbs < 2 ^ 63 := az _ hmem1
  have a2 : (iexp (-sumX ts) M L2).natAbs < 2 ^ 63 := az _ hmem2
  have b1 : 0 ≤ bnd10 (sumX ts) M L1 ∧ bnd10 (sumX ts) M L1 ≤ 1790000000 := bz _ hmem1
  have b2 : 0 ≤ bnd10 (-sumX ts) M L2 ∧ bnd10 (-sumX ts) M L2 ≤ 1790000000 := bz _ hmem2
  have sp : (prodI M ts 1).natAbs < 2 ^ 400 := by
    have h9 := prodI_sz (M := M) (k := 63) ts 1 1 (fun t ht => az t (by unfold stepsOf; exact List.mem_append_left _ ht)) (by decide)
    exact Nat.lt_of_lt_of_le h9 (Nat.pow_le_pow_right (by decide) n7)
  have eA : (stepsOf ts L1 L2).map (ansF M) = ts.map (ansF M) ++ [iexp (sumX ts) M L1, iexp (-sumX ts) M L2] := by unfold stepsOf; rw [List.map_append]; rfl
  have eB : (stepsOf ts L1 L2).map (bndF M) = ts.map (bndF M) ++ [bnd10 (sumX ts) M L1, bnd10 (-sumX ts) M L2] := by unfold stepsOf; rw [List.map_append]; rfl
  have ecut : cut ((ts.map (bndF M) ++ [bnd10 (sumX ts) M L1, bnd10 (-sumX ts) M L2]).map D.int) none (some (ts.length : Int)) = (ts.map (bndF M)).map D.int := by
    rw [cut_to, List.map_append, List.take_left' (by simp)]
  have p1 : (M ^ (ts.length - 1)).natAbs < 2 ^ 300 := Mpow sM hM0 (Nat.le_succ_of_le n5)
  have p2 : (M ^ (ts.length + 1)).natAbs < 2 ^ 300 := Mpow sM hM0 n6
  have q1 := pow_ok sM (by decide) ((ts.length : Int) - 1) n1 n3
  have q2 := pow_ok sM (by decide) ((ts.length : Int) + 1) n2 n4
  have hz : (((ts.map (bndF M) ++ [bnd10 (sumX ts) M L1, bnd10 (-sumX ts) M L2]).map D.int)).length ≤ 2 ^ 20 := by simp only [List.length_map, List.length_append, List.length_cons, List.length_nil]; exact (len10 hl).1
  have hzA : (ts.map (ansF M)).length < 2 ^ 60 := by rw [List.length_map]; exact (len10 hl).2
  have hzB : (ts.map (bndF M)).length < 2 ^ 60 := by rw [List.length_map]; exact (len10 hl).2
  have sd1 : (iexp (sumX ts) M L1 * M ^ (ts.length - 1)).natAbs < 2 ^ 1000 := bigger 363 1000 (szmul a1 p1)
  have sd2 : (prodI M ts 1 * iexp (-sumX ts) M L2).natAbs < 2 ^ 1000 := bigger 463 1000 (szmul sp a2)
  have sb3 : (sumB M ts + bnd10 (sumX ts) M L1).natAbs < 2 ^ 100 := bigger 40 100 (bz40 sb0 sb1 n8 b1.1 b1.2)
  have sb4 : (sumB M ts + bnd10 (-sumX ts) M L2).natAbs < 2 ^ 100 := bigger 40 100 (bz40 sb0 sb1 n8 b2.1 b2.2)
  have m1 : IntMulOk (iexp (sumX ts) M L1) (M ^ (ts.length - 1)) := Sm.mul (.of _ a1) (.of _ p1)
  have m2 : IntMulOk (prodI M ts 1) (iexp (-sumX ts) M L2) := Sm.mul (.of _ sp) (.of _ a2)
  have c1 := G10.same (M := M) (ps := stepsOf ts L1 L2) (prodI M ts 1) (iexp (sumX ts) M L1 * M ^ (ts.length - 1)) (sumB M ts + bnd10 (sumX ts) M L1) (bigger 400 1000 sp) sd1 sb3 t1.1 t1.2
  have c2 := G10.same (M := M) (ps := stepsOf ts L1 L2) (prodI M ts 1 * iexp (-sumX ts) M L2) (M ^ (ts.length + 1)) (sumB M ts + bnd10 (-sumX ts) M L2) sd2 (bigger 300 1000 p2) sb4 t2.1 t2.2
  rw [eA, eB]
  obtain ⟨lA, hlA⟩ : ∃ lA : List D, lA = (ts.map (ansF M) ++ [iexp (sumX ts) M L1, iexp (-sumX ts) M L2]).map D.int := ⟨_, rfl⟩
  obtain ⟨lB, hlB⟩ : ∃ lB : List D, lB = (ts.map (bndF M) ++ [bnd10 (sumX ts) M L1, bnd10 (-sumX ts) M L2]).map D.int := ⟨_, rfl⟩
  have iA1 : ∀ P : D → Prop, P (.int (iexp (sumX ts) M L1)) → idxW (.list lA) (.int (-2)) P := fun P h => hlA ▸ (idx_end hzA).1 h
  have iA2 : ∀ P : D → Prop, P (.int (iexp (-sumX ts) M L2)) → idxW (.list lA) (.int (-1)) P := fun P h => hlA ▸ (idx_end hzA).2 h
  have iB1 : ∀ P : D → Prop, P (.int (bnd10 (sumX ts) M L1)) → idxW (.list lB) (.int (-2)) P := fun P h => hlB ▸ (idx_end hzB).1 h
  have iB2 : ∀ P : D → Prop, P (.int (bnd10 (-sumX ts) M L2)) → idxW (.list lB) (.int (-1)) P := fun P h => hlB ▸ (idx_end hzB).2 h
  rw [← hlB] at ecut hz
  rw [← hlA, ← hlB]
  have hsum : ∃ ns : List Int, (ts.map (bndF M)).map D.int = ns.map .int ∧ ns.sum = sumB M ts := ⟨ts.map (bndF M), rfl, sumB_sum M ts⟩
  have j1 : M ^ ((ts.length : Int) - 1).toNat = M ^ (ts.length - 1) := by rw [i1]
  have j2 : M ^ ((ts.length : Int) + 1).toNat = M ^ (ts.length + 1) := by rw [i2]
  generalize hlC : (ts.map (bndF M)).map D.int = lC at *
  generalize hprod : prodI M ts 1 = prod at *
  generalize iexp (sumX ts) M L1 = w1 at *
  generalize iexp (-sumX ts) M L2 = w2 at *
  generalize bnd10 (sumX ts) M L1 = v1 at *
  generalize bnd10 (-sumX ts) M L2 = v2 at *
  generalize hps : stepsOf ts L1 L2 = ps at *
  generalize sumB M ts = sB at *
  generalize M ^ (ts.length - 1) = pw1 at *
  generalize M ^ (ts.length + 1) = pw2 at *
  generalize hnn : (ts.length : Int) = nn at *
  clear n3 n4 n5 n6 n7 n8 t1 t2 az bz all hmem1 hmem2 eA eB hlA hlB hps hprod hzA hzB i1 i2 hnn a1 a2 sp p1 p2 sd1 sd2 sb3 sb4 sM hl hl1 sb0 sb1 b1 b2 h hlC
  obtain ⟨ns, hs1, hs2⟩ := hsum
  unfold s_law_2
  simp only [wlit, wbo, wvar, wbin, wneg, wnot, wcmp, wcmp2, wany, wite, wcall, wbi, wisI, wisB, wlst, wtup, widx, wslc, wand, wor, wnil, wcons, snil, worc, sopq, srais, sret, sset, sset2, saug, site, Mine.get, binW, cmpW, biW, truth, isBP, isIP, intP, Mine.ii, ibP, ilP, slP, tlP, lP, tP, Mine.l1, Mine.l2, Mine.l3, t2P, t3P, augW, Mine.onN, cutP, partP, E.isNil, List.isEmpty_nil, List.isEmpty_cons, List.set, ne_eq, reduceCtorEq, not_false_eq_true, true_and, and_true, if_true, if_false, Bool.false_eq_true, Option.some.injEq, exists_eq_left', Bool.not_true, Bool.not_false]
  rw [ecut]
  refine ⟨hz, ns, hs1, ?_⟩
  rw [hs2]
  refine iA1 _ ?_
  simp only [wlit, wbo, wvar, wbin, wneg, wnot, wcmp, wcmp2, wany, wite, wcall, wbi, wisI, wisB, wlst, wtup, widx, wslc, wand, wor, wnil, wcons, snil, worc, sopq, srais, sret, sset, sset2, saug, site, Mine.get, binW, cmpW, biW, truth, isBP, isIP, intP, Mine.ii, ibP, ilP, slP, tlP, lP, tP, Mine.l1, Mine.l2, Mine.l3, t2P, t3P, augW, Mine.onN, cutP, partP, E.isNil, List.isEmpty_nil, List.isEmpty_cons, List.set, ne_eq, reduceCtorEq, not_false_eq_true, true_and, and_true, if_true, if_false, Bool.false_eq_true, Option.some.injEq, exists_eq_left', Bool.not_true, Bool.not_false]
  refine ⟨_, .mm _, ?_⟩
  simp only [wlit, wbo, wvar, wbin, wneg, wnot, wcmp, wcmp2, wany, wite, wcall, wbi, wisI, wisB, wlst, wtup, widx, wslc, wand, wor, wnil, wcons, snil, worc, sopq, srais, sret, sset, sset2, saug, site, Mine.get, binW, cmpW, biW, truth, isBP, isIP, intP, Mine.ii, ibP, ilP, slP, tlP, lP, tP, Mine.l1, Mine.l2, Mine.l3, t2P, t3P, augW, Mine.onN, cutP, partP, E.isNil, List.isEmpty_nil, List.isEmpty_cons, List.set, ne_eq, reduceCtorEq, not_false_eq_true, true_and, and_true, if_true, if_false, Bool.false_eq_true, Option.some.injEq, exists_eq_left', Bool.not_true, Bool.not_false]
  rw [j1]
  refine ⟨n1, q1, m1, ?_⟩
  refine iB1 _ ?_
  simp only [wlit, wbo, wvar, wbin, wneg, wnot, wcmp, wcmp2, wany, wite, wcall, wbi, wisI, wisB, wlst, wtup, widx, wslc, wand, wor, wnil, wcons, snil, worc, sopq, srais, sret, sset, sset2, saug, site, Mine.get, binW, cmpW, biW, truth, isBP, isIP, intP, Mine.ii, ibP, ilP, slP, tlP, lP, tP, Mine.l1, Mine.l2, Mine.l3, t2P, t3P, augW, Mine.onN, cutP, partP, E.isNil, List.isEmpty_nil, List.isEmpty_cons, List.set, ne_eq, reduceCtorEq, not_false_eq_true, true_and, and_true, if_true, if_false, Bool.false_eq_true, Option.some.injEq, exists_eq_left', Bool.not_true, Bool.not_false]
  refine ⟨_, .mm _, _, c1, ?_⟩
  simp only [wlit, wbo, wvar, wbin, wneg, wnot, wcmp, wcmp2, wany, wite, wcall, wbi, wisI, wisB, wlst, wtup, widx, wslc, wand, wor, wnil, wcons, snil, worc, sopq, srais, sret, sset, sset2, saug, site, Mine.get, binW, cmpW, biW, truth, isBP, isIP, intP, Mine.ii, ibP, ilP, slP, tlP, lP, tP, Mine.l1, Mine.l2, Mine.l3, t2P, t3P, augW, Mine.onN, cutP, partP, E.isNil, List.isEmpty_nil, List.isEmpty_cons, List.set, ne_eq, reduceCtorEq, not_false_eq_true, true_and, and_true, if_true, if_false, Bool.false_eq_true, Option.some.injEq, exists_eq_left', Bool.not_true, Bool.not_false]
  refine iA2 _ ?_
  simp only [wlit, wbo, wvar, wbin, wneg, wnot, wcmp, wcmp2, wany, wite, wcall, wbi, wisI, wisB, wlst, wtup, widx, wslc, wand, wor, wnil, wcons, snil, worc, sopq, srais, sret, sset, sset2, saug, site, Mine.get, binW, cmpW, biW, truth, isBP, isIP, intP, Mine.ii, ibP, ilP, slP, tlP, lP, tP, Mine.l1, Mine.l2, Mine.l3, t2P, t3P, augW, Mine.onN, cutP, partP, E.isNil, List.isEmpty_nil, List.isEmpty_cons, List.set, ne_eq, reduceCtorEq, not_false_eq_true, true_and, and_true, if_true, if_false, Bool.false_eq_true, Option.some.injEq, exists_eq_left', Bool.not_true, Bool.not_false]
  refine ⟨m2, _, .mm _, ?_⟩
  simp only [wlit, wbo, wvar, wbin, wneg, wnot, wcmp, wcmp2, wany, wite, wcall, wbi, wisI, wisB, wlst, wtup, widx, wslc, wand, wor, wnil, wcons, snil, worc, sopq, srais, sret, sset, sset2, saug, site, Mine.get, binW, cmpW, biW, truth, isBP, isIP, intP, Mine.ii, ibP, ilP, slP, tlP, lP, tP, Mine.l1, Mine.l2, Mine.l3, t2P, t3P, augW, Mine.onN, cutP, partP, E.isNil, List.isEmpty_nil, List.isEmpty_cons, List.set, ne_eq, reduceCtorEq, not_false_eq_true, true_and, and_true, if_true, if_false, Bool.false_eq_true, Option.some.injEq, exists_eq_left', Bool.not_true, Bool.not_false]
  rw [j2]
  refine ⟨n2, q2, ?_⟩
  refine iB2 _ ?_
  simp only [wlit, wbo, wvar, wbin, wneg, wnot, wcmp, wcmp2, wany, wite, wcall, wbi, wisI, wisB, wlst, wtup, widx, wslc, wand, wor, wnil, wcons, snil, worc, sopq, srais, sret, sset, sset2, saug, site, Mine.get, binW, cmpW, biW, truth, isBP, isIP, intP, Mine.ii, ibP, ilP, slP, tlP, lP, tP, Mine.l1, Mine.l2, Mine.l3, t2P, t3P, augW, Mine.onN, cutP, partP, E.isNil, List.isEmpty_nil, List.isEmpty_cons, List.set, ne_eq, reduceCtorEq, not_false_eq_true, true_and, and_true, if_true, if_false, Bool.false_eq_true, Option.some.injEq, exists_eq_left', Bool.not_true, Bool.not_false]
  exact ⟨_, .mm _, _, c2, rfl⟩
noncomputable def J10 (d0 d1 d2 d3 d4 d7 d11 A B : D) (M : Int) (ts : List (Int × Int)) (k : Nat) (ρ : List D) : Prop := ∃ d6, ρ = [d0, d1, d2, d3, d4, A, d6, d7, B, .int (prodI M (ts.take k) 1), .int (ts.length : Int), d11]
theorem l10_rest {M : Int} {ts : List (Int × Int)} {L1 L2 : Int} {d0 d2 d3 d4 : D} (h : In10 M ts L1 L2) :
    wpS (G10 M (stepsOf ts L1 L2)) s_law [d0, .list ((stepsOf ts L1 L2).map dP), d2, d3, d4, .undef, .undef, .undef, .undef, .undef, .undef, .undef] (fun o _ => o = some (.bool true)) := by
  have hl := h.hl
  have hlen : ((stepsOf ts L1 L2).map dP).length = ts.length + 2 := by unfold stepsOf; simp
  have all := h.all
  have az : ∀ p ∈ stepsOf ts L1 L2, (ansF M p).natAbs < 2 ^ 63 := fun p hp => by
    obtain ⟨a, b, c⟩ := all p hp
    exact iexp_sz10 h.hM h.hM' b c a
  unfold s_law
  simp only [sopq]
  refine ⟨_, .answers _ rfl, _, .zip _ rfl rfl rfl rfl, _, .bounds _ rfl, ?_⟩
  simp only [wlit, wbo, wvar, wbin, wneg, wnot, wcmp, wcmp2, wany, wite, wcall, wbi, wisI, wisB, wlst, wtup, widx, wslc, wand, wor, wnil, wcons, snil, worc, sopq, srais, sret, sset, sset2, saug, site, Mine.get, binW, cmpW, biW, truth, isBP, isIP, intP, Mine.ii, ibP, ilP, slP, tlP, lP, tP, Mine.l1, Mine.l2, Mine.l3, t2P, t3P, augW, Mine.onN, cutP, partP, E.isNil, List.isEmpty_nil, List.isEmpty_cons, List.set, ne_eq, reduceCtorEq, not_false_eq_true, true_and, and_true, if_true, if_false, Bool.false_eq_true, Option.some.injEq, exists_eq_left', Bool.not_true, Bool.not_false]
  rw [hlen]
  refine ⟨by (first | (clear h all az; omega) | omega), by simp, ?_⟩
  have e2 : ((ts.length + 2 : Nat) : Int) - 2 = (ts.length : Int) := by (first | (clear h hl hlen all az; omega) | omega)
  rw [e2]
  unfold s_law_1
  refine forL_ok ((ts.map (ansF M)).map .int) ?_ (J10 d0 _ d2 d3 d4 .undef .undef _ _ M ts) ⟨_, rfl⟩ ?_ ?_
  · simp only [wlit, wbo, wvar, wbin, wneg, wnot, wcmp, wcmp2, wany, wite, wcall, wbi, wisI, wisB, wlst, wtup, widx, wslc, wand, wor, wnil, wcons, snil, worc, sopq, srais, sret, sset, sset2, saug, site, Mine.get, binW, cmpW, biW, truth, isBP, isIP, intP, Mine.ii, ibP, ilP, slP, tlP, lP, tP, Mine.l1, Mine.l2, Mine.l3, t2P, t3P, augW, Mine.onN, cutP, partP, E.isNil, List.isEmpty_nil, List.isEmpty_cons, List.set, ne_eq, reduceCtorEq, not_false_eq_true, true_and, and_true, if_true, if_false, Bool.false_eq_true, Option.some.injEq, exists_eq_left', Bool.not_true, Bool.not_false]
    refine ⟨by simp [stepsOf]; (first | (clear h all az e2; omega) | omega), ?_⟩
    rw [cut_to]
    unfold stepsOf
    rw [List.map_append, List.map_append, List.take_left' (by simp)]
  · rintro k x ρ hx ⟨d6, rfl⟩
    rw [List.map_map, List.getElem?_map] at hx
    have hk : k < ts.length := by
      refine Nat.not_le.mp fun hle => ?_
      rw [List.getElem?_eq_none hle] at hx; cases hx
    rw [List.getElem?_eq_getElem hk] at hx
    have hx' : x = .int (ansF M ts[k]) := (Option.some.inj hx).symm
    subst hx'
    have a1 := az ts[k] (by unfold stepsOf; exact List.mem_append_left _ (List.getElem_mem hk))
    have sp : (prodI M (ts.take k) 1).natAbs < 2 ^ 400 := by
      have h9 := prodI_sz (M := M) (k := 63) (ts.take k) 1 1 (fun t ht => az t (by unfold stepsOf; exact List.mem_append_left _ (List.mem_of_mem_take ht))) (by decide)
      refine Nat.lt_of_lt_of_le h9 (Nat.pow_le_pow_right (by decide) ?_)
      rw [List.length_take]; (first | (clear h all az e2 hx a1 h9; omega) | omega)
    unfold s_law_1b
    simp only [wlit, wbo, wvar, wbin, wneg, wnot, wcmp, wcmp2, wany, wite, wcall, wbi, wisI, wisB, wlst, wtup, widx, wslc, wand, wor, wnil, wcons, snil, worc, sopq, srais, sret, sset, sset2, saug, site, Mine.get, binW, cmpW, biW, truth, isBP, isIP, intP, Mine.ii, ibP, ilP, slP, tlP, lP, tP, Mine.l1, Mine.l2, Mine.l3, t2P, t3P, augW, Mine.onN, cutP, partP, E.isNil, List.isEmpty_nil, List.isEmpty_cons, List.set, ne_eq, reduceCtorEq, not_false_eq_true, true_and, and_true, if_true, if_false, Bool.false_eq_true, Option.some.injEq, exists_eq_left', Bool.not_true, Bool.not_false]
    refine ⟨Sm.mul (.of _ sp) (.of _ a1), ?_⟩
    have e : prodI M (ts.take k) 1 * ansF M ts[k] = prodI M (ts.take (k + 1)) 1 := by
      rw [List.take_succ_eq_append_getElem hk, prodI_snoc]; rfl
    rw [e]
    exact ⟨_, rfl⟩
  · rintro ρ ⟨d6, rfl⟩
    rw [List.length_map, List.length_map, List.take_length]
    exact l10_end h


noncomputable def dsComp : Expr → Option (Expr × List Comprehension × Scope)
  | .ListComp e g s _ => some (e, g, s)
  | _ => none
theorem iComp {ex : Expr} {t : Expr × List Comprehension × Scope} (h : dsComp ex = some t) : ∃ p, ex = .ListComp t.1 t.2.1 t.2.2 p := by
  cases ex <;> simp [dsComp] at h
  subst h; exact ⟨_, rfl⟩
noncomputable def us0 : Us := pl u_law
/-- one generator «for x, L in steps» -/
noncomputable def isGen (sc : Scope) (gens : List Comprehension) : Bool :=
  gens.length == 1 && gens.head?.any fun g => (dsTup g.target).any (fun es => es.length == 2 && es.head?.any (fun a => dsN a == some "x") && es.tail.head?.any fun b => dsN b == some "L") && g.ifs.isEmpty && g.is_async == 0 && notSet g.iter && chkE us0 n_law sc (.var 1) g.iter
theorem iGen {sc : Scope} {gens : List Comprehension} (h : isGen sc gens = true) : ∃ p1 p2 tk tp iter, gens = [⟨.Tuple [.Name "x" p1, .Name "L" p2] tk tp, iter, [], 0⟩] ∧ notSet iter = true ∧ chkE us0 n_law sc (.var 1) iter = true := by
  unfold isGen at h
  simp only [Bool.and_eq_true, Option.any_eq_true, beq_iff_eq, List.isEmpty_iff] at h
  obtain ⟨hl, g, hg, ⟨⟨⟨⟨es, hes, ⟨hl2, a, ha, hna⟩, b, hb, hnb⟩, hifs⟩, has⟩, hset⟩, hit⟩ := h
  rw [one_of hg hl]
  obtain ⟨k, p, ht⟩ := iTup hes
  obtain ⟨p1, rfl⟩ := iN hna
  obtain ⟨p2, rfl⟩ := iN hnb
  rw [two_of ha hb hl2] at ht
  obtain ⟨tg, it, ifs, as⟩ := g
  dsimp only at *
  subst ht hifs has
  exact ⟨_, _, _, _, _, rfl, hset, hit⟩
noncomputable def names1 : List (Str × NameKind) := [(".0", .local), ("x", .local), ("L", .local)]
noncomputable def namesF (f : Str) : List (Str × NameKind) := [(".0", .local), ("x", .local), ("L", .local), (f, .globalImplicit), ("M", .free)]
noncomputable def usC (f : Str) : Us := ⟨[.fn f], fun x ex => x == "M" && dsN ex == some "M", fun _ _ => false, fun _ _ => false, fun _ => True⟩
noncomputable def eF (f : Str) : E := .call f (.cons (.var 0) (.cons (.orc "M") (.cons (.var 1) .nil)))
noncomputable def env0 (sc : Scope) : Env := eOf default sc 0 (none, none) .none []
/-- [x for x, L in steps] -/
noncomputable def isComp1 (sc : Scope) (ex : Expr) : Bool := (dsComp ex).any fun t => isGen sc t.2.1 && t.2.2.kind == .function && t.2.2.names == names1 && chkE (pl []) ["x", "L"] (relabel t.2.2 (env0 sc)) (.var 0) t.1
/-- y = [f(x, M, L) for x, L in steps] -/
noncomputable def isCompF (f y : Str) (sc : Scope) (st : Stmt) : Bool :=
  (dsAsg1 st).any fun t => (dsN t.1) == some y && t.1.pos.line == t.2.pos.line && (dsComp t.2).any fun u => isGen sc u.2.1 && u.2.2.kind == .function && u.2.2.names == namesF f && chkE (usC f) ["x", "L"] (relabel u.2.2 (env0 sc)) (eF f) u.1
noncomputable def isZipS (us : Us) (sc : Scope) (st : Stmt) : Bool :=
  (dsFor st).any fun t => (dsTup t.1).any (fun es => es.length == 2 && es.head?.any (fun a => dsN a == some "told") && es.tail.head?.any fun b => dsN b == some "step") && t.2.2.2.isEmpty && (dsCall t.2.1).any (fun c => dsN c.1 == some "zip" && c.2.2.isEmpty && c.2.1.length == 2 && chkEs us n_law sc (.cons (.var 5) (.cons (.var 1) .nil)) c.2.1) && glb sc "zip" &&
    t.2.2.1.length == 1 && t.2.2.1.head?.any fun st => (dsIfS st).any fun u => u.2.2.isEmpty && chkE us n_law sc e_test10 u.1
noncomputable def oM (x : Str) (ex : Expr) : Bool := x == "M" && dsN ex == some "M"
noncomputable def usM : Us := ⟨u_law, oM, fun _ _ => false, fun _ _ => false, fun _ => True⟩
noncomputable def usH (sc : Scope) : Us := ⟨u_law, fun x ex => oM x ex || (x == "len" && chkE us0 n_law sc (.bi .len (.cons (.var 0) .nil)) ex) || (x == "comp1" && isComp1 sc ex), fun _ _ => false, fun _ _ => false, fun _ => True⟩
noncomputable def us10 (sc : Scope) : Us := ⟨u_law, oM, fun _ _ => false, fun x st => (x == "answers" && isCompF "_iexp" "answers" sc st) || (x == "bounds" && isCompF "_law_bound" "bounds" sc st) || (x == "zip" && isZipS usM sc st), fun _ => True⟩
inductive GC10 (M : Int) : Str → List D → D → Prop where
  | iexp (x L : Int) (hL : 3 ≤ L) (hL2 : L ≤ 10) (hx : 2 * (x.natAbs : Int) ≤ 15 * M) : GC10 M "_iexp" [.int x, .int M, .int L] (.int (iexp x M L))
  | bound (x L : Int) (hL : 3 ≤ L) (hL2 : L ≤ 10) (hx : 2 * (x.natAbs : Int) ≤ 15 * M) : GC10 M "_law_bound" [.int x, .int M, .int L] (.int (bnd10 x M L))
  | mm (ρ : List D) : GC10 M "M" ρ (.int M)
inductive GM (M : Int) : Str → List D → D → Prop where
  | mm (ρ : List D) : GM M "M" ρ (.int M)

section
variable {prog : Program} {w : World} {hB h₁ : Heap} {mg mb : Str → Option Value} {sc : Scope} {n : Nat} {name : Str} {L : Addr} {a : Option Addr} {cd : Value} {cs : List (Str × Addr)} {c : Addr} {M : Int} {tm : Tok}

theorem closureF {f : Str} {scope : Scope} {aa : Option Addr × Option Addr} (hn : scope.names = namesF f) (hc : cs.lookup ("M" : Str) = some c) : closureFor scope (eOf name sc L aa cd cs) = pure [(("M" : Str), c)] := by
  unfold closureFor
  rw [hn]
  simp [namesF, cellOf, eOf, hc]
theorem closure1 {scope : Scope} {aa : Option Addr × Option Addr} (hn : scope.names = names1) : closureFor scope (eOf name sc L aa cd cs) = pure [] := by
  unfold closureFor
  rw [hn]
  simp [names1]
theorem relabelF {f : Str} {scope : Scope} {aa : Option Addr × Option Addr} (hn : scope.names = namesF f) (hk : sc.kind = .function) (hls : sc.names.lookup ("M" : Str) = some .cell) : (relabel scope (eOf name sc L aa cd cs)).names = [((".0" : Str), NameKind.local), ("x", .local), ("L", .local), (f, .globalImplicit), ("M", .cell)] := by
  unfold relabel
  rw [hn]
  simp [namesF, eOf, Env.kindOf, hk, hls]

/-- a cell's name in the law's frame -/
theorem ldM {A : Around} {s : Shared} {ρ : List D} {N : List Str} {aa : Option Addr × Option Addr} {ex : Expr} (hk : sc.kind = .function) (hls : sc.names.lookup ("M" : Str) = some .cell) (hc : cs.lookup ("M" : Str) = some c) (hcL : c ≠ L) (hv : h₁.IsCell c (some (.int M tm))) (S : St h₁ L N ρ s)
    (hN : dsN ex = some "M") : wpAny (model prog w) A (eval ex (eOf name sc L aa cd cs)) (fun v s' => Keeps s s' ∧ RV s'.heap v (.int M)) Fls s := by
  obtain ⟨p, rfl⟩ := iN hN
  obtain ⟨m, F, R⟩ := S
  obtain ⟨o, ho, hd⟩ := hv
  exact cell_ld hk hls hc ⟨o, F.keep c o hcL ho, hd⟩ (by decide) ⟨kRefl s, .int _ _⟩
/-- an item of a comprehension over pairs, by the engine -/
theorem elt_ok2 {us : Us} {Γ : Str → List D → D → Prop} {scope : Scope} {cl : List (Str × Addr)} {C : Addr} {A : Around} {s s₃ : Shared} {m₃ : Str → Option Value} {k₁ k₂ : Int} {t₁ t₂ : Tok} {e : E} {elt : Expr} {r : D} {aa : Option Addr × Option Addr}
    (W : Wd hB mg mb us.l) (G : ∀ f ds r, us.l.contains (.fn f) = true → Γ f ds r → CallsTo prog w hB mg n f ds r) (hsk : scope.kind = .function) (hx : scope.names.lookup ("x" : Str) = some .local) (hy : scope.names.lookup ("L" : Str) = some .local)
    (hBs : Kp hB s.heap) (hC : s.heap.get? C = none) (hk3 : Kp s.heap s₃.heap) (hns : s₃.heap.Ns C m₃) (hm : m₃ ("x" : Str) = some (.int k₁ t₁)) (hm2 : m₃ ("L" : Str) = some (.int k₂ t₂)) (hA : AOk n A) (hut : us.t = fun _ _ => false) (hus : us.s = fun _ _ => false)
    (orc : ∀ y ρ r ex, Γ y ρ r → plainE ex = true → us.o y ex = true → ∀ (A : Around) (s' : Shared), AOk n A → St s₃.heap C ["x", "L"] ρ s' →
      wpAny (model prog w) A (eval ex (compEnvC scope cl C (eOf name sc L aa cd cs))) (fun v s'' => Keeps s' s'' ∧ RV s''.heap v r) Fls s')
    (hchk : chkE us ["x", "L"] (relabel scope (eOf name sc L aa cd cs)) e elt = true) (hw : wp Γ e [.int k₁, .int k₂] (fun d => d = r)) :
    wpAny (model prog w) A (eval elt (compEnvC scope cl C (eOf name sc L aa cd cs))) (fun y s₄ => Keeps s₃ s₄ ∧ RV s₄.heap y r) Fls s₃ := by
  rw [comp_eOf] at orc ⊢
  have Cc : Cx prog w hB s₃.heap mg mb us ["x", "L"] (relabel scope (eOf name sc L aa cd cs)) Γ n name C (none, aa.2) cd cl := by
    refine ⟨W, G, hsk, fun y hy' => ?_, by decide, fun b o e => ⟨fun hb => ?_, hk3 b o (hBs b o e)⟩, orc, fun _ _ _ _ _ h => ?_, fun _ _ _ _ _ h => ?_⟩
    · simp only [List.mem_cons, List.not_mem_nil, or_false] at hy'
      rcases hy' with rfl | rfl
      · exact ⟨lookup_relabel_local hx, by decide⟩
      · exact ⟨lookup_relabel_local hy, by decide⟩
    · subst hb; rw [hBs _ o e] at hC; cases hC
    · rw [hut] at h; cases h
    · rw [hus] at h; cases h
  have S : St s₃.heap C ["x", "L"] [.int k₁, .int k₂] s₃ := by
    refine ⟨m₃, ⟨hns, fun _ _ _ e => e⟩, fun i y d e1 e2 e3 => ?_⟩
    match i, e1, e2 with
    | 0, e1, e2 => cases e1; cases e2; exact ⟨_, hm, .int _ _⟩
    | 1, e1, e2 => cases e1; cases e2; exact ⟨_, hm2, .int _ _⟩
  rw [rw1] at hw
  refine wpAny_mono ((sound Cc e).val elt hchk A s₃ _ _ hA S hw) (fun v s' h' => ?_) fun _ _ x => x
  obtain ⟨k, d, rv, rfl⟩ := h'
  exact ⟨k, rv⟩
/-- the items f(x, M, L) -/
theorem items_ok {f : Str} {g : Int × Int → Int} {scope : Scope} {A : Around} {s : Shared} {ps : List (Int × Int)} {elt : Expr} (WC : Wd hB mg mb [.fn f]) (GC : ∀ ds r, GC10 M f ds r → CallsTo prog w hB mg n f ds r) (hf : f ≠ "M")
    (hg : ∀ p ∈ ps, GC10 M f [.int p.1, .int M, .int p.2] (.int (g p)))
    (hk : sc.kind = .function) (hls : sc.names.lookup ("M" : Str) = some .cell) (hcL : c ≠ L) (hv : h₁.IsCell c (some (.int M tm))) (hn : scope.names = namesF f) (hsk : scope.kind = .function) (hA : AOk n A) {N : List Str} {ρ : List D} (S : St h₁ L N ρ s) (hLB : ∀ b o, hB.get? b = some o → b ≠ L ∧ h₁.get? b = some o)
    (hchk : chkE (usC f) ["x", "L"] (relabel scope (env0 sc)) (eF f) elt = true) :
    ∀ (C : Addr) (s₃ : Shared) (m₃ : Str → Option Value) (p : Int × Int) (t₁ t₂ : Tok), p ∈ ps → s.heap.get? C = none → s₃.heap.Ns C m₃ → m₃ ("x" : Str) = some (.int p.1 t₁) → m₃ ("L" : Str) = some (.int p.2 t₂) → Kp s.heap s₃.heap →
      wpAny (model prog w) A (eval elt (compEnvC scope [(("M" : Str), c)] C (eOf name sc L (a, some L) cd cs))) (fun y s₄ => Keeps s₃ s₄ ∧ RV s₄.heap y (.int (g p))) Fls s₃ := by
  intro C s₃ m₃ p t₁ t₂ hp hC hns hm hm2 hk3
  obtain ⟨m, F, R⟩ := id S
  have hBs : Kp hB s.heap := fun b o e => F.keep b o (hLB b o e).1 (hLB b o e).2
  have e0 : relabel scope (env0 sc) = relabel scope (eOf name sc L (a, some L) cd cs) := rfl
  rw [e0] at hchk
  refine elt_ok2 (us := usC f) (Γ := GC10 M) (hB := hB) (n := n) (e := eF f) WC (fun f' ds r hf' h => ?_) hsk (by rw [hn]; rfl) (by rw [hn]; rfl) hBs hC hk3 hns hm hm2 hA rfl rfl ?_ hchk ?_
  · have : f' = f := by simpa [usC] using hf'
    subst this
    exact GC ds r h
  · intro y ρ r ex hr hpl ho A s' hA' S'
    simp only [usC, Bool.and_eq_true, beq_iff_eq] at ho
    obtain ⟨rfl, ho⟩ := ho
    generalize hx : ("M" : Str) = x1 at hr
    cases hr with
    | iexp => exact absurd hx (by decide)
    | bound => exact absurd hx (by decide)
    | mm _ =>
      rw [comp_eOf]
      obtain ⟨o, ho', hd⟩ := hv
      have hco : s.heap.get? c = some o := F.keep c o hcL ho'
      have hcC : c ≠ C := fun e => by subst e; rw [hco] at hC; cases hC
      obtain ⟨m', F', R'⟩ := id S'
      have hr4 := relabelF (name := name) (L := L) (aa := (a, some L)) (cd := cd) (cs := cs) hn hk hls
      obtain ⟨p, rfl⟩ := iN ho
      refine cell_ld hsk ?_ (by simp [List.lookup]) ⟨o, F'.keep c o hcC (hk3 c o hco), hd⟩ (by decide) ⟨kRefl s', .int _ _⟩
      rw [hr4]
      have hf' : (("M" : Str) == f) = false := beq_eq_false_iff_ne.mpr (Ne.symm hf)
      show List.lookup ("M" : Str) [((".0" : Str), NameKind.local), ("x", .local), ("L", .local), (f, .globalImplicit), ("M", .cell)] = some .cell
      simp only [List.lookup, hf']
      rfl
  · unfold eF
    simp only [wlit, wbo, wvar, wbin, wneg, wnot, wcmp, wcmp2, wany, wite, wcall, wbi, wisI, wisB, wlst, wtup, widx, wslc, wand, wor, wnil, wcons, snil, worc, sopq, srais, sret, sset, sset2, saug, site, Mine.get, binW, cmpW, biW, truth, isBP, isIP, intP, Mine.ii, ibP, ilP, slP, tlP, lP, tP, Mine.l1, Mine.l2, Mine.l3, t2P, t3P, augW, Mine.onN, cutP, partP, E.isNil, List.isEmpty_nil, List.isEmpty_cons, List.set, ne_eq, reduceCtorEq, not_false_eq_true, true_and, and_true, if_true, if_false, Bool.false_eq_true, Option.some.injEq, exists_eq_left', Bool.not_true, Bool.not_false]
    exact ⟨_, .mm _, _, hg p hp, rfl⟩
end


section
variable {prog : Program} {w : World} {hB h₁ : Heap} {mg mb : Str → Option Value} {sc : Scope} {n : Nat} {name : Str} {L : Addr} {a : Option Addr} {cd : Value} {cs : List (Str × Addr)} {c : Addr} {M : Int} {tm : Tok}
theorem get_of {ρ : List D} : ∀ {i : Nat} {d : D}, ρ[i]? = some d → get ρ i = d := by
  induction ρ with
  | nil => intro i d h; simp at h
  | cons a l ih =>
    intro i d h
    cases i with
    | zero => simp at h; exact h
    | succ i => simp at h; exact ih h
/-- what the law's surroundings are -/
structure Law10 (prog : Program) (w : World) (hB : Heap) (mg mb : Str → Option Value) (sc : Scope) (n : Nat) (L : Addr) (cs : List (Str × Addr)) (c : Addr) (M : Int) : Prop where
  W : Wd hB mg mb u_law
  W1 : Wd hB mg mb [.fn "_iexp"]
  W2 : Wd hB mg mb [.fn "_law_bound"]
  G1 : ∀ ds r, GC10 M "_iexp" ds r → CallsTo prog w hB mg n "_iexp" ds r
  G2 : ∀ ds r, GC10 M "_law_bound" ds r → CallsTo prog w hB mg n "_law_bound" ds r
  GS : ∀ ps ds r, G10 M ps "_law_same" ds r → CallsTo prog w hB mg n "_law_same" ds r
  hz : mg ("zip" : Str) = none ∧ mb ("zip" : Str) = some (.type "zip")
  hk : sc.kind = .function
  hloc : ∀ x ∈ n_law, sc.names.lookup x = some .local ∧ (x == ("__debug__" : Str)) = false
  hls : sc.names.lookup ("M" : Str) = some .cell
  hc : cs.lookup ("M" : Str) = some c
  hcL : c ≠ L
theorem Law10.g10 (X : Law10 prog w hB mg mb sc n L cs c M) (ps : List (Int × Int)) : ∀ f ds r, u_law.contains (.fn f) = true → G10 M ps f ds r → CallsTo prog w hB mg n f ds r := by
  intro f ds r hf h
  cases h with
  | same p due bd hp hd hb h1 h2 => exact X.GS ps _ _ (.same p due bd hp hd hb h1 h2)
  | mm => exact absurd hf (by decide)
  | answers => exact absurd hf (by decide)
  | bounds => exact absurd hf (by decide)
  | zip => exact absurd hf (by decide)
theorem Law10.cxM (X : Law10 prog w hB mg mb sc n L cs c M) (hLB : ∀ b o, hB.get? b = some o → b ≠ L ∧ h₁.get? b = some o) (hv : h₁.IsCell c (some (.int M tm))) : Cx prog w hB h₁ mg mb usM n_law sc (GM M) n name L (a, some L) cd cs := by
  refine ⟨X.W, fun f ds r hf h => ?_, X.hk, X.hloc, by decide, hLB, fun x ρ r ex hr hpl ho A s hA S => ?_, fun _ _ _ _ _ h => (by cases h), fun _ _ _ _ _ h => (by cases h)⟩
  · cases h; exact absurd hf (by decide)
  · simp only [usM, oM, Bool.and_eq_true, beq_iff_eq] at ho
    cases hr
    exact ldM X.hk X.hls X.hc X.hcL hv S ho.2
theorem Law10.cx0 (X : Law10 prog w hB mg mb sc n L cs c M) (hLB : ∀ b o, hB.get? b = some o → b ≠ L ∧ h₁.get? b = some o) : Cx prog w hB h₁ mg mb us0 n_law sc (fun _ _ _ => False) n name L (a, some L) cd cs :=
  ⟨X.W, fun _ _ _ _ h => h.elim, X.hk, X.hloc, by decide, hLB, fun _ _ _ _ h => h.elim, fun _ _ _ _ h => h.elim, fun _ _ _ _ h => h.elim⟩
/-- the list of steps, by its name -/
theorem steps_it {A : Around} {s : Shared} {ρ : List D} {ps : List (Int × Int)} {iter : Expr} (C0 : Cx prog w hB h₁ mg mb us0 n_law sc (fun _ _ _ => False) n name L (a, some L) cd cs) (hA : AOk n A) (S : St h₁ L n_law ρ s) (h : ρ[1]? = some (.list (ps.map dP)))
    (hc : chkE us0 n_law sc (.var 1) iter = true) : wpAny (model prog w) A (eval iter (eOf name sc L (a, some L) cd cs)) (fun v s₂ => Keeps s s₂ ∧ ∃ ad vs, v = .ref ad ∧ s₂.heap.IsList ad vs.toArray ∧ RVs s₂.heap vs (ps.map dP)) Fls s := by
  have hg : get ρ 1 = .list (ps.map dP) := get_of h
  have hw : wp0 (fun _ _ _ => False) (.var 1) ρ (fun d => d = .list (ps.map dP)) := by
    have : wp (fun _ _ _ => False) (.var 1) ρ (fun d => d = .list (ps.map dP)) := by rw [wvar, hg]; exact ⟨by simp, rfl⟩
    rwa [rw1] at this
  refine wpAny_mono ((sound C0 (.var 1)).val _ hc A s ρ _ hA S hw) (fun v s₂ h₂ => ?_) fun _ _ x => x
  obtain ⟨k, d, rv, rfl⟩ := h₂
  obtain ⟨ad, vs, rfl, hl, hr⟩ := rv.inv_list
  exact ⟨k, ad, vs, rfl, hl, hr⟩
/-- y = [f(x, M, L) for x, L in steps] -/
theorem Law10.asgF (X : Law10 prog w hB mg mb sc n L cs c M) (hLB : ∀ b o, hB.get? b = some o → b ≠ L ∧ h₁.get? b = some o) (hv : h₁.IsCell c (some (.int M tm))) {f y : Str} {g : Int × Int → Int} {i : Nat} {ps : List (Int × Int)} {A : Around} {s : Shared} {ρ : List D} {st : Stmt}
    (WC : Wd hB mg mb [.fn f]) (GC : ∀ ds r, GC10 M f ds r → CallsTo prog w hB mg n f ds r) (hf : f ≠ "M") (hg : ∀ p ∈ ps, GC10 M f [.int p.1, .int M, .int p.2] (.int (g p))) (hps : ps.length ≤ 1000) (hi : n_law[i]? = some y) (hy : (namesF f).any (fun z => z.1 == y && (z.2 == .local || z.2 == .cell)) = false)
    (hA : AOk n A) (S : St h₁ L n_law ρ s) (hs : ρ[1]? = some (.list (ps.map dP))) (ho : isCompF f y sc st = true) :
    wpAny (model prog w) A (exec st (eOf name sc L (a, some L) cd cs)) (fun fl s' => fl = .next ∧ Tr L s s' ∧ St h₁ L n_law (ρ.set i (.list ((ps.map g).map .int))) s') Fls s := by
  unfold isCompF at ho
  simp only [Option.any_eq_true, Bool.and_eq_true, beq_iff_eq] at ho
  obtain ⟨t, ht, ⟨hy1, hline⟩, u, hu, ⟨⟨hgen, hkd⟩, hnm⟩, hce⟩ := ho
  obtain ⟨p, rfl⟩ := iAsg1 ht
  obtain ⟨tg, v⟩ := t
  dsimp only at hy1 hline hu ⊢
  obtain ⟨py, rfl⟩ := iN hy1
  obtain ⟨pc, rfl⟩ := iComp hu
  obtain ⟨elt, gens, scope⟩ := u
  dsimp only at *
  obtain ⟨p1, p2, tk, tp, iter, rfl, hset, hit⟩ := iGen hgen
  have C0 := X.cx0 (h₁ := h₁) (name := name) (a := a) (cd := cd) hLB
  refine asg_pair C0 ps g hA S hi (beq_iff_eq.mpr hline) ?_ (closureF hnm X.hc) ?_ hkd ?_ ?_ ?_ (by decide) (notSet_fold hset) (by first | with_reducible assumption | with_reducible exact Int.le_of_lt (by assumption) | with_reducible exact Nat.le_of_lt (by assumption) | with_reducible exact qz1 (by assumption) | with_reducible exact qz2 (by assumption) | with_reducible exact qz3 (by assumption) | with_reducible exact qz4 (by assumption) | with_reducible exact qz5 (by assumption) | with_reducible exact qz6 (by assumption) | with_reducible exact qz7 (by assumption) | with_reducible exact qz8 (by assumption) | with_reducible exact qz9 (by assumption) | with_reducible exact qza (by assumption) | with_reducible exact qzb (by assumption) | with_reducible exact qzc | with_reducible exact qzd | with_reducible exact qze | (first | (clear X hLB hv WC GC hf hg hi hy hA S hs hy1 hce hnm hkd hgen hu hline ht hset hit C0; omega) | omega)) (steps_it C0 hA S hs hit) (items_ok WC GC hf hg X.hk X.hls X.hcL hv hnm hkd hA S hLB hce)
  · rw [hnm]; exact hy
  · rw [hnm]; intro z hz; simp [namesF] at hz; rcases hz with rfl | rfl | rfl | rfl | rfl <;> exact fun h => by cases h
  · rw [hnm]; intro z hz hzl; simp [namesF] at hz; rcases hz with rfl | rfl | rfl | rfl | rfl <;> first | rfl | (cases hzl)
  · rw [hnm]; rfl
  · rw [hnm]; rfl
/-- the surroundings behind the head -/
theorem Law10.cx (X : Law10 prog w hB mg mb sc n L cs c M) (hLB : ∀ b o, hB.get? b = some o → b ≠ L ∧ h₁.get? b = some o) (hv : h₁.IsCell c (some (.int M tm))) (hM : 10 ^ 9 ≤ M) {ps : List (Int × Int)} (hps : ps.length ≤ 1000) (hok : ∀ p ∈ ps, 2 * (p.1.natAbs : Int) ≤ 15 * M ∧ 3 ≤ p.2 ∧ p.2 ≤ 10) :
    Cx prog w hB h₁ mg mb (us10 sc) n_law sc (G10 M ps) n name L (a, some L) cd cs := by
  have CM := X.cxM (h₁ := h₁) (name := name) (a := a) (cd := cd) hLB hv
  refine ⟨X.W, X.g10 ps, X.hk, X.hloc, by decide, hLB, fun x ρ r ex hr hpl ho A s hA S => ?_, fun _ _ _ _ _ h => (by cases h), fun x ρ ρ' st hr ho A s hA _ S => ?_⟩
  · simp only [us10, oM, Bool.and_eq_true, beq_iff_eq] at ho
    obtain ⟨rfl, ho⟩ := ho
    generalize hx : ("M" : Str) = x1 at hr
    cases hr with
    | same => exact absurd hx (by decide)
    | answers => exact absurd hx (by decide)
    | bounds => exact absurd hx (by decide)
    | zip => exact absurd hx (by decide)
    | mm _ => exact ldM X.hk X.hls X.hc X.hcL hv S ho
  · simp only [us10, Bool.or_eq_true, Bool.and_eq_true, beq_iff_eq] at ho
    rcases ho with (⟨rfl, ho⟩ | ⟨rfl, ho⟩) | ⟨rfl, ho⟩
    · generalize hx : ("answers" : Str) = x1 at hr
      generalize hrr : D.list ρ' = rr at hr
      cases hr with
      | same => exact absurd hx (by decide)
      | mm => exact absurd hx (by decide)
      | bounds => exact absurd hx (by decide)
      | zip => exact absurd hx (by decide)
      | answers _ hs =>
        cases hrr
        exact X.asgF hLB hv (i := 5) X.W1 X.G1 (by decide) (fun p hp => by obtain ⟨q1, q2, q3⟩ := hok p hp; exact .iexp p.1 p.2 q2 q3 q1) hps rfl (by decide) hA S hs ho
    · generalize hx : ("bounds" : Str) = x1 at hr
      generalize hrr : D.list ρ' = rr at hr
      cases hr with
      | same => exact absurd hx (by decide)
      | mm => exact absurd hx (by decide)
      | answers => exact absurd hx (by decide)
      | zip => exact absurd hx (by decide)
      | bounds _ hs =>
        cases hrr
        exact X.asgF hLB hv (i := 8) X.W2 X.G2 (by decide) (fun p hp => by obtain ⟨q1, q2, q3⟩ := hok p hp; exact .bound p.1 p.2 q2 q3 q1) hps rfl (by decide) hA S hs ho
    · generalize hx : ("zip" : Str) = x1 at hr
      generalize hrr : D.list ρ' = rr at hr
      cases hr with
      | same => exact absurd hx (by decide)
      | mm => exact absurd hx (by decide)
      | answers => exact absurd hx (by decide)
      | bounds => exact absurd hx (by decide)
      | zip _ h1 h5 h6 h7 =>
        cases hrr
        unfold isZipS at ho
        simp only [Option.any_eq_true, Bool.and_eq_true, beq_iff_eq, List.isEmpty_iff] at ho
        obtain ⟨t, ht, ⟨⟨⟨⟨⟨es, hes, ⟨hl2, e1, he1, hn1⟩, e2, he2, hn2⟩, hels⟩, cc, hcc, ⟨⟨hzn, hkw⟩, hcl⟩, hce⟩, hg⟩, hbl⟩, st2, hst2, u, hu, hels2, hct⟩ := ho
        obtain ⟨pf, rfl⟩ := iFor ht
        obtain ⟨tg, itr, body, els⟩ := t
        dsimp only at *
        subst hels
        obtain ⟨tk, tp, rfl⟩ := iTup hes
        obtain ⟨q1, rfl⟩ := iN hn1
        obtain ⟨q2, rfl⟩ := iN hn2
        rw [two_of he1 he2 hl2]
        obtain ⟨pc, rfl⟩ := iCall hcc
        obtain ⟨fn, args, kws⟩ := cc
        dsimp only at *
        subst hkw
        obtain ⟨q3, rfl⟩ := iN hzn
        rw [one_of hst2 hbl]
        obtain ⟨pi, rfl⟩ := iIfS hu
        obtain ⟨tst, suite, els2⟩ := u
        dsimp only at *
        subst hels2
        obtain ⟨ea, ra, rfl, _, _, hca⟩ := inv_cons hce
        obtain ⟨eb, rb, rfl, _, _, hcb⟩ := inv_cons hca
        obtain rfl := inv_nil hcb
        have g5 : get ρ 5 = .list ((ps.map (ansF M)).map .int) := get_of h5
        have g1 : get ρ 1 = .list (ps.map dP) := get_of h1
        refine zip_ok CM (i := 6) (j := 7) (ds1 := (ps.map (ansF M)).map .int) (ds2 := ps.map dP) hA S rfl rfl (by decide) h6 h7 X.hz hg hce ?_ hct ?_
        · rw [wcons, wvar, g5]
          refine ⟨by simp, ?_⟩
          rw [wcons, wvar, g1]
          refine ⟨by simp, ?_⟩
          rw [wnil]
        · intro k d1 d2 hd1 hd2
          rw [List.map_map, List.getElem?_map] at hd1
          rw [List.getElem?_map] at hd2
          obtain ⟨p, hp⟩ : ∃ p, ps[k]? = some p := by
            cases e : ps[k]? with
            | none => rw [e] at hd2; cases hd2
            | some p => exact ⟨p, rfl⟩
          rw [hp] at hd1 hd2
          obtain rfl : d1 = .int (ansF M p) := (Option.some.inj hd1).symm
          obtain rfl : d2 = dP p := (Option.some.inj hd2).symm
          obtain ⟨o1, o2, o3⟩ := hok p (List.mem_of_getElem? hp)
          have hge := iexp_ge (x := p.1) (show 1000 ≤ M by first | with_reducible assumption | with_reducible exact Int.le_of_lt (by assumption) | with_reducible exact Nat.le_of_lt (by assumption) | with_reducible exact qz1 (by assumption) | with_reducible exact qz2 (by assumption) | with_reducible exact qz3 (by assumption) | with_reducible exact qz4 (by assumption) | with_reducible exact qz5 (by assumption) | with_reducible exact qz6 (by assumption) | with_reducible exact qz7 (by assumption) | with_reducible exact qz8 (by assumption) | with_reducible exact qz9 (by assumption) | with_reducible exact qza (by assumption) | with_reducible exact qzb (by assumption) | with_reducible exact qzc | with_reducible exact qzd | with_reducible exact qze | omega) (show 1 ≤ p.2 by first | with_reducible assumption | with_reducible exact Int.le_of_lt (by assumption) | with_reducible exact Nat.le_of_lt (by assumption) | with_reducible exact qz1 (by assumption) | with_reducible exact qz2 (by assumption) | with_reducible exact qz3 (by assumption) | with_reducible exact qz4 (by assumption) | with_reducible exact qz5 (by assumption) | with_reducible exact qz6 (by assumption) | with_reducible exact qz7 (by assumption) | with_reducible exact qz8 (by assumption) | with_reducible exact qz9 (by assumption) | with_reducible exact qza (by assumption) | with_reducible exact qzb (by assumption) | with_reducible exact qzc | with_reducible exact qzd | with_reducible exact qze | omega) (show p.2 ≤ 12 by first | with_reducible assumption | with_reducible exact Int.le_of_lt (by assumption) | with_reducible exact Nat.le_of_lt (by assumption) | with_reducible exact qz1 (by assumption) | with_reducible exact qz2 (by assumption) | with_reducible exact qz3 (by assumption) | with_reducible exact qz4 (by assumption) | with_reducible exact qz5 (by assumption) | with_reducible exact qz6 (by assumption) | with_reducible exact qz7 (by assumption) | with_reducible exact qz8 (by assumption) | with_reducible exact qz9 (by assumption) | with_reducible exact qza (by assumption) | with_reducible exact qzb (by assumption) | with_reducible exact qzc | with_reducible exact qzd | with_reducible exact qze | omega)
          have hlen6 : 6 < ρ.length := (List.getElem?_eq_some_iff.mp h6).1
          have hlen7 : 7 < ρ.length := (List.getElem?_eq_some_iff.mp h7).1
          have q6 : get ((ρ.set 6 (.int (ansF M p))).set 7 (dP p)) 6 = .int (ansF M p) := get_of (by rw [get_set_ne (by decide), List.getElem?_set_self hlen6])
          have q7 : get ((ρ.set 6 (.int (ansF M p))).set 7 (dP p)) 7 = dP p := get_of (by rw [List.getElem?_set_self (by rw [List.length_set]; exact hlen7)])
          unfold e_test10
          simp only [wany, wor, wisB, wisI, wnot, wcmp, wbin, wvar, widx, wlit, worc, q6, q7]
          simp only [isBP, isIP, ibP, truth, cmpW, binW, ii, intP, ilP, E.isNil, Bool.false_eq_true, if_false, if_true, Option.some.injEq, exists_eq_left', Bool.not_true, ne_eq, reduceCtorEq, not_false_eq_true, true_and]
          refine ⟨_, .mm _, ?_⟩
          refine ⟨by simp [dP], ?_⟩
          show idxW (dP p) (.int 0) _
          unfold dP idxW
          refine ⟨by decide, by decide, .int p.1, rfl, ?_⟩
          unfold ansF
          exact decide_eq_false (by first | with_reducible assumption | with_reducible exact Int.le_of_lt (by assumption) | with_reducible exact Nat.le_of_lt (by assumption) | with_reducible exact qz1 (by assumption) | with_reducible exact qz2 (by assumption) | with_reducible exact qz3 (by assumption) | with_reducible exact qz4 (by assumption) | with_reducible exact qz5 (by assumption) | with_reducible exact qz6 (by assumption) | with_reducible exact qz7 (by assumption) | with_reducible exact qz8 (by assumption) | with_reducible exact qz9 (by assumption) | with_reducible exact qza (by assumption) | with_reducible exact qzb (by assumption) | with_reducible exact qzc | with_reducible exact qzd | with_reducible exact qze | (first | (clear X hLB hv hM hps hok CM hA S hx h1 h5 h6 h7 hg hl2 hbl hes he1 hn1 he2 hn2 hzn hct hu hst2 hce hcl hcc ht hca hcb g5 g1 hp hd1 hd2 o1 o2 o3 hlen6 hlen7 q6 q7; omega) | omega))
end


/-! the steps -/
noncomputable def stepF (M v : Int) : Int × Int := (if v ≥ 0 then (v.natAbs : Int) * (M / 7 + 1) % (3 * M / 2) else -((v.natAbs : Int) * (M / 7 + 1) % (3 * M / 2)), 3 + (v.natAbs : Int) % 8)
noncomputable def drawn (ns : List Int) : List Int := [5, -3] ++ (ns.drop 1).take 3
noncomputable def tsOf (M : Int) (ns : List Int) : List (Int × Int) := (drawn ns).map (stepF M)
theorem stepF_ok {M v : Int} (hM : 10 ^ 9 ≤ M) : Okt M (stepF M v) := by
  have h0 : 0 ≤ (v.natAbs : Int) * (M / 7 + 1) % (3 * M / 2) := Int.emod_nonneg _ (by first | with_reducible assumption | with_reducible exact Int.le_of_lt (by assumption) | with_reducible exact Nat.le_of_lt (by assumption) | with_reducible exact qz1 (by assumption) | with_reducible exact qz2 (by assumption) | with_reducible exact qz3 (by assumption) | with_reducible exact qz4 (by assumption) | with_reducible exact qz5 (by assumption) | with_reducible exact qz6 (by assumption) | with_reducible exact qz7 (by assumption) | with_reducible exact qz8 (by assumption) | with_reducible exact qz9 (by assumption) | with_reducible exact qza (by assumption) | with_reducible exact qzb (by assumption) | with_reducible exact qzc | with_reducible exact qzd | with_reducible exact qze | omega)
  have h1 : (v.natAbs : Int) * (M / 7 + 1) % (3 * M / 2) < 3 * M / 2 := Int.emod_lt_of_pos _ (by first | with_reducible assumption | with_reducible exact Int.le_of_lt (by assumption) | with_reducible exact Nat.le_of_lt (by assumption) | with_reducible exact qz1 (by assumption) | with_reducible exact qz2 (by assumption) | with_reducible exact qz3 (by assumption) | with_reducible exact qz4 (by assumption) | with_reducible exact qz5 (by assumption) | with_reducible exact qz6 (by assumption) | with_reducible exact qz7 (by assumption) | with_reducible exact qz8 (by assumption) | with_reducible exact qz9 (by assumption) | with_reducible exact qza (by assumption) | with_reducible exact qzb (by assumption) | with_reducible exact qzc | with_reducible exact qzd | with_reducible exact qze | (first | (clear h0; omega) | omega))
  unfold Okt stepF
  generalize (v.natAbs : Int) * (M / 7 + 1) % (3 * M / 2) = r at *
  dsimp only
  refine ⟨?_, by (first | (clear hM h0 h1; omega) | omega), by (first | (clear hM h0 h1; omega) | omega)⟩
  split <;> (first | (clear hM; omega) | omega)
theorem sumX_le {M : Int} : ∀ ts : List (Int × Int), (∀ t ∈ ts, Okt M t) → 2 * ((sumX ts).natAbs : Int) ≤ 3 * M * ts.length
  | [], _ => by show 2 * (((0 : Int)).natAbs : Int) ≤ 3 * M * ((0 : Nat) : Int); simp
  | t :: ts, h => by
    obtain ⟨x1, _, _⟩ := h t (List.mem_cons_self ..)
    have ih := sumX_le ts fun u hu => h u (List.mem_cons_of_mem _ hu)
    show 2 * ((t.1 + sumX ts).natAbs : Int) ≤ 3 * M * ((ts.length + 1 : Nat) : Int)
    have e : 3 * M * ((ts.length + 1 : Nat) : Int) = 3 * M * (ts.length : Int) + 3 * M := by rw [Int.natCast_add]; (first | (clear h x1 ih; grind) | grind)
    (first | (clear h; omega) | omega)
theorem sumX_sum : ∀ ts : List (Int × Int), (ts.map (fun p => p.1)).sum = sumX ts
  | [] => rfl
  | t :: ts => by
    rw [List.map_cons, List.sum_cons, sumX_sum ts]; rfl
theorem in10 {M : Int} {ns : List Int} (hM : 10 ^ 9 ≤ M) (hM' : M < 10 ^ 13) : In10 M (tsOf M ns) (3 + (ns.length : Int) % 8) (3 + ((ns.length : Int) + 5) % 8) := by
  have hok : ∀ t ∈ tsOf M ns, Okt M t := fun t ht => by
    obtain ⟨v, _, rfl⟩ := List.mem_map.mp ht
    exact stepF_ok hM
  have hlen : (tsOf M ns).length = 2 + min 3 (ns.length - 1) := by unfold tsOf drawn; simp; (first | (clear hM hM' hok; omega) | omega)
  have hs := sumX_le (tsOf M ns) hok
  refine ⟨hM, hM', hok, by (first | (clear hM hM' hok hs; omega) | omega), by (first | (clear hM hM' hok hs; omega) | omega), by (first | (clear hM hM' hok hlen hs; omega) | omega), by (first | (clear hM hM' hok hlen hs; omega) | omega), by (first | (clear hM hM' hok hlen hs; omega) | omega), by (first | (clear hM hM' hok hlen hs; omega) | omega), ?_⟩
  have h5 : 3 * M * ((tsOf M ns).length : Int) ≤ 3 * M * 5 := Int.mul_le_mul_of_nonneg_left (by first | with_reducible assumption | with_reducible exact Int.le_of_lt (by assumption) | with_reducible exact Nat.le_of_lt (by assumption) | with_reducible exact qz1 (by assumption) | with_reducible exact qz2 (by assumption) | with_reducible exact qz3 (by assumption) | with_reducible exact qz4 (by assumption) | with_reducible exact qz5 (by assumption) | with_reducible exact qz6 (by assumption) | with_reducible exact qz7 (by assumption) | with_reducible exact qz8 (by assumption) | with_reducible exact qz9 (by assumption) | with_reducible exact qza (by assumption) | with_reducible exact qzb (by assumption) | with_reducible exact qzc | with_reducible exact qzd | with_reducible exact qze | (first | (clear hM hM' hok hs; omega) | omega)) (by first | with_reducible assumption | with_reducible exact Int.le_of_lt (by assumption) | with_reducible exact Nat.le_of_lt (by assumption) | with_reducible exact qz1 (by assumption) | with_reducible exact qz2 (by assumption) | with_reducible exact qz3 (by assumption) | with_reducible exact qz4 (by assumption) | with_reducible exact qz5 (by assumption) | with_reducible exact qz6 (by assumption) | with_reducible exact qz7 (by assumption) | with_reducible exact qz8 (by assumption) | with_reducible exact qz9 (by assumption) | with_reducible exact qza (by assumption) | with_reducible exact qzb (by assumption) | with_reducible exact qzc | with_reducible exact qzd | with_reducible exact qze | (first | (clear hok hlen hs; omega) | omega))
  (first | (clear hM hM' hok hlen; omega) | omega)
theorem draw10 {Γ : Str → List D → D → Prop} (ns : List Int) (hl : ns.length ≤ 63) (ρ : List D) : wp Γ e_draw10 (.list (ns.map .int) :: ρ) (fun d => ∃ M, d = .int M ∧ 10 ^ 9 ≤ M ∧ M < 10 ^ 13) := by
  have e9 : (10 : Int) ^ (9 : Int).toNat = 10 ^ 9 := rfl
  have e12 : (10 : Int) ^ (12 : Int).toNat = 10 ^ 12 := rfl
  unfold e_draw10
  refine if_script hl (fun h => ?_) fun h => ?_
  · rw [wbin, wbin, wlit, wlit]
    simp only [binW, ii, intP]
    rw [e9]
    refine ⟨by decide, b10_le 9 (by decide) (by decide), ?_⟩
    refine draw_mod (c := 10 ^ 12) hl (by decide) (by have := List.length_pos_iff.mpr h; (first | (clear e9 e12 h; omega) | omega)) (by decide) (fun P' hP => ?_) fun v h1 h2 => ?_
    · simp only [wlit, wbo, wvar, wbin, wneg, wnot, wcmp, wcmp2, wany, wite, wcall, wbi, wisI, wisB, wlst, wtup, widx, wslc, wand, wor, wnil, wcons, snil, worc, sopq, srais, sret, sset, sset2, saug, site, Mine.get, binW, cmpW, biW, truth, isBP, isIP, intP, Mine.ii, ibP, ilP, slP, tlP, lP, tP, Mine.l1, Mine.l2, Mine.l3, t2P, t3P, augW, Mine.onN, cutP, partP, E.isNil, List.isEmpty_nil, List.isEmpty_cons, List.set, ne_eq, reduceCtorEq, not_false_eq_true, true_and, and_true, if_true, if_false, Bool.false_eq_true, Option.some.injEq, exists_eq_left', Bool.not_true, Bool.not_false]
      rw [e12]
      exact ⟨by decide, b10_le 12 (by decide) (by decide), hP⟩
    · exact ⟨_, rfl, by (first | (clear hl e9 e12 h; omega) | omega), by (first | (clear hl e9 e12 h; omega) | omega)⟩
  · rw [wbin, wlit, wlit]
    simp only [binW, ii, intP]
    rw [e9]
    exact ⟨by decide, b10_le 9 (by decide) (by decide), _, rfl, by decide, by decide⟩

/-! the head -/
noncomputable def eL10 : E := .lst (.cons (.lit 5) (.cons (.neg (.lit 3)) .nil))
noncomputable def eR10 : E := .bi .list (.cons (.slc (.var 0) (.lit 1) (.lit 4)) .nil)
noncomputable def eX10 : E := .bin .Mod (.bin .Mult (.bi .abs (.cons (.var 2) .nil)) (.bin .Add (.bin .FloorDiv (.orc "M") (.lit 7)) (.lit 1))) (.bin .FloorDiv (.bin .Mult (.lit 3) (.orc "M")) (.lit 2))
noncomputable def eStep10 : E := .tup (.cons (.ite (.cmp .GtE (.var 2) (.lit 0)) (.var 3) (.neg (.var 3))) (.cons (.bin .Add (.lit 3) (.bin .Mod (.bi .abs (.cons (.var 2) .nil)) (.lit 8))) .nil))
noncomputable def eWhole10 : E := .bi .sum (.cons (.orc "comp1") .nil)
noncomputable def eS5 : E := .tup (.cons (.var 4) (.cons (.bin .Add (.lit 3) (.bin .Mod (.orc "len") (.lit 8))) .nil))
noncomputable def eS6 : E := .tup (.cons (.neg (.var 4)) (.cons (.bin .Add (.lit 3) (.bin .Mod (.bin .Add (.orc "len") (.lit 5)) (.lit 8))) .nil))
noncomputable def isApp (us : Us) (sc : Scope) (e : E) (st : Stmt) : Bool := (dsApp st).any fun t => t.1 == ("steps" : Str) && chkE us n_law sc e t.2
noncomputable def isFor10 (sc : Scope) (st : Stmt) : Bool :=
  (dsFor st).any fun u => dsN u.1 == some "v" && notSet u.2.1 && u.2.2.2.isEmpty && (dsBin u.2.1).any (fun b => b.2.1 == .Add && chkE us0 n_law sc eL10 b.1 && chkE us0 n_law sc eR10 b.2.2) && u.2.2.1.length == 2 && u.2.2.1.head?.any (fun st => chkS (usH sc) n_law sc (.set 3 eX10 .nil) [st]) && u.2.2.1.tail.head?.any (isApp (usH sc) sc eStep10)
noncomputable def chkLaw10 (sc : Scope) (body : List Stmt) : Bool :=
  body.head?.any (fun st => (dsAsg1 st).any fun t => dsN t.1 == some "M" && noComp t.2 && chkE us0 n_law sc e_draw10 t.2) &&
  body.tail.head?.any (fun st => (dsAsg1 st).any fun t => dsN t.1 == some "steps" && noComp t.2 && chkE us0 n_law sc (.lst .nil) t.2) &&
  body.tail.tail.head?.any (isFor10 sc) &&
  body.tail.tail.tail.head?.any (fun st => chkS (usH sc) n_law sc (.set 4 eWhole10 .nil) [st]) &&
  body.tail.tail.tail.tail.head?.any (isApp (usH sc) sc eS5) && body.tail.tail.tail.tail.tail.head?.any (isApp (usH sc) sc eS6) && chkS (us10 sc) n_law sc s_law body.tail.tail.tail.tail.tail.tail
inductive GH (M : Int) (k : Nat) (xs : Option (List Int)) (l o : Addr) : Str → List D → D → Prop where
  | mm (ρ : List D) : GH M k xs l o "M" ρ (.int M)
  | len (ρ : List D) (h : ρ[0]? = some (.obj l)) : GH M k xs l o "len" ρ (.int (k : Int))
  | comp1 (ρ : List D) (h : ρ[1]? = some (.obj o)) (ys : List Int) (hx : xs = some ys) : GH M k xs l o "comp1" ρ (.list (ys.map .int))

section
variable {prog : Program} {w : World} {hB h₁ : Heap} {mg mb : Str → Option Value} {sc : Scope} {n : Nat} {name : Str} {L : Addr} {a : Option Addr} {cd : Value} {cs : List (Str × Addr)} {c : Addr} {M : Int} {tm : Tok}
/-- the head's surroundings -/
theorem Law10.cxH (X : Law10 prog w hB mg mb sc n L cs c M) (hLB : ∀ b o, hB.get? b = some o → b ≠ L ∧ h₁.get? b = some o) (hv : h₁.IsCell c (some (.int M tm))) {l o : Addr} {vs : List Value} {ns : List Int} (hl : h₁.IsList l vs.toArray) (hlL : l ≠ L) (hoL : o ≠ L) (hvs : IntsAre vs ns) (hlen : ns.length ≤ 63) (hLs : ∀ ob, h₁.get? L = some ob → ∀ items q, ob.data ≠ .seq items q)
    (xs : Option (List Int)) (hx : ∀ ys, xs = some ys → ∃ (ps : List (Int × Int)) (its : List Value), ys = ps.map (fun p => p.1) ∧ ps.length ≤ 1000 ∧ h₁.IsList o its.toArray ∧ RVs h₁ its (ps.map dP)) : Cx prog w hB h₁ mg mb (usH sc) n_law sc (GH M ns.length xs l o) n name L (a, some L) cd cs := by
  have C0 := X.cx0 (h₁ := h₁) (name := name) (a := a) (cd := cd) hLB
  refine ⟨X.W, fun f ds r hf h => ?_, X.hk, X.hloc, by decide, hLB, fun x ρ r ex hr hpl ho A s hA S => ?_, fun _ _ _ _ _ h => (by cases h), fun _ _ _ _ _ h => (by cases h)⟩
  · have hf : u_law.contains (.fn f) = true := hf
    cases h <;> exact absurd hf (by decide)
  · simp only [usH, oM, Bool.or_eq_true, Bool.and_eq_true, beq_iff_eq] at ho
    rcases ho with (⟨rfl, ho⟩ | ⟨rfl, ho⟩) | ⟨rfl, ho⟩
    · generalize hq : ("M" : Str) = x1 at hr
      cases hr with
      | len => exact absurd hq (by decide)
      | comp1 => exact absurd hq (by decide)
      | mm _ => exact ldM X.hk X.hls X.hc X.hcL hv S ho
    · generalize hq : ("len" : Str) = x1 at hr
      cases hr with
      | mm => exact absurd hq (by decide)
      | comp1 => exact absurd hq (by decide)
      | len _ h0 =>
        obtain ⟨m, F, _⟩ := id S
        have hls : s.heap.IsList l vs.toArray := hl.at fun o e => F.keep l o hlL e
        have S' := S.swap h0 hls (ints_rv (h := s.heap) hvs)
        have hw : wp0 (fun _ _ _ => False) (.bi .len (.cons (.var 0) .nil)) (ρ.set 0 (.list (ns.map .int))) (fun d => d = .int (ns.length : Int)) := by
          have : wp (fun _ _ _ => False) (.bi .len (.cons (.var 0) .nil)) (ρ.set 0 (.list (ns.map .int))) (fun d => d = .int (ns.length : Int)) := by
            have hg : get (ρ.set 0 (.list (ns.map .int))) 0 = .list (ns.map .int) := get_of (List.getElem?_set_self (List.getElem?_eq_some_iff.mp h0).1)
            rw [wbi, wcons, wvar, hg]
            refine ⟨by simp, ?_⟩
            rw [wnil]
            simp only [biW, l1, slP, List.isEmpty_nil, if_true, List.length_map]
            exact ⟨by (first | (clear X hLB hv hl hlL hoL hvs hLs hx C0 hpl hA S ho hq h0 F hls S' hg; omega) | omega), trivial⟩
          rwa [rw1] at this
        refine wpAny_mono ((sound C0 _).val _ ho A s _ _ hA S' hw) (fun v s' h' => ?_) fun _ _ x => x
        obtain ⟨k, d, rv, rfl⟩ := h'
        exact ⟨k, rv⟩
    · generalize hq : ("comp1" : Str) = x1 at hr
      cases hr with
      | mm => exact absurd hq (by decide)
      | len => exact absurd hq (by decide)
      | comp1 _ h1 ys hxs =>
        obtain ⟨ps, its, rfl, hps, hlo, hro⟩ := hx ys hxs
        obtain ⟨m, F, _⟩ := id S
        have kp : ∀ b o', b ≠ L → h₁.get? b = some o' → s.heap.get? b = some o' := F.keep
        have hlo' : s.heap.IsList o its.toArray := hlo.at fun o' e => kp o o' hoL e
        have hns0 := F.ns
        have hro' : RVs s.heap its (ps.map dP) := hro.keep fun b o' items q e hd => kp b o' (fun hb => by subst hb; exact hLs _ e _ _ hd) e
        have S' := S.swap h1 hlo' hro'
        unfold isComp1 at ho
        simp only [Option.any_eq_true, Bool.and_eq_true, beq_iff_eq] at ho
        obtain ⟨u, hu, ⟨⟨hgen, hkd⟩, hnm⟩, hce⟩ := ho
        obtain ⟨pc, rfl⟩ := iComp hu
        obtain ⟨elt, gens, scope⟩ := u
        dsimp only at *
        obtain ⟨p1, p2, tk, tp, iter, rfl, hset, hit⟩ := iGen hgen
        have hBs : Kp hB s.heap := fun b o' e => F.keep b o' (hLB b o' e).1 (hLB b o' e).2
        refine comp_pair ps (fun p => p.1) hA.1 (closure1 hnm) ?_ hkd ?_ ?_ ?_ (by decide) (notSet_fold hset) (by first | with_reducible assumption | with_reducible exact Int.le_of_lt (by assumption) | with_reducible exact Nat.le_of_lt (by assumption) | with_reducible exact qz1 (by assumption) | with_reducible exact qz2 (by assumption) | with_reducible exact qz3 (by assumption) | with_reducible exact qz4 (by assumption) | with_reducible exact qz5 (by assumption) | with_reducible exact qz6 (by assumption) | with_reducible exact qz7 (by assumption) | with_reducible exact qz8 (by assumption) | with_reducible exact qz9 (by assumption) | with_reducible exact qza (by assumption) | with_reducible exact qzb (by assumption) | with_reducible exact qzc | with_reducible exact qzd | with_reducible exact qze | (first | (clear X hLB hv hl hlL hoL hvs hlen hLs hx C0 hA S hq h1 hxs hlo hro F kp hlo' hns0 hro' S' hce hnm hkd hgen hpl hu hset hit hBs; omega) | omega)) (steps_it C0 hA S' (List.getElem?_set_self (List.getElem?_eq_some_iff.mp h1).1) hit) ?_
        · rw [hnm]; intro z hz; simp [names1] at hz; rcases hz with rfl | rfl | rfl <;> exact fun h => by cases h
        · rw [hnm]; intro z hz hzl; simp [names1] at hz; rcases hz with rfl | rfl | rfl <;> rfl
        · rw [hnm]; rfl
        · rw [hnm]; rfl
        · intro C s₃ m₃ p t₁ t₂ _ hC hns hm hm2 hk3
          have e0 : relabel scope (env0 sc) = relabel scope (eOf name sc L (a, some L) cd cs) := rfl
          rw [e0] at hce
          refine elt_ok2 (us := pl []) (Γ := fun _ _ _ => False) (hB := hB) (n := n) (mg := mg) (mb := mb) (e := .var 0) ⟨X.W.g, X.W.b, X.W.nl, fun _ h => (by cases h), fun _ h => (by cases h)⟩ (fun _ _ _ _ h => h.elim) hkd (by rw [hnm]; rfl) (by rw [hnm]; rfl) hBs hC hk3 hns hm hm2 hA rfl rfl (fun _ _ _ _ h => h.elim) hce ?_
          rw [wvar]
          exact ⟨by simp, rfl⟩
end


theorem wS_nil {Γ : Str → List D → D → Prop} {ρ : List D} {i : Nat} {e : E} {d : D} (h : wp Γ e ρ (fun x => x = d)) : wpS0 Γ (.set i e .nil) ρ (fun o ρ' => o = none ∧ ρ' = ρ.set i d) := by
  have : wpS Γ (.set i e .nil) ρ (fun o ρ' => o = none ∧ ρ' = ρ.set i d) := by
    rw [sset]
    refine wp_mono' h fun x hx => ?_
    subst hx
    rw [snil]
    exact ⟨rfl, rfl⟩
  rwa [rw5] at this
section
variable {prog : Program} {w : World} {hB h₁ : Heap} {mg mb : Str → Option Value} {sc : Scope} {n : Nat} {name : Str} {L : Addr} {a : Option Addr} {cd : Value} {cs : List (Str × Addr)} {c : Addr} {M : Int} {tm : Tok}
theorem St.rebase {h₀ : Heap} {N : List Str} {ρ ρ' : List D} {s s' : Shared} (S : St h₀ L N ρ s) (S' : St s.heap L N ρ' s') : St h₀ L N ρ' s' := by
  obtain ⟨m, F, _⟩ := S
  obtain ⟨m', F', R'⟩ := S'
  exact ⟨m', ⟨F'.ns, fun b o hb e => F'.keep b o hb (F.keep b o hb e)⟩, R'⟩
/-- one statement y = e by the engine -/
theorem set_ok {us : Us} {N : List Str} {Γ : Str → List D → D → Prop} {h₀ : Heap} {aa : Option Addr × Option Addr} (C : Cx prog w hB h₀ mg mb us N sc Γ n name L aa cd cs) {A : Around} {s : Shared} {ρ : List D} {i : Nat} {e : E} {d : D} {body : List Stmt} {Q : Flow → Shared → Prop}
    (hA : AOk n A) (hK : us.k A) (S : St h₀ L N ρ s) (hc : chkS us N sc (.set i e .nil) body = true) (hw : wp Γ e ρ (fun x => x = d)) (go : ∀ s', St h₀ L N (ρ.set i d) s' → Tr L s s' → Q .next s') :
    wpAny (model prog w) A (execs body (eOf name sc L aa cd cs)) Q Fls s := by
  refine wpAny_mono (soundS C _ body hc A s ρ _ ⟨hA, hK⟩ S (wS_nil hw)) (fun f s' h => ?_) fun _ _ x => x
  obtain ⟨t, o, ρ', S', hf, rfl, rfl⟩ := h
  cases f with
  | next => exact go s' S' t
  | ret v => exact hf.elim
  | brk => exact hf.elim
  | cont => exact hf.elim

/-- the row of a turn of the for loop -/
theorem stepX {k : Nat} {xs : Option (List Int)} {l o l' o' : Addr} {v : Int} (hM : 10 ^ 9 ≤ M) (hM' : M < 10 ^ 13) {d3 : D} {r : List D} :
    wp (GH M k xs l' o') eX10 (.obj l :: .obj o :: .int v :: d3 :: r) (fun d => d = .int ((v.natAbs : Int) * (M / 7 + 1) % (3 * M / 2))) := by
  have e1 : M.fdiv 7 = M / 7 := Int.fdiv_eq_ediv_of_nonneg _ (by decide)
  have e2 : (3 * M).fdiv 2 = 3 * M / 2 := Int.fdiv_eq_ediv_of_nonneg _ (by decide)
  have e3 : ∀ z : Int, z.fmod (3 * M / 2) = z % (3 * M / 2) := fun z => Int.fmod_eq_emod_of_nonneg _ (by first | with_reducible assumption | with_reducible exact Int.le_of_lt (by assumption) | with_reducible exact Nat.le_of_lt (by assumption) | with_reducible exact qz1 (by assumption) | with_reducible exact qz2 (by assumption) | with_reducible exact qz3 (by assumption) | with_reducible exact qz4 (by assumption) | with_reducible exact qz5 (by assumption) | with_reducible exact qz6 (by assumption) | with_reducible exact qz7 (by assumption) | with_reducible exact qz8 (by assumption) | with_reducible exact qz9 (by assumption) | with_reducible exact qza (by assumption) | with_reducible exact qzb (by assumption) | with_reducible exact qzc | with_reducible exact qzd | with_reducible exact qze | (first | (clear e1 e2; omega) | omega))
  have hs : (M / 7 + 1).natAbs < 2 ^ 50 := by (first | (clear e1 e2 e3; omega) | omega)
  have hmul : IntMulOk (v.natAbs : Int) (M / 7 + 1) := IntMulOk.of_right (Nat.le_trans (intBits_le hs) (by decide))
  unfold eX10
  simp only [wlit, wbo, wvar, wbin, wneg, wnot, wcmp, wcmp2, wany, wite, wcall, wbi, wisI, wisB, wlst, wtup, widx, wslc, wand, wor, wnil, wcons, snil, worc, sopq, srais, sret, sset, sset2, saug, site, Mine.get, binW, cmpW, biW, truth, isBP, isIP, intP, Mine.ii, ibP, ilP, slP, tlP, lP, tP, Mine.l1, Mine.l2, Mine.l3, t2P, t3P, augW, Mine.onN, cutP, partP, E.isNil, List.isEmpty_nil, List.isEmpty_cons, List.set, ne_eq, reduceCtorEq, not_false_eq_true, true_and, and_true, if_true, if_false, Bool.false_eq_true, Option.some.injEq, exists_eq_left', Bool.not_true, Bool.not_false]
  rw [abs_if]
  refine ⟨_, .mm _, ?_⟩
  simp only [wlit, wbo, wvar, wbin, wneg, wnot, wcmp, wcmp2, wany, wite, wcall, wbi, wisI, wisB, wlst, wtup, widx, wslc, wand, wor, wnil, wcons, snil, worc, sopq, srais, sret, sset, sset2, saug, site, Mine.get, binW, cmpW, biW, truth, isBP, isIP, intP, Mine.ii, ibP, ilP, slP, tlP, lP, tP, Mine.l1, Mine.l2, Mine.l3, t2P, t3P, augW, Mine.onN, cutP, partP, E.isNil, List.isEmpty_nil, List.isEmpty_cons, List.set, ne_eq, reduceCtorEq, not_false_eq_true, true_and, and_true, if_true, if_false, Bool.false_eq_true, Option.some.injEq, exists_eq_left', Bool.not_true, Bool.not_false]
  rw [e1]
  refine ⟨by decide, by decide, hmul, _, .mm _, ?_⟩
  simp only [wlit, wbo, wvar, wbin, wneg, wnot, wcmp, wcmp2, wany, wite, wcall, wbi, wisI, wisB, wlst, wtup, widx, wslc, wand, wor, wnil, wcons, snil, worc, sopq, srais, sret, sset, sset2, saug, site, Mine.get, binW, cmpW, biW, truth, isBP, isIP, intP, Mine.ii, ibP, ilP, slP, tlP, lP, tP, Mine.l1, Mine.l2, Mine.l3, t2P, t3P, augW, Mine.onN, cutP, partP, E.isNil, List.isEmpty_nil, List.isEmpty_cons, List.set, ne_eq, reduceCtorEq, not_false_eq_true, true_and, and_true, if_true, if_false, Bool.false_eq_true, Option.some.injEq, exists_eq_left', Bool.not_true, Bool.not_false]
  rw [e2, e3]
  exact ⟨.of_left (by decide), by decide, by decide, by (first | (clear e1 e2 e3 hs hmul; omega) | omega), rfl⟩
theorem stepT {k : Nat} {xs : Option (List Int)} {l o l' o' : Addr} {v r : Int} {rr : List D} :
    wp (GH M k xs l' o') eStep10 (.obj l :: .obj o :: .int v :: .int r :: rr) (fun d => d = dP (if v ≥ 0 then r else -r, 3 + (v.natAbs : Int) % 8)) := by
  have e3 : ∀ z : Int, z.fmod 8 = z % 8 := fun z => Int.fmod_eq_emod_of_nonneg _ (by decide)
  unfold eStep10
  simp only [wlit, wbo, wvar, wbin, wneg, wnot, wcmp, wcmp2, wany, wite, wcall, wbi, wisI, wisB, wlst, wtup, widx, wslc, wand, wor, wnil, wcons, snil, worc, sopq, srais, sret, sset, sset2, saug, site, Mine.get, binW, cmpW, biW, truth, isBP, isIP, intP, Mine.ii, ibP, ilP, slP, tlP, lP, tP, Mine.l1, Mine.l2, Mine.l3, t2P, t3P, augW, Mine.onN, cutP, partP, E.isNil, List.isEmpty_nil, List.isEmpty_cons, List.set, ne_eq, reduceCtorEq, not_false_eq_true, true_and, and_true, if_true, if_false, Bool.false_eq_true, Option.some.injEq, exists_eq_left', Bool.not_true, Bool.not_false]
  by_cases h : v ≥ 0
  · rw [if_pos (by simpa using h), abs_if, e3]
    refine ⟨by decide, by simp, ?_⟩
    unfold dP
    rw [if_pos h]
  · rw [if_neg (by simpa using h), abs_if, e3]
    refine ⟨by decide, by simp, ?_⟩
    unfold dP
    rw [if_neg h]
theorem iter10 {Γ : Str → List D → D → Prop} (ns : List Int) (hl : ns.length ≤ 63) (r : List D) : wp Γ eL10 (.list (ns.map .int) :: r) (fun d => d = .list (([5, -3] : List Int).map .int)) ∧ wp Γ eR10 (.list (ns.map .int) :: r) (fun d => d = .list (((ns.drop 1).take 3).map .int)) := by
  have e : cut (ns.map D.int) (some 1) (some 4) = ((ns.drop 1).take 3).map D.int := by
    rw [show (1 : Int) = ((1 : Nat) : Int) from rfl, show (4 : Int) = ((4 : Nat) : Int) from rfl, cut_both _ _ _ (by decide), List.map_take, List.map_drop]
  constructor
  · unfold eL10
    simp only [wlit, wbo, wvar, wbin, wneg, wnot, wcmp, wcmp2, wany, wite, wcall, wbi, wisI, wisB, wlst, wtup, widx, wslc, wand, wor, wnil, wcons, snil, worc, sopq, srais, sret, sset, sset2, saug, site, Mine.get, binW, cmpW, biW, truth, isBP, isIP, intP, Mine.ii, ibP, ilP, slP, tlP, lP, tP, Mine.l1, Mine.l2, Mine.l3, t2P, t3P, augW, Mine.onN, cutP, partP, E.isNil, List.isEmpty_nil, List.isEmpty_cons, List.set, ne_eq, reduceCtorEq, not_false_eq_true, true_and, and_true, if_true, if_false, Bool.false_eq_true, Option.some.injEq, exists_eq_left', Bool.not_true, Bool.not_false]
    simp
  · unfold eR10
    simp only [wlit, wbo, wvar, wbin, wneg, wnot, wcmp, wcmp2, wany, wite, wcall, wbi, wisI, wisB, wlst, wtup, widx, wslc, wand, wor, wnil, wcons, snil, worc, sopq, srais, sret, sset, sset2, saug, site, Mine.get, binW, cmpW, biW, truth, isBP, isIP, intP, Mine.ii, ibP, ilP, slP, tlP, lP, tP, Mine.l1, Mine.l2, Mine.l3, t2P, t3P, augW, Mine.onN, cutP, partP, E.isNil, List.isEmpty_nil, List.isEmpty_cons, List.set, ne_eq, reduceCtorEq, not_false_eq_true, true_and, and_true, if_true, if_false, Bool.false_eq_true, Option.some.injEq, exists_eq_left', Bool.not_true, Bool.not_false]
    rw [e]
    refine ⟨by simp; (first | (clear e; omega) | omega), by simp; (first | (clear hl e; omega) | omega)⟩

noncomputable def Sh (s s' : Shared) : Prop := ∃ h' tk, s' = { s with heap := h', toks := tk }
theorem Sh.trans {s s' s'' : Shared} (x : Sh s s') (y : Sh s' s'') : Sh s s'' := by
  obtain ⟨h1, t1, rfl⟩ := x
  obtain ⟨h2, t2, rfl⟩ := y
  exact ⟨h2, t2, rfl⟩
theorem keeps_sh {s s' : Shared} (k : Keeps s s') : Sh s s' := by obtain ⟨h, t, rfl, _⟩ := k; exact ⟨h, t, rfl⟩
theorem tr_sh {s s' : Shared} (k : Tr L s s') : Sh s s' := by obtain ⟨h, t, rfl, _⟩ := k; exact ⟨h, t, rfl⟩
theorem tr2_sh {o : Addr} {s s' : Shared} (k : Tr2 L o s s') : Sh s s' := by obtain ⟨h, t, rfl, _⟩ := k; exact ⟨h, t, rfl⟩
theorem fl_of (l o : Addr) {d2 d3 d4 : D} (h2 : Fl d2) (h3 : Fl d3) (h4 : Fl d4) : ∀ d ∈ (D.obj l :: .obj o :: d2 :: d3 :: d4 :: List.replicate 7 .undef : List D), Fl d := by
  intro d hd
  simp only [List.mem_cons, List.mem_replicate] at hd
  rcases hd with rfl | rfl | rfl | rfl | rfl | ⟨_, rfl⟩
  · exact .inr (.inr ⟨_, rfl⟩)
  · exact .inr (.inr ⟨_, rfl⟩)
  · exact h2
  · exact h3
  · exact h4
  · exact .inl rfl
theorem fl_int (i : Int) : Fl (.int i) := .inr (.inl (.int i))
theorem iAppS {us : Us} {e : E} {st : Stmt} (h : isApp us sc e st = true) : ∃ py apos pos epos elt, st = .Expr (.Call (.Attribute (.Name "steps" py) "append" apos) [elt] [] pos) epos ∧ (apos.endLine == pos.line) = true ∧ notStarred elt = true ∧ chkE us n_law sc e elt = true := by
  unfold isApp at h
  simp only [Option.any_eq_true, Bool.and_eq_true, beq_iff_eq] at h
  obtain ⟨t, ht, h1, h2⟩ := h
  obtain ⟨py, apos, pos, epos, rfl, hl, hn⟩ := iApp ht
  obtain ⟨y, elt⟩ := t
  dsimp only at *
  subst h1
  exact ⟨py, apos, pos, epos, elt, rfl, hl, hn, h2⟩
/-- the for loop that draws the steps -/
theorem for10 (X : Law10 prog w hB mg mb sc n L cs c M) (hM : 10 ^ 9 ≤ M) (hM' : M < 10 ^ 13) (hLB : ∀ b o, hB.get? b = some o → b ≠ L ∧ h₁.get? b = some o) (hv : h₁.IsCell c (some (.int M tm))) {l o : Addr} {vs : List Value} {ns : List Int} (hl : h₁.IsList l vs.toArray) (hlL : l ≠ L) (hi : IntsAre vs ns) (hlen : ns.length ≤ 63)
    (hLs : ∀ ob, h₁.get? L = some ob → ∀ items q, ob.data ≠ .seq items q) {A : Around} {s : Shared} {st : Stmt} (hA : AOk n A) (hc : isFor10 sc st = true)
    (X₄ : OwnSt h₁ L n_law 1 o (.obj l :: .obj o :: .undef :: .undef :: .undef :: List.replicate 7 .undef) [] s) :
    wpAny (model prog w) A (exec st (eOf name sc L (a, some L) cd cs)) (fun f s' => f = .next ∧ Tr2 L o s s' ∧ ∃ d2 d3, OwnSt h₁ L n_law 1 o (.obj l :: .obj o :: d2 :: d3 :: .undef :: List.replicate 7 .undef) ((tsOf M ns).map dP) s') Fls s := by
  have C0 := X.cx0 (h₁ := h₁) (name := name) (a := a) (cd := cd) hLB
  have CH := X.cxH (h₁ := h₁) (name := name) (a := a) (cd := cd) hLB hv (l := l) (o := l) hl hlL hlL hi hlen hLs none (fun _ h => by cases h)
  unfold isFor10 at hc
  simp only [Option.any_eq_true, Bool.and_eq_true, beq_iff_eq, List.isEmpty_iff] at hc
  obtain ⟨u, hu, ⟨⟨⟨⟨⟨hv1, hset⟩, hels⟩, b, hb, ⟨hop, cL⟩, cR⟩, hbl⟩, sa, hsa, ca⟩, sb, hsb, cb⟩ := hc
  obtain ⟨pf, rfl⟩ := iFor hu
  obtain ⟨tg, iter, body, els⟩ := u
  dsimp only at *
  subst hels
  obtain ⟨pv, rfl⟩ := iN hv1
  obtain ⟨pb, rfl⟩ := iBin hb
  obtain ⟨el, op, er⟩ := b
  dsimp only at hop cL cR ⊢
  subst hop
  rw [two_of hsa hsb hbl]
  obtain ⟨py, apos, pos, epos, elt, rfl, hline, hns, ce⟩ := iAppS cb
  refine wpAny_mono (for_own C0 (j := 2) (x := "v") ((drawn ns).map .int) hA X₄ rfl (by decide) hset (fun d hd => by obtain ⟨v, _, rfl⟩ := List.mem_map.mp hd; exact .int v) ?_
    (fun k ρ acc => ∃ d2 d3, ρ = (.obj l :: .obj o :: d2 :: d3 :: .undef :: List.replicate 7 .undef) ∧ acc = (((drawn ns).take k).map (stepF M)).map dP) ⟨_, _, rfl, rfl⟩ ?_) (fun f s' h => ?_) fun _ _ x => x
  · -- what it goes through
    obtain ⟨m, F, _⟩ := id X₄.st
    have hls : s.heap.IsList l vs.toArray := hl.at fun o e => F.keep l o hlL e
    have S' := X₄.st.swap (i := 0) rfl hls (ints_rv (h := s.heap) hi)
    obtain ⟨wL, wR⟩ := iter10 (Γ := fun _ _ _ => False) ns hlen (.obj o :: .undef :: .undef :: .undef :: List.replicate 7 .undef)
    rw [rw1] at wL wR
    refine wpAny_BinOp (wpAny_mono ((sound C0 eL10).val _ cL A s _ _ hA S' wL) (fun v1 s₃ h₃ => ?_) fun _ _ x => x)
    obtain ⟨k3, d, rv1, rfl⟩ := h₃
    refine wpAny_mono ((sound C0 eR10).val _ cR A s₃ _ _ hA (S'.keeps k3) wR) (fun v2 s₄ h₄ => ?_) fun _ _ x => x
    obtain ⟨k4, d, rv2, rfl⟩ := h₄
    obtain ⟨a1, vs1, rfl, il1, hv1⟩ := (rv1.keep (kSeq k4)).inv_list
    obtain ⟨a2, vs2, rfl, il2, hv2⟩ := rv2.inv_list
    have z1 := hv1.1
    have z2 := hv2.1
    rw [List.length_map] at z1 z2
    have z3 : ((ns.drop 1).take 3).length ≤ 3 := by simp; (first | (clear X hM hM' hLB hv hl hlL hi hlen hLs hA X₄ C0 CH ca hbl hsa cR cL hset hb hu cb hsb hline hns ce F hls S' wL wR k3 k4 rv1 il1 hv1 rv2 il2 hv2 z1 z2; omega) | omega)
    have z4 : ([5, -3] : List Int).length = 2 := rfl
    refine add_new il1 il2 (by first | with_reducible assumption | with_reducible exact Int.le_of_lt (by assumption) | with_reducible exact Nat.le_of_lt (by assumption) | with_reducible exact qz1 (by assumption) | with_reducible exact qz2 (by assumption) | with_reducible exact qz3 (by assumption) | with_reducible exact qz4 (by assumption) | with_reducible exact qz5 (by assumption) | with_reducible exact qz6 (by assumption) | with_reducible exact qz7 (by assumption) | with_reducible exact qz8 (by assumption) | with_reducible exact qz9 (by assumption) | with_reducible exact qza (by assumption) | with_reducible exact qzb (by assumption) | with_reducible exact qzc | with_reducible exact qzd | with_reducible exact qze | (first | (clear X hM hM' hLB hv hl hlL hi hlen hLs hA X₄ C0 CH ca hbl hsa cR cL hset hb hu cb hsb hline hns ce F hls S' wL wR k3 k4 rv1 il1 hv1 rv2 il2 hv2; omega) | omega)) fun h₅ k5 fr5 pl5 => ?_
    have kk5 : Keeps s₄ { s₄ with heap := h₅ } := ⟨h₅, s₄.toks, rfl, k5⟩
    refine ⟨kTrans (kTrans k3 k4) kk5, _, _, rfl, fresh_of (kTrans k3 k4), pl5.isList, ?_⟩
    unfold drawn
    rw [List.map_append]
    exact (hv1.append hv2).keep (SeqK.of k5)
  · -- a turn
    rintro k d ρ' acc' s₆ hd ⟨d2, d3, rfl, rfl⟩ X₆
    rw [List.getElem?_map] at hd
    have hk : k < (drawn ns).length := by
      refine Nat.not_le.mp fun hle => ?_
      rw [List.getElem?_eq_none hle] at hd; cases hd
    rw [List.getElem?_eq_getElem hk] at hd
    obtain rfl : d = .int (drawn ns)[k] := (Option.some.inj hd).symm
    generalize hvk : (drawn ns)[k] = v at *
    have hd3 : Fl d3 := X₆.fl d3 (by simp)
    show wpAny (model prog w) A (execs ([sa] ++ [_]) _) _ _ _
    refine execs_app (set_ok CH hA trivial X₆.st ca (stepX hM hM') fun s₇ S₇ t₇ => ?_)
    have X₇ := X₆.step S₇ t₇ rfl (fl_of l o (fl_int v) (fl_int _) (.inl rfl))
    refine wpAny_execs_cons (app_own CH hA X₇ (y := "steps") rfl ce hns hline stepT (dP_noL _) (by rw [List.length_map, List.length_map, List.length_take]; unfold drawn; simp; (first | (clear X hM hM' hLB hv hl hlL hi hlen hLs hA X₄ C0 CH ca hbl hsa hv1 cR cL hset hb hu cb hsb hline hns ce hvk X₆ hd hd3 S₇ t₇ X₇; omega) | omega)) fun s₈ X₈ t₈ => wpAny_execs_nil ?_)
    refine ⟨rfl, (t₇.two o).trans t₈, _, _, X₈, .int v, _, rfl, ?_⟩
    have e : (drawn ns).take (k + 1) = (drawn ns).take k ++ [v] := by rw [← hvk]; exact List.take_succ_eq_append_getElem hk
    rw [e, List.map_append, List.map_append]
    rfl
  · obtain ⟨rfl, t, ρ', acc', X₅, d2, d3, rfl, rfl⟩ := h
    rw [List.length_map, List.take_length] at X₅
    exact ⟨rfl, t, d2, d3, X₅⟩
theorem whole10 {k : Nat} {l o : Addr} {ts : List (Int × Int)} {d2 d3 d4 : D} {r : List D} : wp (GH M k (some (ts.map fun p => p.1)) l o) eWhole10 (.obj l :: .obj o :: d2 :: d3 :: d4 :: r) (fun d => d = .int (sumX ts)) := by
  unfold eWhole10
  simp only [wlit, wbo, wvar, wbin, wneg, wnot, wcmp, wcmp2, wany, wite, wcall, wbi, wisI, wisB, wlst, wtup, widx, wslc, wand, wor, wnil, wcons, snil, worc, sopq, srais, sret, sset, sset2, saug, site, Mine.get, binW, cmpW, biW, truth, isBP, isIP, intP, Mine.ii, ibP, ilP, slP, tlP, lP, tP, Mine.l1, Mine.l2, Mine.l3, t2P, t3P, augW, Mine.onN, cutP, partP, E.isNil, List.isEmpty_nil, List.isEmpty_cons, List.set, ne_eq, reduceCtorEq, not_false_eq_true, true_and, and_true, if_true, if_false, Bool.false_eq_true, Option.some.injEq, exists_eq_left', Bool.not_true, Bool.not_false]
  refine ⟨_, .comp1 _ rfl _ rfl, ?_⟩
  simp only [wlit, wbo, wvar, wbin, wneg, wnot, wcmp, wcmp2, wany, wite, wcall, wbi, wisI, wisB, wlst, wtup, widx, wslc, wand, wor, wnil, wcons, snil, worc, sopq, srais, sret, sset, sset2, saug, site, Mine.get, binW, cmpW, biW, truth, isBP, isIP, intP, Mine.ii, ibP, ilP, slP, tlP, lP, tP, Mine.l1, Mine.l2, Mine.l3, t2P, t3P, augW, Mine.onN, cutP, partP, E.isNil, List.isEmpty_nil, List.isEmpty_cons, List.set, ne_eq, reduceCtorEq, not_false_eq_true, true_and, and_true, if_true, if_false, Bool.false_eq_true, Option.some.injEq, exists_eq_left', Bool.not_true, Bool.not_false]
  exact ⟨_, rfl, by rw [sumX_sum]⟩
theorem s56 {k : Nat} {xs : Option (List Int)} {l o : Addr} {wh : Int} {d1 d2 d3 : D} {r : List D} : wp (GH M k xs l o) eS5 (.obj l :: d1 :: d2 :: d3 :: .int wh :: r) (fun d => d = dP (wh, 3 + (k : Int) % 8)) ∧ wp (GH M k xs l o) eS6 (.obj l :: d1 :: d2 :: d3 :: .int wh :: r) (fun d => d = dP (-wh, 3 + ((k : Int) + 5) % 8)) := by
  have e3 : ∀ z : Int, z.fmod 8 = z % 8 := fun z => Int.fmod_eq_emod_of_nonneg _ (by decide)
  constructor
  · unfold eS5
    simp only [wlit, wbo, wvar, wbin, wneg, wnot, wcmp, wcmp2, wany, wite, wcall, wbi, wisI, wisB, wlst, wtup, widx, wslc, wand, wor, wnil, wcons, snil, worc, sopq, srais, sret, sset, sset2, saug, site, Mine.get, binW, cmpW, biW, truth, isBP, isIP, intP, Mine.ii, ibP, ilP, slP, tlP, lP, tP, Mine.l1, Mine.l2, Mine.l3, t2P, t3P, augW, Mine.onN, cutP, partP, E.isNil, List.isEmpty_nil, List.isEmpty_cons, List.set, ne_eq, reduceCtorEq, not_false_eq_true, true_and, and_true, if_true, if_false, Bool.false_eq_true, Option.some.injEq, exists_eq_left', Bool.not_true, Bool.not_false]
    refine ⟨_, .len _ rfl, ?_⟩
    simp only [wlit, wbo, wvar, wbin, wneg, wnot, wcmp, wcmp2, wany, wite, wcall, wbi, wisI, wisB, wlst, wtup, widx, wslc, wand, wor, wnil, wcons, snil, worc, sopq, srais, sret, sset, sset2, saug, site, Mine.get, binW, cmpW, biW, truth, isBP, isIP, intP, Mine.ii, ibP, ilP, slP, tlP, lP, tP, Mine.l1, Mine.l2, Mine.l3, t2P, t3P, augW, Mine.onN, cutP, partP, E.isNil, List.isEmpty_nil, List.isEmpty_cons, List.set, ne_eq, reduceCtorEq, not_false_eq_true, true_and, and_true, if_true, if_false, Bool.false_eq_true, Option.some.injEq, exists_eq_left', Bool.not_true, Bool.not_false]
    rw [e3]
    exact ⟨by decide, by simp, rfl⟩
  · unfold eS6
    simp only [wlit, wbo, wvar, wbin, wneg, wnot, wcmp, wcmp2, wany, wite, wcall, wbi, wisI, wisB, wlst, wtup, widx, wslc, wand, wor, wnil, wcons, snil, worc, sopq, srais, sret, sset, sset2, saug, site, Mine.get, binW, cmpW, biW, truth, isBP, isIP, intP, Mine.ii, ibP, ilP, slP, tlP, lP, tP, Mine.l1, Mine.l2, Mine.l3, t2P, t3P, augW, Mine.onN, cutP, partP, E.isNil, List.isEmpty_nil, List.isEmpty_cons, List.set, ne_eq, reduceCtorEq, not_false_eq_true, true_and, and_true, if_true, if_false, Bool.false_eq_true, Option.some.injEq, exists_eq_left', Bool.not_true, Bool.not_false]
    refine ⟨_, .len _ rfl, ?_⟩
    simp only [wlit, wbo, wvar, wbin, wneg, wnot, wcmp, wcmp2, wany, wite, wcall, wbi, wisI, wisB, wlst, wtup, widx, wslc, wand, wor, wnil, wcons, snil, worc, sopq, srais, sret, sset, sset2, saug, site, Mine.get, binW, cmpW, biW, truth, isBP, isIP, intP, Mine.ii, ibP, ilP, slP, tlP, lP, tP, Mine.l1, Mine.l2, Mine.l3, t2P, t3P, augW, Mine.onN, cutP, partP, E.isNil, List.isEmpty_nil, List.isEmpty_cons, List.set, ne_eq, reduceCtorEq, not_false_eq_true, true_and, and_true, if_true, if_false, Bool.false_eq_true, Option.some.injEq, exists_eq_left', Bool.not_true, Bool.not_false]
    rw [e3]
    exact ⟨by decide, by simp, rfl⟩
end

/-- the law's surroundings take no part in the check -/
theorem law10 {prog : Program} {w : World} {hB h₁ : Heap} {mg mb : Str → Option Value} {sc : Scope} {n : Nat} {name : Str} {L a : Addr} {cd : Value} {A : Around} {l : Addr} {vs : List Value} {ns : List Int} {m : Str → Option Value} {body : List Stmt} {s : Shared}
    (W : Wd hB mg mb u_law) (W1 : Wd hB mg mb [.fn "_iexp"]) (W2 : Wd hB mg mb [.fn "_law_bound"])
    (G1 : ∀ M, 10 ^ 9 ≤ M → M < 10 ^ 13 → ∀ ds r, GC10 M "_iexp" ds r → CallsTo prog w hB mg n "_iexp" ds r) (G2 : ∀ M, 10 ^ 9 ≤ M → M < 10 ^ 13 → ∀ ds r, GC10 M "_law_bound" ds r → CallsTo prog w hB mg n "_law_bound" ds r)
    (GS : ∀ M, 10 ^ 9 ≤ M → M < 10 ^ 13 → ∀ ps ds r, G10 M ps "_law_same" ds r → CallsTo prog w hB mg n "_law_same" ds r) (hz : mg ("zip" : Str) = none ∧ mb ("zip" : Str) = some (.type "zip"))
    (hk : (sc.kind == .function && n_law.all (fun x => sc.names.lookup x == some .local && x != "__debug__") && sc.names.lookup ("M" : Str) == some .cell) = true) (hchk : chkLaw10 sc body = true)
    (F : Fr hB L h₁ m) (hm : m ("script" : Str) = some (.ref l)) {ob : Obj} (X : News hB L h₁ [(L + 1, ob)]) (hob : ob.data = .cell none) (hcc : (cellsFrom (L + 1) sc.names []).lookup ("M" : Str) = some (L + 1)) (hl : hB.IsList l vs.toArray) (hi : IntsAre vs ns) (hA : AOk n A) (hs : s.heap = h₁) (hlen : ns.length ≤ 63) :
    wpAny (model prog w) A (execs body (envOfC name sc L a cd)) (fun f s' => f = .ret (.bool true) ∧ ∃ m h' tk, s' = { s with heap := h', toks := tk } ∧ Fr hB L h' m) Fls s := by
  subst hs
  simp only [Bool.and_eq_true, beq_iff_eq] at hk
  obtain ⟨⟨hk1, hk2⟩, hk3⟩ := hk
  have hcL : L + 1 ≠ L := Nat.succ_ne_self L
  have hBn : ∀ b, L ≤ b → hB.get? b = none := fun b hb => by
    cases e : hB.get? b with
    | none => rfl
    | some o => exact absurd (Heap.lt_size e) (Nat.not_lt.mpr (Nat.le_trans F.above hb))
  have hLB : ∀ b o, hB.get? b = some o → b ≠ L ∧ s.heap.get? b = some o := fun b o e => ⟨fun hb => (by subst hb; rw [hBn _ (Nat.le_refl _)] at e; cases e), F.keep b o e⟩
  have hloc' : ∀ x ∈ n_law, sc.names.lookup x = some .local ∧ (x == ("__debug__" : Str)) = false := fun x hx => by
    have := List.all_eq_true.mp hk2 x hx
    simp only [Bool.and_eq_true, beq_iff_eq, bne_iff_ne, ne_eq] at this
    exact ⟨this.1, beq_eq_false_iff_ne.mpr this.2⟩
  show wpAny (model prog w) A (execs body (eOf (name ++ ".<locals>.") sc L (some a, some L) cd (cellsFrom (L + 1) sc.names []))) _ _ _
  generalize hcs : cellsFrom (L + 1) sc.names [] = cs at *
  have XX : ∀ M, 10 ^ 9 ≤ M → M < 10 ^ 13 → Law10 prog w hB mg mb sc n L cs (L + 1) M := fun M h1 h2 => ⟨W, W1, W2, G1 M h1 h2, G2 M h1 h2, GS M h1 h2, hz, hk1, hloc', hk3, hcc, hcL⟩
  have C0 := (XX (10 ^ 9) (by decide) (by decide)).cx0 (h₁ := s.heap) (name := name ++ ".<locals>.") (a := some a) (cd := cd) hLB
  have hlL : l ≠ L := by obtain ⟨o, ho, _⟩ := hl; exact (hLB l o ho).1
  have hrv : RV s.heap (.ref l) (.list (ns.map .int)) := by
    have r := ints_rv (h := s.heap) hi
    obtain ⟨o, ho, hc, k, hd⟩ := hl
    exact .list ⟨o, F.keep _ _ ho, hc, k, hd⟩ r.1 r.2
  have rep : ∀ h' d0, RV h' (.ref l) d0 → Rep n_law (d0 :: List.replicate 11 .undef) h' m := by
    intro h' d0 hr i y d e1 e2 e3
    cases i with
    | zero =>
      simp [n_law] at e1 e2
      subst e1; subst e2
      exact ⟨_, hm, hr⟩
    | succ i =>
      simp only [List.getElem?_cons_succ, List.getElem?_replicate] at e2
      split at e2
      · exact absurd (Option.some.inj e2).symm e3
      · cases e2
  have S₀ : St s.heap L n_law (.list (ns.map .int) :: List.replicate 11 .undef) s := ⟨m, ⟨F.ns, fun b o _ e => e⟩, rep _ _ hrv⟩
  unfold chkLaw10 at hchk
  simp only [Bool.and_eq_true, Option.any_eq_true, beq_iff_eq] at hchk
  obtain ⟨⟨⟨⟨⟨⟨⟨st0, hst0, t, ht, ⟨ht1, hnc⟩, hce⟩, st1, hst1, t2, ht2, ⟨ht21, hnc2⟩, hce2⟩, st2, hst2, hfor⟩, st3, hst3, c3⟩, st4, hst4, c4⟩, st5, hst5, c5⟩, hcr⟩ := hchk
  rw [head_cons hst0, head_cons hst1, head_cons hst2, head_cons hst3, head_cons hst4, head_cons hst5]
  obtain ⟨p, rfl⟩ := iAsg1 ht
  obtain ⟨tg, v⟩ := t
  dsimp only at ht1 hnc hce ⊢
  obtain ⟨q, rfl⟩ := iN ht1
  -- M
  have hw := draw10 (Γ := fun _ _ _ => False) ns hlen (List.replicate 11 .undef)
  rw [rw1] at hw
  refine wpAny_execs_cons (wpAny_Assign_Name (wpAny_mono ((sound C0 e_draw10).val _ hce A s _ _ hA S₀ hw) (fun v s₁ h₁ => ?_) fun _ _ x => x) (noComp_swaps hnc))
  obtain ⟨k1, d, rv, M, rfl, hM, hM'⟩ := h₁
  obtain ⟨tm, rfl⟩ := rv.inv_int
  have hcell : s₁.heap.IsCell (L + 1) none := ⟨ob, kAll k1 _ _ (X.get List.mem_cons_self), hob⟩
  refine wpAny_storeName_cell (env := eOf (name ++ ".<locals>.") sc L (some a, some L) cd cs) hk1 hk3 hcc hcell fun h₂ hc₂ hsb => ?_
  have hkc : ∀ b o, b ≠ L + 1 → s.heap.get? b = some o → h₂.get? b = some o := fun b o hb e => (hsb.2 b hb).trans (kAll k1 b o e)
  have hB2 : Kp hB h₂ := fun b o e => hkc b o (fun hb => by subst hb; rw [hBn _ (Nat.le_succ _)] at e; cases e) (F.keep b o e)
  have hLB2 : ∀ b o, hB.get? b = some o → b ≠ L ∧ h₂.get? b = some o := fun b o e => ⟨(hLB b o e).1, hB2 b o e⟩
  have X₁ := XX M hM hM'
  have hl2 : h₂.IsList l vs.toArray := hl.at fun o e => hB2 l o e
  have hns2 : h₂.Ns L m := (F.ns.keeps (kAll k1)).at' fun o e => (hsb.2 L (Ne.symm hcL)).trans e
  have S₂ : St h₂ L n_law (.obj l :: List.replicate 11 .undef) { s₁ with heap := h₂ } := ⟨m, ⟨hns2, fun b o _ e => e⟩, rep _ _ (.obj l)⟩
  have C02 := X₁.cx0 (h₁ := h₂) (name := name ++ ".<locals>.") (a := some a) (cd := cd) hLB2
  have hLs2 : ∀ ob, h₂.get? L = some ob → ∀ items q, ob.data ≠ .seq items q := fun ob e => ns_notSeq hns2 e
  have CH := X₁.cxH (h₁ := h₂) (name := name ++ ".<locals>.") (a := some a) (cd := cd) hLB2 hc₂ (l := l) (o := l) hl2 hlL hlL hi hlen hLs2 none (fun _ h => by cases h)
  -- steps = []
  obtain ⟨p2, rfl⟩ := iAsg1 ht2
  obtain ⟨tg2, v2⟩ := t2
  dsimp only at ht21 hnc2 hce2 ⊢
  obtain ⟨q2, rfl⟩ := iN ht21
  refine wpAny_execs_cons (wpAny_Assign_Name (wpAny_mono (fresh_list C02 (ds := []) hA S₂ hce2 (by rw [wnil]) (by decide)) (fun v s₃ h₃ => ?_) fun _ _ x => x) (noComp_swaps hnc2))
  obtain ⟨k3, ad, vs3, rfl, hfr, hpl, hrv3⟩ := h₃
  have hfr' : h₂.get? ad = none := hfr
  have hadL : ad ≠ L := by
    intro e; subst e
    obtain ⟨o, _, _, ho, _⟩ := hns2
    rw [hfr'] at ho; cases ho
  refine sto_ok C02 (S₂.keeps k3) (i := 1) (x := "steps") rfl (.obj ad) fun s₄ S₄ t₄ => ?_
  have X₄ : OwnSt h₂ L n_law 1 ad (.obj l :: .obj ad :: .undef :: .undef :: .undef :: List.replicate 7 .undef) [] s₄ :=
    ⟨S₄, rfl, fl_of l ad (.inl rfl) (.inl rfl) (.inl rfl), ⟨vs3, plain_tr t₄ hadL hpl, hrv3.keep (st_seq (S₂.keeps k3) t₄)⟩, fun _ h => (by cases h), hadL, hfr'⟩
  have sh4 : Sh s s₄ := ((keeps_sh k1).trans ⟨h₂, s₁.toks, rfl⟩).trans ((keeps_sh k3).trans (tr_sh t₄))
  -- the loop
  refine wpAny_execs_cons (wpAny_mono (for10 X₁ hM hM' hLB2 hc₂ hl2 hlL hi hlen hLs2 hA hfor X₄) (fun f s₅ h₅ => ?_) fun _ _ x => x)
  obtain ⟨rfl, t₅, d2, d3, X₅⟩ := h₅
  dsimp only
  have hd2 : Fl d2 := X₅.fl d2 (by simp)
  have hd3 : Fl d3 := X₅.fl d3 (by simp)
  generalize hts : tsOf M ns = ts at *
  -- whole
  obtain ⟨its, hpl5, hr5⟩ := X₅.pl
  obtain ⟨m5, F5, R5⟩ := id X₅.st
  have hLB5 : ∀ b o, hB.get? b = some o → b ≠ L ∧ s₅.heap.get? b = some o := fun b o e => ⟨(hLB b o e).1, F5.keep b o (hLB b o e).1 (hB2 b o e)⟩
  have hc5 : s₅.heap.IsCell (L + 1) (some (.int M tm)) := by obtain ⟨o, ho, hd⟩ := hc₂; exact ⟨o, F5.keep _ o hcL ho, hd⟩
  have hl5 : s₅.heap.IsList l vs.toArray := hl2.at fun o e => F5.keep l o hlL e
  have hIn : In10 M ts (3 + (ns.length : Int) % 8) (3 + ((ns.length : Int) + 5) % 8) := hts ▸ in10 hM hM'
  have hlts := hIn.hl
  have CW := X₁.cxH (h₁ := s₅.heap) (name := name ++ ".<locals>.") (a := some a) (cd := cd) hLB5 hc5 (l := l) (o := ad) hl5 hlL hadL hi hlen (fun ob e => ns_notSeq F5.ns e) (some (ts.map fun p => p.1))
    (fun ys h => ⟨ts, its, (Option.some.inj h).symm, by (first | (clear W W1 W2 G1 G2 GS hz hm hob hl hi hA hlen F X hk3 hk1 hk2 hcL hBn hLB hloc' hcs hcc XX C0 hlL hrv rep S₀ hcr hst2 hfor hst3 c3 hst4 c4 hst5 c5 hce hnc ht1 hst0 ht hw k1 hM hM' rv hcell hc₂ hsb hkc hB2 hLB2 X₁ hl2 hns2 S₂ C02 hLs2 CH hce2 hnc2 ht21 hst1 ht2 k3 hfr hpl hrv3 hfr' hadL S₄ t₄ X₄ sh4 t₅ hd2 hd3 hts X₅ hpl5 hr5 F5 R5 hLB5 hc5 hl5 hIn h; omega) | omega), hpl5.isList, hr5⟩)
  have S5b : St s₅.heap L n_law (.obj l :: .obj ad :: d2 :: d3 :: .undef :: List.replicate 7 .undef) s₅ := ⟨m5, ⟨F5.ns, fun _ _ _ e => e⟩, R5⟩
  rw [show ∀ r : List Stmt, st3 :: r = [st3] ++ r from fun r => rfl]
  refine execs_app (set_ok CW hA trivial S5b c3 whole10 fun s₆ S₆ t₆ => ?_)
  dsimp only
  have X₆ := X₅.step (X₅.st.rebase S₆) t₆ rfl (fl_of l ad hd2 hd3 (fl_int _))
  -- the two last steps
  obtain ⟨w5, w6⟩ := s56 (M := M) (k := ns.length) (xs := none) (l := l) (o := l) (wh := sumX ts) (d1 := .obj ad) (d2 := d2) (d3 := d3) (r := List.replicate 7 .undef)
  obtain ⟨py, apos, pos, epos, elt, rfl, hline, hnst, ce⟩ := iAppS c4
  refine wpAny_execs_cons (app_own CH hA X₆ (y := "steps") rfl ce hnst hline w5 (dP_noL _) (by rw [List.length_map]; (first | (clear W W1 W2 G1 G2 GS hz hm hob hl hi hA hlen F X hk3 hk1 hk2 hcL hBn hLB hloc' hcs hcc XX C0 hlL hrv rep S₀ hcr hst2 hfor hst3 c3 hst5 c5 hce hnc ht1 hst0 ht hw k1 hM hM' rv hcell hc₂ hsb hkc hB2 hLB2 X₁ hl2 hns2 S₂ C02 hLs2 CH hce2 hnc2 ht21 hst1 ht2 k3 hfr hpl hrv3 hfr' hadL S₄ t₄ X₄ sh4 t₅ hd2 hd3 hts X₅ hpl5 hr5 F5 R5 hLB5 hc5 hl5 hIn CW S5b S₆ t₆ X₆ w5 w6 hst4 c4 hline hnst ce; omega) | omega)) fun s₇ X₇ t₇ => ?_)
  dsimp only
  obtain ⟨py', apos', pos', epos', elt', rfl, hline', hnst', ce'⟩ := iAppS c5
  refine wpAny_execs_cons (app_own CH hA X₇ (y := "steps") rfl ce' hnst' hline' w6 (dP_noL _) (by rw [List.length_append, List.length_map, List.length_singleton]; (first | (clear W W1 W2 G1 G2 GS hz hm hob hl hi hA hlen F X hk3 hk1 hk2 hcL hBn hLB hloc' hcs hcc XX C0 hlL hrv rep S₀ hcr hst2 hfor hst3 c3 hce hnc ht1 hst0 ht hw k1 hM hM' rv hcell hc₂ hsb hkc hB2 hLB2 X₁ hl2 hns2 S₂ C02 hLs2 CH hce2 hnc2 ht21 hst1 ht2 k3 hfr hpl hrv3 hfr' hadL S₄ t₄ X₄ sh4 t₅ hd2 hd3 hts X₅ hpl5 hr5 F5 R5 hLB5 hc5 hl5 hIn CW S5b S₆ t₆ X₆ w5 w6 hst4 c4 hline hnst ce X₇ t₇ hst5 c5 hline' hnst' ce'; omega) | omega)) fun s₈ X₈ t₈ => ?_)
  dsimp only
  -- the rest
  obtain ⟨its8, hpl8, hr8⟩ := X₈.pl
  have e8 : ts.map dP ++ [dP (sumX ts, 3 + (ns.length : Int) % 8)] ++ [dP (-sumX ts, 3 + ((ns.length : Int) + 5) % 8)] = (stepsOf ts (3 + (ns.length : Int) % 8) (3 + ((ns.length : Int) + 5) % 8)).map dP := by
    unfold stepsOf
    rw [List.map_append, List.append_assoc]; rfl
  rw [e8] at hr8
  have S₉ := X₈.st.swap (i := 1) rfl hpl8.isList hr8
  have C10 := X₁.cx (h₁ := h₂) (name := name ++ ".<locals>.") (a := some a) (cd := cd) hLB2 hc₂ hM (ps := stepsOf ts (3 + (ns.length : Int) % 8) (3 + ((ns.length : Int) + 5) % 8)) (by unfold stepsOf; rw [List.length_append]; show ts.length + 2 ≤ 1000; (first | (clear W W1 W2 G1 G2 GS hz hm hob hl hi hA hlen F X hk3 hk1 hk2 hcL hBn hLB hloc' hcs hcc XX C0 hlL hrv rep S₀ hcr hst2 hfor hst3 c3 hce hnc ht1 hst0 ht hw k1 hM hM' rv hcell hc₂ hsb hkc hB2 hLB2 X₁ hl2 hns2 S₂ C02 hLs2 CH hce2 hnc2 ht21 hst1 ht2 k3 hfr hpl hrv3 hfr' hadL S₄ t₄ X₄ sh4 t₅ hd2 hd3 hts X₅ hpl5 hr5 F5 R5 hLB5 hc5 hl5 hIn CW S5b S₆ t₆ X₆ w5 w6 hst4 c4 hline hnst ce X₇ t₇ hst5 c5 hline' hnst' ce' X₈ t₈ hpl8 hr8 e8 S₉; omega) | omega)) hIn.all
  refine law_tail C10 F.above hA trivial S₉ hcr (l10_rest hIn) ?_
  exact sh4.trans ((tr2_sh t₅).trans ((tr_sh t₆).trans ((tr2_sh t₇).trans (tr2_sh t₈))))
set_option maxHeartbeats 8000000 in
open_top hd for PySem.Challenge.rw_dm0265_10
noncomputable abbrev KK (w : World) : Frag := hd.heap_39 w.params
noncomputable def fdOf (w : World) (f : Str) : FuncData := ((fnAt (KK w) f).getD (0, default)).2
noncomputable def adOf (w : World) (f : Str) : Addr := ((fnAt (KK w) f).getD (0, default)).1
theorem f_div (w : World) : fnAt (KK w) "_div_nearest" = some (adOf w "_div_nearest", fdOf w "_div_nearest") := by kernel_rfl
theorem c_div (w : World) : chkFn u_divnearest n_divnearest p_divnearest s_divnearest (fdOf w "_div_nearest") = true := by kernel_rfl
theorem b_div (w : World) (a b : Value) : bindArgs (fdOf w "_div_nearest") ⟨[a, b], []⟩ = pure [(("a" : Str), a), (("b" : Str), b)] := by kernel_rfl
theorem f_iexp (w : World) : fnAt (KK w) "_iexp" = some (adOf w "_iexp", fdOf w "_iexp") := by kernel_rfl
theorem c_iexp (w : World) : chkFn u_iexp n_iexp p_iexp s_iexp (fdOf w "_iexp") = true := by kernel_rfl
theorem b_iexp (w : World) (a b c : Value) (S : Setting) : peek (KK w) S (bindArgs (fdOf w "_iexp") ⟨[a, b, c], []⟩) = some [(("x" : Str), a), (("M" : Str), b), (("L" : Str), c)] := by kernel_rfl
theorem bt_iexp {w : World} {hB : Heap} (KX : (KK w).In hB) (s : Shared) (vs : List Value) (hk : Kp hB s.heap) (hl : vs.length = p_iexp.length) : BindsTo s (fdOf w "_iexp") ⟨vs, []⟩ (p_iexp.zip vs) := by
  match vs, hl with
  | [a, b, c], _ => exact kp_binds (KX.keeps hk) (b_iexp w a b c)
theorem f_bnd (w : World) : fnAt (KK w) "_law_bound" = some (adOf w "_law_bound", fdOf w "_law_bound") := by kernel_rfl
theorem c_bnd (w : World) : chkFn u_lawbound n_lawbound p_lawbound s_lawbound (fdOf w "_law_bound") = true := by kernel_rfl
theorem b_bnd (w : World) (a b c : Value) : bindArgs (fdOf w "_law_bound") ⟨[a, b, c], []⟩ = pure [(("x" : Str), a), (("M" : Str), b), (("L" : Str), c)] := by kernel_rfl
theorem f_same (w : World) : fnAt (KK w) "_law_same" = some (adOf w "_law_same", fdOf w "_law_same") := by kernel_rfl
theorem c_same (w : World) : chkFn u_lawsame n_lawsame p_lawsame s_lawsame (fdOf w "_law_same") = true := by kernel_rfl
theorem b_same (w : World) (a b c d : Value) : bindArgs (fdOf w "_law_same") ⟨[a, b, c, d], []⟩ = pure [(("product" : Str), a), (("due" : Str), b), (("bound" : Str), c), (("M" : Str), d)] := by kernel_rfl
theorem us_bnd (w : World) : u_lawbound.all (chkB (KK w)) = true := by kernel_rfl
theorem us_nil (w : World) : ([] : List B).all (chkB (KK w)) = true := rfl
theorem us_ok (w : World) : u_law.all (chkB (KK w)) = true := by kernel_rfl
theorem us_1 (w : World) : [B.fn "_iexp"].all (chkB (KK w)) = true := by kernel_rfl
theorem us_2 (w : World) : [B.fn "_law_bound"].all (chkB (KK w)) = true := by kernel_rfl
theorem us_div (w : World) : u_divnearest.all (chkB (KK w)) = true := by kernel_rfl
theorem us_iexp (w : World) : u_iexp.all (chkB (KK w)) = true := by kernel_rfl
theorem zip_at (w : World) : (nsIn (KK w) mainGlobals "zip" == some none && bootBuiltins "zip" == some (.type "zip")) = true := by kernel_rfl
theorem four_zip {names : List Str} {fd : FuncData} {x y z u : Str} (hn : names = [x, y, z, u]) (hb : ∀ a b c d, bindArgs fd ⟨[a, b, c, d], []⟩ = pure [(x, a), (y, b), (z, c), (u, d)]) (s : Shared) (vs : List Value) (hl : vs.length = names.length) : BindsTo s fd ⟨vs, []⟩ (names.zip vs) := by
  subst hn
  match vs, hl with
  | [a, b, c, d], _ => exact BindsTo.of_eq (hb a b c d)
section
variable {prog : Program} {w : World} {hB : Heap} {p : Program} {loose : List Str} {mean : ExcName → Option Value} {mg mb : Str → Option Value}
theorem bi_of {K : Frag} {x : Str} {v : Value} (KX : K.In hB) (T : Top p loose mean mg mb hB) (hx : x ≠ "__name__") (h : (nsIn K mainGlobals x == some none && bootBuiltins x == some v) = true) : mg x = none ∧ mb x = some v := by
  simp only [Bool.and_eq_true, beq_iff_eq] at h
  exact ⟨mg_none_of KX T.g h.1, (T.builtins _ hx).trans h.2⟩
theorem gd_ok (KX : (KK w).In hB) (T : Top p loose mean mg mb hB) (f : Str) (ds : List D) (r : D) (h : GD f ds r) : CallsTo prog w hB mg 1 f ds r := by
  cases h with
  | div a b hb hs => exact callsTo_ok KX (wd_of KX T (us_div w)) (f_div w) (c_div w) (Γ := fun _ _ _ => False) (fun _ _ _ h => h.elim) (fun s vs _ hl => two_zip rfl (b_div w) s vs hl) rfl (div_body a b hb hs)
theorem g1_ok (KX : (KK w).In hB) (T : Top p loose mean mg mb hB) (M : Int) (hM : 10 ^ 9 ≤ M) (hM' : M < 10 ^ 13) (ds : List D) (r : D) (h : GC10 M "_iexp" ds r) : CallsTo prog w hB mg 2 "_iexp" ds r := by
  generalize hx : ("_iexp" : Str) = f at h
  cases h with
  | iexp x L hL hL2 hx' => exact callsTo_ok KX (wd_of KX T (us_iexp w)) (f_iexp w) (c_iexp w) (Γ := GD) (gd_ok KX T) (bt_iexp KX) rfl (iexp_body3 x M L (by first | with_reducible assumption | with_reducible exact Int.le_of_lt (by assumption) | with_reducible exact Nat.le_of_lt (by assumption) | with_reducible exact qz1 (by assumption) | with_reducible exact qz2 (by assumption) | with_reducible exact qz3 (by assumption) | with_reducible exact qz4 (by assumption) | with_reducible exact qz5 (by assumption) | with_reducible exact qz6 (by assumption) | with_reducible exact qz7 (by assumption) | with_reducible exact qz8 (by assumption) | with_reducible exact qz9 (by assumption) | with_reducible exact qza (by assumption) | with_reducible exact qzb (by assumption) | with_reducible exact qzc | with_reducible exact qzd | with_reducible exact qze | omega) (szofI (by first | with_reducible assumption | with_reducible exact Int.le_of_lt (by assumption) | with_reducible exact Nat.le_of_lt (by assumption) | with_reducible exact qz1 (by assumption) | with_reducible exact qz2 (by assumption) | with_reducible exact qz3 (by assumption) | with_reducible exact qz4 (by assumption) | with_reducible exact qz5 (by assumption) | with_reducible exact qz6 (by assumption) | with_reducible exact qz7 (by assumption) | with_reducible exact qz8 (by assumption) | with_reducible exact qz9 (by assumption) | with_reducible exact qza (by assumption) | with_reducible exact qzb (by assumption) | with_reducible exact qzc | with_reducible exact qzd | with_reducible exact qze | omega) (by first | with_reducible assumption | with_reducible exact Int.le_of_lt (by assumption) | with_reducible exact Nat.le_of_lt (by assumption) | with_reducible exact qz1 (by assumption) | with_reducible exact qz2 (by assumption) | with_reducible exact qz3 (by assumption) | with_reducible exact qz4 (by assumption) | with_reducible exact qz5 (by assumption) | with_reducible exact qz6 (by assumption) | with_reducible exact qz7 (by assumption) | with_reducible exact qz8 (by assumption) | with_reducible exact qz9 (by assumption) | with_reducible exact qza (by assumption) | with_reducible exact qzb (by assumption) | with_reducible exact qzc | with_reducible exact qzd | with_reducible exact qze | (first | (clear KX T hL hL2 hx' hx; omega) | omega))) (by first | with_reducible assumption | with_reducible exact Int.le_of_lt (by assumption) | with_reducible exact Nat.le_of_lt (by assumption) | with_reducible exact qz1 (by assumption) | with_reducible exact qz2 (by assumption) | with_reducible exact qz3 (by assumption) | with_reducible exact qz4 (by assumption) | with_reducible exact qz5 (by assumption) | with_reducible exact qz6 (by assumption) | with_reducible exact qz7 (by assumption) | with_reducible exact qz8 (by assumption) | with_reducible exact qz9 (by assumption) | with_reducible exact qza (by assumption) | with_reducible exact qzb (by assumption) | with_reducible exact qzc | with_reducible exact qzd | with_reducible exact qze | (first | (clear KX T hL hL2 hx; omega) | omega)) (by first | with_reducible assumption | with_reducible exact Int.le_of_lt (by assumption) | with_reducible exact Nat.le_of_lt (by assumption) | with_reducible exact qz1 (by assumption) | with_reducible exact qz2 (by assumption) | with_reducible exact qz3 (by assumption) | with_reducible exact qz4 (by assumption) | with_reducible exact qz5 (by assumption) | with_reducible exact qz6 (by assumption) | with_reducible exact qz7 (by assumption) | with_reducible exact qz8 (by assumption) | with_reducible exact qz9 (by assumption) | with_reducible exact qza (by assumption) | with_reducible exact qzb (by assumption) | with_reducible exact qzc | with_reducible exact qzd | with_reducible exact qze | omega) (by first | with_reducible assumption | with_reducible exact Int.le_of_lt (by assumption) | with_reducible exact Nat.le_of_lt (by assumption) | with_reducible exact qz1 (by assumption) | with_reducible exact qz2 (by assumption) | with_reducible exact qz3 (by assumption) | with_reducible exact qz4 (by assumption) | with_reducible exact qz5 (by assumption) | with_reducible exact qz6 (by assumption) | with_reducible exact qz7 (by assumption) | with_reducible exact qz8 (by assumption) | with_reducible exact qz9 (by assumption) | with_reducible exact qza (by assumption) | with_reducible exact qzb (by assumption) | with_reducible exact qzc | with_reducible exact qzd | with_reducible exact qze | (first | (clear KX T hM hM' hx' hx; omega) | omega)) (Nat.le_trans (nR_le_t10 (by first | with_reducible assumption | with_reducible exact Int.le_of_lt (by assumption) | with_reducible exact Nat.le_of_lt (by assumption) | with_reducible exact qz1 (by assumption) | with_reducible exact qz2 (by assumption) | with_reducible exact qz3 (by assumption) | with_reducible exact qz4 (by assumption) | with_reducible exact qz5 (by assumption) | with_reducible exact qz6 (by assumption) | with_reducible exact qz7 (by assumption) | with_reducible exact qz8 (by assumption) | with_reducible exact qz9 (by assumption) | with_reducible exact qza (by assumption) | with_reducible exact qzb (by assumption) | with_reducible exact qzc | with_reducible exact qzd | with_reducible exact qze | omega)) (t10_le (by first | with_reducible assumption | with_reducible exact Int.le_of_lt (by assumption) | with_reducible exact Nat.le_of_lt (by assumption) | with_reducible exact qz1 (by assumption) | with_reducible exact qz2 (by assumption) | with_reducible exact qz3 (by assumption) | with_reducible exact qz4 (by assumption) | with_reducible exact qz5 (by assumption) | with_reducible exact qz6 (by assumption) | with_reducible exact qz7 (by assumption) | with_reducible exact qz8 (by assumption) | with_reducible exact qz9 (by assumption) | with_reducible exact qza (by assumption) | with_reducible exact qzb (by assumption) | with_reducible exact qzc | with_reducible exact qzd | with_reducible exact qze | omega) hx' hL2)))
  | bound => exact absurd hx (by decide)
  | mm => exact absurd hx (by decide)
theorem g2_ok (KX : (KK w).In hB) (T : Top p loose mean mg mb hB) (M : Int) (hM : 10 ^ 9 ≤ M) (hM' : M < 10 ^ 13) (ds : List D) (r : D) (h : GC10 M "_law_bound" ds r) : CallsTo prog w hB mg 2 "_law_bound" ds r := by
  generalize hx : ("_law_bound" : Str) = f at h
  cases h with
  | bound x L hL hL2 hx' => exact (callsTo_ok (n := 1) KX (wd_of KX T (us_bnd w)) (f_bnd w) (c_bnd w) (Γ := fun _ _ _ => False) (fun _ _ _ h => h.elim) (fun s vs _ hl => three_zip rfl (b_bnd w) s vs hl) rfl (bnd10_body x M L hM hM' hL hL2 hx'))
  | iexp => exact absurd hx (by decide)
  | mm => exact absurd hx (by decide)
theorem gs_ok (KX : (KK w).In hB) (T : Top p loose mean mg mb hB) (M : Int) (hM : 10 ^ 9 ≤ M) (hM' : M < 10 ^ 13) (ps : List (Int × Int)) (ds : List D) (r : D) (h : G10 M ps "_law_same" ds r) : CallsTo prog w hB mg 2 "_law_same" ds r := by
  generalize hx : ("_law_same" : Str) = f at h
  cases h with
  | same p due bd hp hd hb h1 h2 => exact (callsTo_ok (n := 1) KX (wd_of KX T (us_nil w)) (f_same w) (c_same w) (Γ := fun _ _ _ => False) (fun _ _ _ h => h.elim) (fun s vs _ hl => four_zip rfl (b_same w) s vs hl) rfl (same_body p due bd M (szofI (by first | with_reducible assumption | with_reducible exact Int.le_of_lt (by assumption) | with_reducible exact Nat.le_of_lt (by assumption) | with_reducible exact qz1 (by assumption) | with_reducible exact qz2 (by assumption) | with_reducible exact qz3 (by assumption) | with_reducible exact qz4 (by assumption) | with_reducible exact qz5 (by assumption) | with_reducible exact qz6 (by assumption) | with_reducible exact qz7 (by assumption) | with_reducible exact qz8 (by assumption) | with_reducible exact qz9 (by assumption) | with_reducible exact qza (by assumption) | with_reducible exact qzb (by assumption) | with_reducible exact qzc | with_reducible exact qzd | with_reducible exact qze | omega) (by first | with_reducible assumption | with_reducible exact Int.le_of_lt (by assumption) | with_reducible exact Nat.le_of_lt (by assumption) | with_reducible exact qz1 (by assumption) | with_reducible exact qz2 (by assumption) | with_reducible exact qz3 (by assumption) | with_reducible exact qz4 (by assumption) | with_reducible exact qz5 (by assumption) | with_reducible exact qz6 (by assumption) | with_reducible exact qz7 (by assumption) | with_reducible exact qz8 (by assumption) | with_reducible exact qz9 (by assumption) | with_reducible exact qza (by assumption) | with_reducible exact qzb (by assumption) | with_reducible exact qzc | with_reducible exact qzd | with_reducible exact qze | (first | (clear KX T hp hd hb h1 h2 hx; omega) | omega))) hp hd hb h1 h2))
  | mm => exact absurd hx (by decide)
  | answers => exact absurd hx (by decide)
  | bounds => exact absurd hx (by decide)
  | zip => exact absurd hx (by decide)
end
end Mine
open Mine in
set_option maxHeartbeats 8000000 in
theorem PySem.Challenge.cw_dm0265_10_holds : PySem.Challenge.rw_dm0265_10.Holds :=
  hd (by
  k_go0; (all_goals try k_fold)
  rename Top _ _ _ _ _ _ => T'
  rename Frag.In _ _ => KX'
  rename Fr _ _ _ _ => F'
  rename News _ _ _ _ => X'
  rename _ = Data.cell _ => hob'
  rename IntsAre _ _ => hI'
  rename ¬ ((63 : Int) < _) => hL'
  refine wpAny_mono (law10 (n := 2) (wd_of KX' T' (us_ok _)) (wd_of KX' T' (us_1 _)) (wd_of KX' T' (us_2 _)) (g1_ok KX' T') (g2_ok KX' T') (gs_ok KX' T') (bi_of KX' T' (by decide) (zip_at _)) (by kernel_rfl) (by kernel_rfl) F' (by kernel_rfl) X' (hob'.trans (by kernel_rfl)) (by kernel_rfl) (by assumption) hI' ((aok_law _).le (by decide)) rfl (by first | with_reducible assumption | with_reducible exact Int.le_of_lt (by assumption) | with_reducible exact Nat.le_of_lt (by assumption) | with_reducible exact qz1 (by assumption) | with_reducible exact qz2 (by assumption) | with_reducible exact qz3 (by assumption) | with_reducible exact qz4 (by assumption) | with_reducible exact qz5 (by assumption) | with_reducible exact qz6 (by assumption) | with_reducible exact qz7 (by assumption) | with_reducible exact qz8 (by assumption) | with_reducible exact qz9 (by assumption) | with_reducible exact qza (by assumption) | with_reducible exact qzb (by assumption) | with_reducible exact qzc | with_reducible exact qzd | with_reducible exact qze | (first | (clear KX' hI' F' hob' X'; omega) | omega))) (fun f s' h => ?_) (fun _ _ x => x.elim)
  obtain ⟨rfl, m, h', tk, rfl, F2⟩ := h
  dsimp only
  wrow_close)

