/-
  PLAIN LAW: how far sums of products of floats in [0,1] lie from the exact sums. Rational numbers alone; no Go in sight.
-/
import Derived.Test.Qxb6627529aFlt
namespace Go.Proofs.Qxb6627529a.Flt
open Ieee

theorem u_small : u ≤ 1 / 1000000000000 := by rw [u_eq]; decide +kernel

/-! ### Powers of 1 + u, 1 - u -/
theorem pow_add' (a : Rat) (m n : Nat) : a ^ (m + n) = a ^ m * a ^ n := by
  induction n with
  | zero => simp
  | succ n ih => rw [← Nat.add_assoc, Rat.pow_succ, ih, Rat.pow_succ, Rat.mul_assoc]

def G (k : Nat) : Rat := (1 + u) ^ k
def D (k : Nat) : Rat := (1 - u) ^ k
theorem G_zero : G 0 = 1 := Rat.pow_zero _
theorem D_zero : D 0 = 1 := Rat.pow_zero _
theorem G_succ (k : Nat) : G (k + 1) = G k * (1 + u) := Rat.pow_succ _ _
theorem D_succ (k : Nat) : D (k + 1) = D k * (1 - u) := Rat.pow_succ _ _
theorem G_add (j k : Nat) : G (j + k) = G j * G k := pow_add' _ _ _
theorem D_add (j k : Nat) : D (j + k) = D j * D k := pow_add' _ _ _
theorem G_ge (k : Nat) : 1 ≤ G k := by
  induction k with
  | zero => rw [G_zero]; exact Rat.le_refl
  | succ k ih =>
    rw [G_succ]
    have := Rat.mul_nonneg (show 0 ≤ G k by grind) (Rat.le_of_lt u_pos)
    grind
theorem D_pos (k : Nat) : 0 < D k := Rat.pow_pos (by have := u_small; grind)
theorem D_le (k : Nat) : D k ≤ 1 := by
  induction k with
  | zero => rw [D_zero]; exact Rat.le_refl
  | succ k ih =>
    rw [D_succ]
    have := Rat.mul_nonneg (Rat.le_of_lt (D_pos k)) (Rat.le_of_lt u_pos)
    grind
theorem G_mono {j k : Nat} (h : j ≤ k) : G j ≤ G k := by
  obtain ⟨d, rfl⟩ : ∃ d, k = j + d := ⟨k - j, by omega⟩
  rw [G_add]
  have := Rat.mul_nonneg (show 0 ≤ G j by have := G_ge j; grind) (show 0 ≤ G d - 1 by have := G_ge d; grind)
  grind
theorem D_anti {j k : Nat} (h : j ≤ k) : D k ≤ D j := by
  obtain ⟨d, rfl⟩ : ∃ d, k = j + d := ⟨k - j, by omega⟩
  rw [D_add]
  have := Rat.mul_nonneg (Rat.le_of_lt (D_pos j)) (show 0 ≤ 1 - D d by have := D_le d; grind)
  grind
theorem G_up (k : Nat) (h : k ≤ 4503599627370496) : G k ≤ 1 + 2 * (k * u) := by
  induction k with
  | zero => rw [G_zero]; simp; grind
  | succ k ih =>
    have ih := ih (by omega)
    rw [G_succ]
    have hk : (k : Rat) ≤ ((4503599627370496 : Nat) : Rat) := Rat.natCast_le_natCast.2 (by omega)
    have hku : (k : Rat) * u ≤ 1 / 2 := by
      have := Rat.mul_le_mul_of_nonneg_right hk (Rat.le_of_lt u_pos)
      have e : ((4503599627370496 : Nat) : Rat) * u = 1 / 2 := by rw [u_eq]; decide +kernel
      rw [e] at this; exact this
    have h1 := Rat.mul_le_mul_of_nonneg_right ih (show (0 : Rat) ≤ 1 + u by have := u_pos; grind)
    have h2 := Rat.mul_le_mul_of_nonneg_right hku (Rat.le_of_lt u_pos)
    rw [Rat.natCast_add]
    have : ((1 : Nat) : Rat) = 1 := rfl
    grind
theorem D_down (k : Nat) : 1 - k * u ≤ D k := by
  induction k with
  | zero => rw [D_zero]; simp; grind
  | succ k ih =>
    rw [D_succ, Rat.natCast_add]
    have : ((1 : Nat) : Rat) = 1 := rfl
    have h1 := Rat.mul_nonneg (Rat.le_of_lt u_pos) (show 0 ≤ 1 - D k by have := D_le k; grind)
    grind

/-! ### 'c' stands for 'e', up to 'k' roundings and 'A' -/
structure Ap (k : Nat) (A c e : Rat) : Prop where
  e0 : 0 ≤ e
  c0 : 0 ≤ c
  A0 : 0 ≤ A
  lo : e * D k - A ≤ c
  hi : c ≤ e * G k + A

theorem Ap.self {x : Rat} (h : 0 ≤ x) : Ap 0 0 x x := ⟨h, h, Rat.le_refl, by rw [D_zero]; grind, by rw [G_zero]; grind⟩

theorem Ap.weak {k k' : Nat} {A A' c e : Rat} (h : Ap k A c e) (hk : k ≤ k') (hA : A ≤ A') : Ap k' A' c e := by
  refine ⟨h.e0, h.c0, Rat.le_trans h.A0 hA, ?_, ?_⟩
  · have := Rat.mul_le_mul_of_nonneg_left (D_anti hk) h.e0
    have := h.lo
    grind
  · have := Rat.mul_le_mul_of_nonneg_left (G_mono hk) h.e0
    have := h.hi
    grind

theorem Ap.add {k : Nat} {A1 A2 A c1 c2 c e1 e2 : Rat} (h1 : Ap k A1 c1 e1) (h2 : Ap k A2 c2 e2) (hn : Near c (c1 + c2)) (hA : (A1 + A2) * (1 + u) ≤ A) : Ap (k + 1) A c (e1 + e2) := by
  have hs : 0 ≤ c1 + c2 := Rat.add_nonneg h1.c0 h2.c0
  obtain ⟨n1, n2⟩ := hn.1 hs
  have hu := u_pos
  have hus := u_small
  have hA12 : 0 ≤ A1 + A2 := Rat.add_nonneg h1.A0 h2.A0
  have hAu := Rat.mul_nonneg hA12 (Rat.le_of_lt hu)
  refine ⟨Rat.add_nonneg h1.e0 h2.e0, ?_, by grind, ?_, ?_⟩
  · have := Rat.mul_nonneg hs (show 0 ≤ 1 - u by grind)
    grind
  · rw [D_succ]
    have := Rat.mul_le_mul_of_nonneg_right (show (e1 + e2) * D k - (A1 + A2) ≤ c1 + c2 by have := h1.lo; have := h2.lo; grind) (show 0 ≤ 1 - u by grind)
    grind
  · rw [G_succ]
    have := Rat.mul_le_mul_of_nonneg_right (show c1 + c2 ≤ (e1 + e2) * G k + (A1 + A2) by have := h1.hi; have := h2.hi; grind) (show 0 ≤ 1 + u by grind)
    grind

theorem lo_mul {c1 c2 p q A1 A2 : Rat} (hc1 : 0 ≤ c1) (hc2 : 0 ≤ c2) (hp : 0 ≤ p) (hq : 0 ≤ q) (hA1 : 0 ≤ A1) (hA2 : 0 ≤ A2) (h1 : p - A1 ≤ c1) (h2 : q - A2 ≤ c2) : p * q - (A1 * q + A2 * p) ≤ c1 * c2 := by
  have h0 := Rat.mul_nonneg hc1 hc2
  have a1 := Rat.mul_nonneg hA1 hq
  have a2 := Rat.mul_nonneg hA2 hp
  by_cases x : p - A1 < 0
  · have := Rat.mul_nonneg hq (show 0 ≤ A1 - p by grind)
    grind
  · by_cases y : q - A2 < 0
    · have := Rat.mul_nonneg hp (show 0 ≤ A2 - q by grind)
      grind
    · have b1 := Rat.mul_le_mul_of_nonneg_right h1 (show 0 ≤ q - A2 by grind)
      have b2 := Rat.mul_le_mul_of_nonneg_left h2 hc1
      have b3 := Rat.mul_nonneg hA1 hA2
      grind

theorem Ap.mul {k1 k2 : Nat} {A1 A2 A c1 c2 c e1 e2 : Rat} (h1 : Ap k1 A1 c1 e1) (h2 : Ap k2 A2 c2 e2) (hn : Nearly c (c1 * c2))
    (hA : (A1 * (e2 * G k2) + A2 * (e1 * G k1) + A1 * A2) * (1 + u) + eta ≤ A) : Ap (k1 + k2 + 1) A c (e1 * e2) := by
  obtain ⟨n0, n1, n2⟩ := hn (Rat.mul_nonneg h1.c0 h2.c0)
  have hu := u_pos
  have hus := u_small
  have he := eta_pos
  have g1 := G_ge k1
  have g2 := G_ge k2
  have d1 := D_pos k1
  have d2 := D_pos k2
  have f1 : 0 ≤ A1 * (e2 * G k2) := Rat.mul_nonneg h1.A0 (Rat.mul_nonneg h2.e0 (by grind))
  have f2 : 0 ≤ A2 * (e1 * G k1) := Rat.mul_nonneg h2.A0 (Rat.mul_nonneg h1.e0 (by grind))
  have f3 : 0 ≤ A1 * A2 := Rat.mul_nonneg h1.A0 h2.A0
  have f4 : 0 ≤ (A1 * (e2 * G k2) + A2 * (e1 * G k1) + A1 * A2) * u := Rat.mul_nonneg (by grind) (Rat.le_of_lt hu)
  refine ⟨Rat.mul_nonneg h1.e0 h2.e0, n0, by grind, ?_, ?_⟩
  · rw [D_succ, D_add]
    have l := lo_mul h1.c0 h2.c0 (Rat.mul_nonneg h1.e0 (Rat.le_of_lt d1)) (Rat.mul_nonneg h2.e0 (Rat.le_of_lt d2)) h1.A0 h2.A0 h1.lo h2.lo
    have l2 := Rat.mul_le_mul_of_nonneg_right l (show 0 ≤ 1 - u by grind)
    have b1 : A1 * (e2 * D k2) ≤ A1 * (e2 * G k2) := Rat.mul_le_mul_of_nonneg_left (Rat.mul_le_mul_of_nonneg_left (by have := D_le k2; grind) h2.e0) h1.A0
    have b2 : A2 * (e1 * D k1) ≤ A2 * (e1 * G k1) := Rat.mul_le_mul_of_nonneg_left (Rat.mul_le_mul_of_nonneg_left (by have := D_le k1; grind) h1.e0) h2.A0
    have b3 : 0 ≤ (A1 * (e2 * D k2) + A2 * (e1 * D k1)) * u := Rat.mul_nonneg (Rat.add_nonneg (Rat.mul_nonneg h1.A0 (Rat.mul_nonneg h2.e0 (Rat.le_of_lt d2))) (Rat.mul_nonneg h2.A0 (Rat.mul_nonneg h1.e0 (Rat.le_of_lt d1)))) (Rat.le_of_lt hu)
    generalize A1 * (e2 * D k2) = x1 at *
    generalize A2 * (e1 * D k1) = x2 at *
    generalize A1 * (e2 * G k2) = y1 at *
    generalize A2 * (e1 * G k1) = y2 at *
    generalize A1 * A2 = z at *
    generalize c1 * c2 = cc at *
    have e : e1 * D k1 * (e2 * D k2) = e1 * e2 * (D k1 * D k2) := by grind
    rw [e] at l2
    have e' : e1 * e2 * (D k1 * D k2 * (1 - u)) = e1 * e2 * (D k1 * D k2) * (1 - u) := by grind
    rw [e']
    generalize e1 * e2 * (D k1 * D k2) = ee at *
    grind
  · rw [G_succ, G_add]
    have l : c1 * c2 ≤ (e1 * G k1 + A1) * (e2 * G k2 + A2) := by
      have m1 := Rat.mul_le_mul_of_nonneg_right h1.hi h2.c0
      have m2 := Rat.mul_le_mul_of_nonneg_left h2.hi (show 0 ≤ e1 * G k1 + A1 from Rat.add_nonneg (Rat.mul_nonneg h1.e0 (by grind)) h1.A0)
      exact Rat.le_trans m1 m2
    have l2 := Rat.mul_le_mul_of_nonneg_right l (show 0 ≤ 1 + u by grind)
    have e : (e1 * G k1 + A1) * (e2 * G k2 + A2) = e1 * e2 * (G k1 * G k2) + (A1 * (e2 * G k2) + A2 * (e1 * G k1) + A1 * A2) := by grind
    rw [e] at l2
    have e' : e1 * e2 * (G k1 * G k2 * (1 + u)) = e1 * e2 * (G k1 * G k2) * (1 + u) := by grind
    rw [e']
    generalize e1 * e2 * (G k1 * G k2) = ee at *
    generalize A1 * (e2 * G k2) + A2 * (e1 * G k1) + A1 * A2 = aa at *
    grind

/-! ### The exact sums -/
def E (V : Rat) : List Rat → Rat
  | [] => 0
  | x :: xs => x + V * E V xs

theorem E_append (V : Rat) (a b : List Rat) : E V (a ++ b) = E V a + V ^ a.length * E V b := by
  induction a with
  | nil => simp [E]; grind
  | cons x a ih => simp only [List.cons_append, E, ih, List.length_cons, Rat.pow_succ]; grind
theorem E_take (V : Rat) (xs : List Rat) (i : Nat) (h : i < xs.length) : E V (xs.take (i + 1)) = E V (xs.take i) + V ^ i * xs[i] := by
  rw [List.take_succ_eq_append_getElem h, E_append]
  simp only [E, List.length_take, Nat.min_eq_left (Nat.le_of_lt h)]
  grind
theorem E_drop (V : Rat) (xs : List Rat) (i : Nat) (h : i < xs.length) : E V (xs.drop i) = xs[i] + V * E V (xs.drop (i + 1)) := by
  rw [List.drop_eq_getElem_cons h]; rfl
theorem pow_nn {V : Rat} (h : 0 ≤ V) (k : Nat) : 0 ≤ V ^ k := Rat.pow_nonneg h
theorem pow_le_one {V : Rat} (h : 0 ≤ V) (h1 : V ≤ 1) (k : Nat) : V ^ k ≤ 1 := by
  induction k with
  | zero => rw [Rat.pow_zero]; exact Rat.le_refl
  | succ k ih =>
    rw [Rat.pow_succ]
    have := Rat.mul_le_mul_of_nonneg_right ih h
    grind
/-- Every one of them lies in [0, 2]. -/
def In2 (xs : List Rat) : Prop := ∀ x ∈ xs, 0 ≤ x ∧ x ≤ 2
theorem E_bounds {V : Rat} (h : 0 ≤ V) (h1 : V ≤ 1) (xs : List Rat) (hx : In2 xs) : 0 ≤ E V xs ∧ E V xs ≤ 2 * (xs.length : Rat) := by
  induction xs with
  | nil => simp [E]
  | cons x xs ih =>
    obtain ⟨i1, i2⟩ := ih (fun y hy => hx y (List.mem_cons_of_mem _ hy))
    obtain ⟨x1, x2⟩ := hx x List.mem_cons_self
    have a1 := Rat.mul_nonneg h i1
    have a2 := Rat.mul_nonneg i1 (show 0 ≤ 1 - V by grind)
    simp only [E, List.length_cons, Rat.natCast_add]
    have : ((1 : Nat) : Rat) = 1 := rfl
    constructor <;> grind
theorem In2.take {xs : List Rat} (h : In2 xs) (i : Nat) : In2 (xs.take i) := fun x hx => h x (List.mem_of_mem_take hx)
theorem In2.drop {xs : List Rat} (h : In2 xs) (i : Nat) : In2 (xs.drop i) := fun x hx => h x (List.mem_of_mem_drop hx)

/-! ### Numbers that everything keeps to -/
theorem big_lt {x : Rat} (h : x ≤ 1099511627776) : x < tw 1000 := by
  have h1 := tw_lt (show (40 : Int) < 1000 by decide)
  have h2 : tw 40 = 1099511627776 := by unfold tw; decide +kernel
  rw [h2] at h1
  exact Rat.not_le.1 fun hn => by
    have := Rat.le_trans hn h
    exact absurd h1 (Rat.not_lt.2 this)
theorem neg_big_lt {x : Rat} (h : -1099511627776 ≤ x) : -tw 1000 < x := by
  have := big_lt (x := -x) (by grind)
  generalize tw 1000 = t at *
  grind
theorem eta_small : eta ≤ 1 / 1208925819614629174706176 := by
  have h2 : tw (-80) = 1 / 1208925819614629174706176 := by unfold tw; decide +kernel
  rw [← h2]; exact tw_le (by decide)
theorem G_two {k : Nat} (h : k ≤ 1073741824) : G k ≤ 2 := by
  have h1 := G_up k (by omega)
  have hk : (k : Rat) ≤ ((1073741824 : Nat) : Rat) := Rat.natCast_le_natCast.2 h
  have h2 := Rat.mul_le_mul_of_nonneg_right hk (Rat.le_of_lt u_pos)
  have e : ((1073741824 : Nat) : Rat) * u = 1 / 8388608 := by rw [u_eq]; decide +kernel
  rw [e] at h2
  grind
theorem Ap.up {k : Nat} {A c e : Rat} (h : Ap k A c e) (hk : k ≤ 1073741824) : c ≤ 2 * e + A := by
  have := Rat.mul_le_mul_of_nonneg_left (G_two hk) h.e0
  have := h.hi
  grind

/-! ### Words -/
/-- The word stands for 'e', up to 'k' roundings and 'A'. -/
structure Wd (k : Nat) (A : Rat) (w : Nat) (e : Rat) : Prop where
  num : Num w
  ap : Ap k A (val w) e

theorem Wd.weak {k k' : Nat} {A A' e : Rat} {w : Nat} (h : Wd k A w e) (hk : k ≤ k') (hA : A ≤ A') : Wd k' A' w e := ⟨h.num, h.ap.weak hk hA⟩

theorem Wd.mul {k1 k2 : Nat} {A1 A2 A e1 e2 : Rat} {x y : Nat} (h1 : Wd k1 A1 x e1) (h2 : Wd k2 A2 y e2) (hk1 : k1 ≤ 1073741824) (hk2 : k2 ≤ 1073741824) (b1 : e1 ≤ 262144) (b2 : e2 ≤ 262144) (a1 : A1 ≤ 1) (a2 : A2 ≤ 1)
    (hA : (A1 * (e2 * G k2) + A2 * (e1 * G k1) + A1 * A2) * (1 + u) + eta ≤ A) : ∃ r, double.mul x y = some r ∧ Wd (k1 + k2 + 1) A r (e1 * e2) := by
  have u1 := h1.ap.up hk1
  have u2 := h2.ap.up hk2
  have hb : val x * val y ≤ 524289 * 524289 := by
    have m1 := Rat.mul_le_mul_of_nonneg_right (show val x ≤ 524289 by grind) h2.ap.c0
    have m2 := Rat.mul_le_mul_of_nonneg_left (show val y ≤ 524289 by grind) (show (0 : Rat) ≤ 524289 by decide +kernel)
    exact Rat.le_trans m1 m2
  obtain ⟨r, e1, e2, e3⟩ := mul_spec h1.num h2.num (Rat.mul_nonneg h1.ap.c0 h2.ap.c0) (big_lt (Rat.le_trans hb (by decide +kernel)))
  exact ⟨r, e1, e2, h1.ap.mul h2.ap e3 hA⟩

theorem Wd.add {k : Nat} {A1 A2 A e1 e2 : Rat} {x y : Nat} (h1 : Wd k A1 x e1) (h2 : Wd k A2 y e2) (hk : k ≤ 1073741824) (b1 : e1 ≤ 1048576) (b2 : e2 ≤ 1048576) (a1 : A1 ≤ 1) (a2 : A2 ≤ 1)
    (hA : (A1 + A2) * (1 + u) ≤ A) : ∃ r, double.add x y = some r ∧ Wd (k + 1) A r (e1 + e2) := by
  have u1 := h1.ap.up hk
  have u2 := h2.ap.up hk
  have c1 := h1.ap.c0
  have c2 := h2.ap.c0
  obtain ⟨r, e1, e2, e3⟩ := add_spec h1.num h2.num (big_lt (by grind)) (neg_big_lt (by grind))
  exact ⟨r, e1, e2, h1.ap.add h2.ap e3 hA⟩

theorem num_zero : Num 0 := ⟨false, 0, -1074, by decide +kernel⟩
theorem val_zero : val 0 = 0 := by
  rw [val_of (show double.read 0 = .number false 0 (-1074) by decide +kernel)]; simp
theorem one_read : double.read 4607182418800017408 = .number false 4503599627370496 (-52) := by decide +kernel
theorem num_one : Num 4607182418800017408 := ⟨_, _, _, one_read⟩
theorem val_one : val 4607182418800017408 = 1 := by
  rw [val_of one_read]
  unfold tw; decide +kernel
theorem wd_zero : Wd 0 0 0 0 := ⟨num_zero, by rw [val_zero]; exact Ap.self Rat.le_refl⟩
theorem wd_one : Wd 0 0 4607182418800017408 1 := ⟨num_one, by rw [val_one]; exact Ap.self (by decide +kernel)⟩

/-- A word in [0, 1]. -/
structure InUnit (w : Nat) : Prop where
  num : Num w
  lo : 0 ≤ val w
  hi : val w ≤ 1
theorem InUnit.wd {w : Nat} (h : InUnit w) : Wd 0 0 w (val w) := ⟨h.num, Ap.self h.lo⟩

/-! ### The powers of v, by one more factor a time -/
def Pw (V : Rat) (k : Nat) (c : Nat) : Prop := Wd k (k * (2 * eta)) c (V ^ k)
theorem pw_zero (V : Rat) : Pw V 0 4607182418800017408 := by
  unfold Pw
  rw [Rat.pow_zero, show ((0 : Nat) : Rat) * (2 * eta) = 0 by simp]
  exact wd_one
theorem natR_le {a b : Nat} (h : a ≤ b) : (a : Rat) ≤ (b : Rat) := Rat.natCast_le_natCast.2 h
theorem pw_step {v c k : Nat} (hv : InUnit v) (hk : k ≤ 1000000) (h : Pw (val v) k c) : ∃ c', double.mul c v = some c' ∧ Pw (val v) (k + 1) c' := by
  have p0 := pow_nn hv.lo k
  have p1 := pow_le_one hv.lo hv.hi k
  have he := eta_pos
  have hes := eta_small
  have hus := u_small
  have hk' : (k : Rat) ≤ 1000000 := natR_le hk
  have hk0 : (0 : Rat) ≤ k := Rat.natCast_nonneg
  have hke := Rat.mul_nonneg hk0 (Rat.le_of_lt he)
  have hke2 := Rat.mul_le_mul_of_nonneg_right hk' (Rat.le_of_lt he)
  have hv' := hv.hi
  have hvke := Rat.mul_nonneg hke (show 0 ≤ 1 - val v by grind)
  obtain ⟨c', h1, h2⟩ := Wd.mul (A := (k + 1 : Nat) * (2 * eta)) h hv.wd (by omega) (by omega) (by grind) (by grind) (by grind) (by decide +kernel) (by
    rw [G_zero, Rat.natCast_add]
    have : ((1 : Nat) : Rat) = 1 := rfl
    have q1 := Rat.mul_le_mul_of_nonneg_left hus hvke
    have q2 := Rat.mul_le_mul_of_nonneg_left hus hke
    have q3 := Rat.mul_nonneg hvke (Rat.le_of_lt u_pos)
    grind)
  refine ⟨c', h1, ?_⟩
  unfold Pw
  rw [Rat.pow_succ]
  exact h2.weak (by omega) Rat.le_refl

theorem one_cast : ((1 : Nat) : Rat) = 1 := rfl
theorem Gone_two : G 1 ≤ 2 := G_two (by decide)

/-! ### AnnuityDue: from the first term up -/
def Sm (V : Rat) (xs : List Rat) (i : Nat) (a : Nat) : Prop := Wd (i + 2) (i * (4000000 * eta)) a (E V (xs.take i))
theorem sm_zero (V : Rat) (xs : List Rat) : Sm V xs 0 0 := by
  unfold Sm
  rw [show ((0 : Nat) : Rat) * (4000000 * eta) = 0 by simp, List.take_zero]
  exact wd_zero.weak (by decide) Rat.le_refl
theorem sm_step {v c w a i : Nat} {xs : List Rat} (hv : InUnit v) (hn : xs.length ≤ 131072) (h2 : In2 xs) (hlt : i < xs.length) (hp : Pw (val v) i c) (hw : Wd 1 0 w xs[i]) (hS : Sm (val v) xs i a) :
    ∃ t a', double.mul c w = some t ∧ double.add a t = some a' ∧ Sm (val v) xs (i + 1) a' := by
  have p0 := pow_nn hv.lo i
  have p1 := pow_le_one hv.lo hv.hi i
  have he := eta_pos
  have hes := eta_small
  have hus := u_small
  have hu := u_pos
  have hi' : (i : Rat) ≤ 131072 := natR_le (b := 131072) (by omega)
  have hi0 : (0 : Rat) ≤ i := Rat.natCast_nonneg
  have hie := Rat.mul_nonneg hi0 (Rat.le_of_lt he)
  have hie2 := Rat.mul_le_mul_of_nonneg_right hi' (Rat.le_of_lt he)
  obtain ⟨x0, x2⟩ := h2 xs[i] (List.getElem_mem hlt)
  have hg := Gone_two
  have hg1 := G_ge 1
  have hxg : xs[i] * G 1 ≤ 4 := by
    have := Rat.mul_le_mul_of_nonneg_left hg x0
    grind
  have hpx : val v ^ i * xs[i] ≤ 2 := by
    have := Rat.mul_le_mul_of_nonneg_right p1 x0
    grind
  obtain ⟨t, t1, t2⟩ := Wd.mul (A := 2000000 * eta) hp hw (by omega) (by omega) (by grind) (by grind) (by grind) (by decide +kernel) (by
    have q1 := Rat.mul_le_mul_of_nonneg_left hxg (show 0 ≤ (i : Rat) * (2 * eta) by grind)
    have q0 := Rat.mul_nonneg (show 0 ≤ (i : Rat) * (2 * eta) by grind) (Rat.mul_nonneg x0 (show 0 ≤ G 1 by grind))
    have q2 := Rat.mul_le_mul_of_nonneg_left hus q0
    generalize (i : Rat) * (2 * eta) * (xs[i] * G 1) = z at *
    grind)
  have eb := E_bounds hv.lo hv.hi (xs.take i) (h2.take i)
  have el : (xs.take i).length ≤ i := List.length_take_le _ _
  have el' : ((xs.take i).length : Rat) ≤ i := natR_le el
  have ht : Wd (i + 2) (2000000 * eta) t (val v ^ i * xs[i]) := t2.weak (by omega) Rat.le_refl
  obtain ⟨a', a1, a2⟩ := Wd.add (A := (i + 1 : Nat) * (4000000 * eta)) hS ht (by omega) (by grind) (by grind) (by grind) (by grind) (by
    rw [Rat.natCast_add, one_cast]
    have q1 := Rat.mul_le_mul_of_nonneg_left hus hie
    have q2 := Rat.mul_le_mul_of_nonneg_left hus (Rat.le_of_lt he)
    grind)
  refine ⟨t, a', t1, a1, ?_⟩
  unfold Sm
  rw [E_take _ _ _ hlt]
  exact a2

/-! ### Horner: from the last term down -/
def Hn (V : Rat) (xs : List Rat) (j : Nat) (h : Nat) : Prop := Wd (2 * j) (j * (4 * eta)) h (E V (xs.drop (xs.length - j)))
theorem hn_zero (V : Rat) (xs : List Rat) : Hn V xs 0 0 := by
  unfold Hn
  rw [show ((0 : Nat) : Rat) * (4 * eta) = 0 by simp, Nat.sub_zero, List.drop_length]
  exact wd_zero
theorem hn_step {v w h j i : Nat} {xs : List Rat} (hv : InUnit v) (hn : xs.length ≤ 131072) (h2 : In2 xs) (hij : i + j + 1 = xs.length) (hw : Wd 0 0 w (xs[i]'(by omega))) (hH : Hn (val v) xs j h) :
    ∃ t h', double.mul v h = some t ∧ double.add w t = some h' ∧ Hn (val v) xs (j + 1) h' := by
  have he := eta_pos
  have hes := eta_small
  have hus := u_small
  have hu := u_pos
  have hj' : (j : Rat) ≤ 131072 := natR_le (b := 131072) (by omega)
  have hj0 : (0 : Rat) ≤ j := Rat.natCast_nonneg
  have hje := Rat.mul_nonneg hj0 (Rat.le_of_lt he)
  have hje2 := Rat.mul_le_mul_of_nonneg_right hj' (Rat.le_of_lt he)
  have hlt : i < xs.length := by omega
  obtain ⟨x0, x2⟩ := h2 xs[i] (List.getElem_mem hlt)
  have eb := E_bounds hv.lo hv.hi (xs.drop (xs.length - j)) (h2.drop _)
  have el' : ((xs.drop (xs.length - j)).length : Rat) ≤ j := natR_le (by rw [List.length_drop]; omega)
  have v1 := hv.hi
  have v0 := hv.lo
  obtain ⟨t, t1, t2⟩ := Wd.mul (A := j * (4 * eta) * (1 + u) + eta) hv.wd hH (by omega) (by omega) (by grind) (by grind) (by decide +kernel) (by grind) (by
    rw [G_zero]
    have q0 : 0 ≤ (j : Rat) * (4 * eta) * (1 - val v) := Rat.mul_nonneg (by grind) (by grind)
    have q2 := Rat.mul_nonneg q0 (Rat.le_of_lt hu)
    grind)
  have q1 := Rat.mul_le_mul_of_nonneg_left hus hje
  have q2 := Rat.mul_le_mul_of_nonneg_left hus (Rat.le_of_lt he)
  have q3 := Rat.mul_nonneg hje (Rat.le_of_lt hu)
  have q4 := Rat.mul_le_mul_of_nonneg_left hus q3
  have hve : val v * E (val v) (xs.drop (xs.length - j)) ≤ 262144 := by
    have := Rat.mul_le_mul_of_nonneg_right v1 eb.1
    grind
  have hw' : Wd (0 + 2 * j + 1) 0 w xs[i] := hw.weak (by omega) Rat.le_refl
  obtain ⟨h', a1, a2⟩ := Wd.add (A := (j + 1 : Nat) * (4 * eta)) hw' t2 (by omega) (by grind) (by grind) (by decide +kernel) (by grind) (by
    rw [Rat.natCast_add, one_cast]
    grind)
  refine ⟨t, h', t1, a1, ?_⟩
  unfold Hn
  rw [show xs.length - (j + 1) = i by omega, E_drop _ _ _ hlt, show i + 1 = xs.length - j by omega]
  exact a2.weak (by omega) Rat.le_refl

/-! ### v ^ k by squaring -/
theorem G_small {k : Nat} (h : k ≤ 1073741824) : G k ≤ 11 / 10 := by
  have h1 := G_up k (by omega)
  have hk : (k : Rat) ≤ ((1073741824 : Nat) : Rat) := Rat.natCast_le_natCast.2 h
  have h2 := Rat.mul_le_mul_of_nonneg_right hk (Rat.le_of_lt u_pos)
  have e : ((1073741824 : Nat) : Rat) * u = 1 / 8388608 := by rw [u_eq]; decide +kernel
  rw [e] at h2
  grind
theorem sq_bound {A p q : Rat} (hA : 2 * eta ≤ A) (hA1 : A ≤ 1 / 100) (hp1 : p ≤ 11 / 10) (hq1 : q ≤ 11 / 10) : (A * p + A * q + A * A) * (1 + u) + eta ≤ 4 * A := by
  have he := eta_pos
  have hus := u_small
  have hu := u_pos
  have hA0 : 0 ≤ A := by grind
  have a1 := Rat.mul_le_mul_of_nonneg_left hp1 hA0
  have a2 := Rat.mul_le_mul_of_nonneg_left hq1 hA0
  have a3 := Rat.mul_le_mul_of_nonneg_left hA1 hA0
  have a4 : A * p + A * q + A * A ≤ 23 / 10 * A := by grind
  have a5 := Rat.mul_le_mul_of_nonneg_right a4 (show (0 : Rat) ≤ 1 + u by grind)
  have a6 := Rat.mul_le_mul_of_nonneg_left hus hA0
  grind
def Av (B : Nat) : Rat := (B * B : Nat) * (2 * eta)
theorem Av_two (B : Nat) : Av (2 * B) = 4 * Av B := by
  unfold Av
  simp only [Rat.natCast_mul]
  have : ((2 : Nat) : Rat) = 2 := rfl
  grind
theorem Av_ge {B : Nat} (h : 1 ≤ B) : 2 * eta ≤ Av B := by
  unfold Av
  have : ((1 : Nat) : Rat) ≤ ((B * B : Nat) : Rat) := natR_le (Nat.mul_le_mul h h)
  have := Rat.mul_le_mul_of_nonneg_right this (show 0 ≤ 2 * eta by have := eta_pos; grind)
  rw [one_cast] at this
  grind
theorem Av_le {B : Nat} (h : B ≤ 262145) : Av B ≤ 1000000000000 * eta := by
  unfold Av
  have : ((B * B : Nat) : Rat) ≤ ((262145 * 262145 : Nat) : Rat) := natR_le (Nat.mul_le_mul h h)
  have h2 := Rat.mul_le_mul_of_nonneg_right this (show 0 ≤ 2 * eta by have := eta_pos; grind)
  have e : ((262145 * 262145 : Nat) : Rat) = 68720001025 := by decide +kernel
  rw [e] at h2
  have := eta_pos
  grind
/-- The loop's state: 'r' is v ^ a, 'b' is v ^ B, 'k' is still to do. -/
structure Sq (V : Rat) (k0 a B k r b : Nat) : Prop where
  eq : a + B * k = k0
  one : 1 ≤ B
  le : B ≤ 2 * k0 + 1
  wr : Wd a (Av B) r (V ^ a)
  wb : Wd (B - 1) (Av B) b (V ^ B)
theorem sq_start {v : Nat} (hv : InUnit v) (k0 : Nat) : Sq (val v) k0 0 1 k0 4607182418800017408 v := by
  have : 0 ≤ Av 1 := by have := Av_ge (Nat.le_refl 1); have := eta_pos; grind
  refine ⟨by omega, Nat.le_refl _, by omega, ?_, ?_⟩
  · rw [Rat.pow_zero]; exact wd_one.weak (Nat.le_refl _) this
  · rw [Rat.pow_one]; exact hv.wd.weak (Nat.le_refl _) this
theorem Sq.small {V : Rat} {k0 a B k r b : Nat} (h : Sq V k0 a B k r b) (hk0 : k0 ≤ 131072) : 2 * eta ≤ Av B ∧ Av B ≤ 1 / 100 := by
  have h1 := Av_ge h.one
  have h2 := Av_le (B := B) (by have := h.le; omega)
  have := eta_small
  exact ⟨h1, by grind⟩
theorem Sq.leB {V : Rat} {k0 a B k r b : Nat} (h : Sq V k0 a B k r b) (hk : 1 ≤ k) : B ≤ k0 := by
  have := h.eq
  have : B * 1 ≤ B * k := Nat.mul_le_mul_left B hk
  omega
theorem gp {V : Rat} (hV : 0 ≤ V) (hV1 : V ≤ 1) {k j : Nat} (hk : k ≤ 1073741824) : 0 ≤ V ^ j * G k ∧ V ^ j * G k ≤ 11 / 10 := by
  have p0 := pow_nn hV j
  have p1 := pow_le_one hV hV1 j
  have g0 := G_ge k
  have g1 := G_small hk
  have m1 := Rat.mul_le_mul_of_nonneg_right p1 (show 0 ≤ G k by grind)
  exact ⟨Rat.mul_nonneg p0 (by grind), by grind⟩
theorem sq_b {v : Nat} (hv : InUnit v) {k0 a B k r b : Nat} (hk0 : k0 ≤ 131072) (hk : 1 ≤ k) (h : Sq (val v) k0 a B k r b) : ∃ b', double.mul b b = some b' ∧ Wd (2 * B - 1) (Av (2 * B)) b' (val v ^ (2 * B)) := by
  obtain ⟨s1, s2⟩ := h.small hk0
  have hB := h.leB hk
  have h1 := h.one
  have p1 := pow_le_one hv.lo hv.hi B
  obtain ⟨g0, g1⟩ := gp hv.lo hv.hi (k := B - 1) (j := B) (by omega)
  obtain ⟨b', e1, e2⟩ := Wd.mul (A := Av (2 * B)) h.wb h.wb (by omega) (by omega) (by grind) (by grind) (by grind) (by grind) (by
    rw [Av_two]; exact sq_bound s1 s2 g1 g1)
  refine ⟨b', e1, ?_⟩
  rw [show 2 * B = B + B by omega, pow_add']
  rw [show B + B = 2 * B by omega]
  exact e2.weak (by omega) Rat.le_refl
theorem sq_r {v : Nat} (hv : InUnit v) {k0 a B k r b : Nat} (hk0 : k0 ≤ 131072) (hk : 1 ≤ k) (h : Sq (val v) k0 a B k r b) : ∃ r', double.mul r b = some r' ∧ Wd (a + B) (Av (2 * B)) r' (val v ^ (a + B)) := by
  obtain ⟨s1, s2⟩ := h.small hk0
  have hB := h.leB hk
  have h1 := h.one
  have he := h.eq
  have p1 := pow_le_one hv.lo hv.hi B
  have p2 := pow_le_one hv.lo hv.hi a
  obtain ⟨g0, g1⟩ := gp hv.lo hv.hi (k := B - 1) (j := B) (by omega)
  obtain ⟨g2, g3⟩ := gp hv.lo hv.hi (k := a) (j := a) (by omega)
  obtain ⟨r', e1, e2⟩ := Wd.mul (A := Av (2 * B)) h.wr h.wb (by omega) (by omega) (by grind) (by grind) (by grind) (by grind) (by
    rw [Av_two]; exact sq_bound s1 s2 g1 g3)
  refine ⟨r', e1, ?_⟩
  rw [pow_add']
  exact e2.weak (by omega) Rat.le_refl
theorem sq_odd {v : Nat} (hv : InUnit v) {k0 a B k r b : Nat} (hk0 : k0 ≤ 131072) (ho : k % 2 = 1) (h : Sq (val v) k0 a B k r b) :
    ∃ r' b', double.mul r b = some r' ∧ double.mul b b = some b' ∧ Sq (val v) k0 (a + B) (2 * B) (k / 2) r' b' := by
  obtain ⟨r', r1, r2⟩ := sq_r hv hk0 (by omega) h
  obtain ⟨b', b1, b2⟩ := sq_b hv hk0 (by omega) h
  have hB := h.leB (by omega)
  refine ⟨r', b', r1, b1, ?_, by have := h.one; omega, by omega, r2, b2⟩
  have he := h.eq
  have e : B * k = B * (2 * (k / 2) + 1) := by congr 1; omega
  rw [Nat.mul_add, Nat.mul_one, ← Nat.mul_assoc, Nat.mul_comm B 2] at e
  omega
theorem sq_even {v : Nat} (hv : InUnit v) {k0 a B k r b : Nat} (hk0 : k0 ≤ 131072) (hk : 1 ≤ k) (ho : k % 2 = 0) (h : Sq (val v) k0 a B k r b) :
    ∃ b', double.mul b b = some b' ∧ Sq (val v) k0 a (2 * B) (k / 2) r b' := by
  obtain ⟨b', b1, b2⟩ := sq_b hv hk0 (by omega) h
  have hB := h.leB hk
  refine ⟨b', b1, ?_, by have := h.one; omega, by omega, h.wr.weak (Nat.le_refl _) ?_, b2⟩
  · have he := h.eq
    have e : B * k = B * (2 * (k / 2)) := by congr 1; omega
    rw [← Nat.mul_assoc, Nat.mul_comm B 2] at e
    omega
  · rw [Av_two]; have := Av_ge h.one; have := eta_pos; grind
theorem sq_end {V : Rat} {k0 a B r b : Nat} (hk0 : k0 ≤ 131072) (h : Sq V k0 a B 0 r b) : Wd k0 (1000000000000 * eta) r (V ^ k0) := by
  have he := h.eq
  obtain rfl : a = k0 := by omega
  exact h.wr.weak (Nat.le_refl _) (Av_le (by have := h.le; omega))

/-! ### Term by term, from the last down -/
def Ln (V : Rat) (xs : List Rat) (j : Nat) (s : Nat) : Prop := Wd (xs.length + j) (j * (4000000000000 * eta)) s (V ^ (xs.length - j) * E V (xs.drop (xs.length - j)))
theorem ln_zero (V : Rat) (xs : List Rat) : Ln V xs 0 0 := by
  unfold Ln
  rw [show ((0 : Nat) : Rat) * (4000000000000 * eta) = 0 by simp, Nat.sub_zero, List.drop_length]
  rw [show V ^ xs.length * E V [] = 0 by simp [E]]
  exact wd_zero.weak (by omega) Rat.le_refl
theorem ln_step {v w c s j i : Nat} {xs : List Rat} (hv : InUnit v) (hn : xs.length ≤ 131072) (h2 : In2 xs) (hij : i + j + 1 = xs.length) (hw : Wd 0 0 w (xs[i]'(by omega))) (hc : Wd i (1000000000000 * eta) c (val v ^ i)) (hL : Ln (val v) xs j s) :
    ∃ t s', double.mul w c = some t ∧ double.add s t = some s' ∧ Ln (val v) xs (j + 1) s' := by
  have he := eta_pos
  have hes := eta_small
  have hus := u_small
  have hu := u_pos
  have hj' : (j : Rat) ≤ 131072 := natR_le (b := 131072) (by omega)
  have hj0 : (0 : Rat) ≤ j := Rat.natCast_nonneg
  have hje := Rat.mul_nonneg hj0 (Rat.le_of_lt he)
  have hje2 := Rat.mul_le_mul_of_nonneg_right hj' (Rat.le_of_lt he)
  have hlt : i < xs.length := by omega
  obtain ⟨x0, x2⟩ := h2 xs[i] (List.getElem_mem hlt)
  have p0 := pow_nn hv.lo i
  have p1 := pow_le_one hv.lo hv.hi i
  have eb := E_bounds hv.lo hv.hi (xs.drop (xs.length - j)) (h2.drop _)
  have el' : ((xs.drop (xs.length - j)).length : Rat) ≤ j := natR_le (by rw [List.length_drop]; omega)
  obtain ⟨t, t1, t2⟩ := Wd.mul (A := 3000000000000 * eta) hw hc (by omega) (by omega) (by grind) (by grind) (by decide +kernel) (by grind) (by
    rw [G_zero]
    have q0 := Rat.mul_nonneg (Rat.le_of_lt he) x0
    have q1 := Rat.mul_le_mul_of_nonneg_left x2 (Rat.le_of_lt he)
    have q2 := Rat.mul_le_mul_of_nonneg_left hus q0
    grind)
  have hpx : xs[i] * val v ^ i ≤ 2 := by
    have := Rat.mul_le_mul_of_nonneg_left p1 x0
    grind
  have q0 := pow_nn hv.lo (xs.length - j)
  have q1 := pow_le_one hv.lo hv.hi (xs.length - j)
  have hve : val v ^ (xs.length - j) * E (val v) (xs.drop (xs.length - j)) ≤ 262144 := by
    have := Rat.mul_le_mul_of_nonneg_right q1 eb.1
    grind
  have ht : Wd (xs.length + j) (3000000000000 * eta) t (xs[i] * val v ^ i) := t2.weak (by omega) Rat.le_refl
  obtain ⟨s', a1, a2⟩ := Wd.add (A := (j + 1 : Nat) * (4000000000000 * eta)) hL ht (by omega) (by grind) (by grind) (by grind) (by grind) (by
    rw [Rat.natCast_add, one_cast]
    have q1 := Rat.mul_le_mul_of_nonneg_left hus hje
    have q2 := Rat.mul_le_mul_of_nonneg_left hus (Rat.le_of_lt he)
    grind)
  refine ⟨t, s', t1, a1, ?_⟩
  unfold Ln
  rw [show xs.length - (j + 1) = i by omega, E_drop _ _ _ hlt, show xs.length - j = i + 1 by omega] at *
  rw [Rat.pow_succ] at a2
  have e : val v ^ i * (xs[i] + val v * E (val v) (xs.drop (i + 1))) = val v ^ i * val v * E (val v) (xs.drop (i + 1)) + xs[i] * val v ^ i := by grind
  rw [e]
  exact a2.weak (by omega) Rat.le_refl
end Go.Proofs.Qxb6627529a.Flt
