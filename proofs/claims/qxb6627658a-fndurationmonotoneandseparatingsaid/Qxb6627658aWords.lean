/-
  PLAIN FLOATS, by their words: the order, the product with 1e9, the sum with 1, the difference, float64(n) and int64(x), each said of magnitudes. No Go in sight.
-/
import Derived.Test.Qxb6627658aNear
import Derived.Laws.FloatArith
namespace Go.Proofs.Qxb6627658a.Near
open Ieee

theorem word_pos (r : Nat) : double.word false r = r := rfl

/-- digits shifted to a common place -/
theorem V_down (x b : Nat) (h : b ≤ shf x) : V x = dig x * 2 ^ (shf x - b) * 2 ^ b := by
  unfold V
  rw [Nat.mul_assoc, ← Nat.pow_add, Nat.sub_add_cancel h]

theorem signed_pos (m k : Nat) : signed false m k = ((m * 2 ^ k : Nat) : Int) := by simp [signed, Nat.shiftLeft_eq]
theorem signed_neg (m k : Nat) : signed true m k = -((m * 2 ^ k : Nat) : Int) := by simp [signed, Nat.shiftLeft_eq]

theorem order_pos {x y : Nat} (hx : x ≤ inf) (hy : y ≤ inf) : double.order x y = some (compare x y) := by
  unfold Format.order
  by_cases h1 : x = inf
  · subst h1
    rw [read_inf]
    by_cases h2 : y = inf
    · subst h2; rw [read_inf]; decide +kernel
    · rw [read_pos y (by omega)]
      simp only [Datum.order, Bool.false_eq_true, if_false]
      rw [Nat.compare_eq_gt.2 (by omega)]
  · rw [read_pos x (by omega)]
    by_cases h2 : y = inf
    · subst h2
      rw [read_inf]
      simp only [Datum.order, Bool.false_eq_true, if_false]
      rw [Nat.compare_eq_lt.2 (by omega)]
    · rw [read_pos y (by omega)]
      simp only [Datum.order]
      congr 1
      generalize hb : min (shf x) (shf y) = b
      have e1 : (-1074 + (shf x : Int) - min (-1074 + (shf x : Int)) (-1074 + (shf y : Int))).toNat = shf x - b := by omega
      have e2 : (-1074 + (shf y : Int) - min (-1074 + (shf x : Int)) (-1074 + (shf y : Int))).toNat = shf y - b := by omega
      rw [e1, e2, signed_pos, signed_pos]
      have v1 := V_down x b (by omega)
      have v2 := V_down y b (by omega)
      have l1 := V_lt (x := x) (y := y) (by omega) (by omega)
      have l2 := V_lt (x := y) (y := x) (by omega) (by omega)
      rw [v1, v2, Nat.mul_lt_mul_right (Nat.two_pow_pos b)] at l1
      rw [v1, v2, Nat.mul_lt_mul_right (Nat.two_pow_pos b)] at l2
      generalize dig x * 2 ^ (shf x - b) = p at *
      generalize dig y * 2 ^ (shf y - b) = q at *
      rcases Nat.lt_trichotomy p q with h | h | h
      · rw [Nat.compare_eq_lt.2 (l1.1 h)]
        exact Int.compare_eq_lt.2 (by omega)
      · have : x = y := by omega
        rw [this, Nat.compare_eq_eq.2 rfl]
        exact Int.compare_eq_eq.2 (by omega)
      · rw [Nat.compare_eq_gt.2 (l2.1 h)]
        exact Int.compare_eq_gt.2 (by omega)

/-! ### times 1e9 -/
/-- the word of 1e9 -/
def c9 : Nat := 4741671816366391296
theorem c9_read : double.read c9 = .number false 8388608000000000 (-23) := by decide +kernel
/-- the product's word -/
def P9 (x : Nat) : Nat := N (V x * 67108864000000000)
theorem mul_gen {x y n : Nat} {k : Nat} (hx : x < inf) (hy : double.read y = .number false n ((k : Int) - 26)) : double.mul x y = some (N (V x * (n * 2 ^ k))) := by
  unfold Format.mul
  rw [read_pos x hx, hy]
  simp only [Datum.product, Option.map_some, Format.write, Bool.xor_self]
  rw [nearest_N _ _ _ (by omega), word_pos]
  have : (-1074 + (shf x : Int) + ((k : Int) - 26) + 1100).toNat = shf x + k := by omega
  rw [this, Nat.pow_add]
  unfold V
  rw [Nat.mul_mul_mul_comm]
theorem mul9 {x : Nat} (hx : x < inf) : double.mul x c9 = some (P9 x) := by
  have h := mul_gen (k := 3) hx c9_read
  have e : (8388608000000000 * 2 ^ 3 : Nat) = 67108864000000000 := by decide
  rw [e] at h
  exact h
theorem mul9_inf : double.mul inf c9 = some inf := by decide +kernel
theorem mul9_neg0 : double.mul (2 ^ 63) c9 = some (2 ^ 63) := by decide +kernel
theorem P9_mono {x y : Nat} (hx : x < inf) (hy : y < inf) (h : x ≤ y) : P9 x ≤ P9 y := N_mono (Nat.mul_le_mul_right _ ((V_le hx hy).2 h))
theorem P9_le (x : Nat) : P9 x ≤ inf := N_le_inf _

/-! ### plus 1 -/
def c1 : Nat := 4607182418800017408
theorem c1_read : double.read c1 = .number false (2 ^ 52) (-52) := by decide +kernel
theorem V_c1 : V c1 = 2 ^ 1074 := by decide +kernel
theorem shf_c1 : shf c1 = 1022 := by decide +kernel
theorem c1_lt : c1 < inf := by decide +kernel

/-- the exact sum of two words, at the lower place -/
theorem add_pos {x y : Nat} (hx : x < inf) (hy : y < inf) (h0 : V x + V y ≠ 0) : double.add x y = some (N ((V x + V y) * 2 ^ 26)) := by
  unfold Format.add
  rw [read_pos x hx, read_pos y hy]
  simp only [Datum.sum]
  generalize hb : min (shf x) (shf y) = b
  have e1 : (-1074 + (shf x : Int) - min (-1074 + (shf x : Int)) (-1074 + (shf y : Int))).toNat = shf x - b := by omega
  have e2 : (-1074 + (shf y : Int) - min (-1074 + (shf x : Int)) (-1074 + (shf y : Int))).toNat = shf y - b := by omega
  have e3 : min (-1074 + (shf x : Int)) (-1074 + (shf y : Int)) = -1074 + (b : Int) := by omega
  rw [e1, e2, signed_pos, signed_pos, e3]
  have v1 := V_down x b (by omega)
  have v2 := V_down y b (by omega)
  rw [v1, v2, ← Nat.add_mul] at h0 ⊢
  generalize dig x * 2 ^ (shf x - b) = p at *
  generalize dig y * 2 ^ (shf y - b) = q at *
  have hpq : p + q ≠ 0 := fun h => h0 (by rw [h, Nat.zero_mul])
  have s1 : ¬ ((p : Int) + q = 0) := by omega
  have s2 : ¬ ((p : Int) + q < 0) := by omega
  have s3 : ((p : Int) + q).natAbs = p + q := by omega
  simp only [s1, s2, if_false, decide_false, s3]
  show some (double.nearest false (p + q) (-1074 + (b : Int))) = _
  rw [nearest_N _ _ _ (by omega), word_pos]
  have : (-1074 + (b : Int) + 1100).toNat = b + 26 := by omega
  rw [this, Nat.pow_add, ← Nat.mul_assoc]

/-- the difference -/
theorem sub_pos {x y : Nat} (hx : x < inf) (hy : y < inf) : double.sub x y = some (if V y ≤ V x then N ((V x - V y) * 2 ^ 26) else double.word true (N ((V y - V x) * 2 ^ 26))) := by
  unfold Format.sub
  rw [read_pos x hx, read_pos y hy]
  simp only [Datum.sum, Datum.opposite, Bool.not_false]
  generalize hb : min (shf x) (shf y) = b
  have e1 : (-1074 + (shf x : Int) - min (-1074 + (shf x : Int)) (-1074 + (shf y : Int))).toNat = shf x - b := by omega
  have e2 : (-1074 + (shf y : Int) - min (-1074 + (shf x : Int)) (-1074 + (shf y : Int))).toNat = shf y - b := by omega
  have e3 : min (-1074 + (shf x : Int)) (-1074 + (shf y : Int)) = -1074 + (b : Int) := by omega
  rw [e1, e2, signed_pos, signed_neg, e3]
  have v1 := V_down x b (by omega)
  have v2 := V_down y b (by omega)
  rw [v1, v2]
  generalize dig x * 2 ^ (shf x - b) = p at *
  generalize dig y * 2 ^ (shf y - b) = q at *
  have hle : q * 2 ^ b ≤ p * 2 ^ b ↔ q ≤ p := Nat.mul_le_mul_right_iff (Nat.two_pow_pos b)
  have hpl : (-1074 + (b : Int) + 1100).toNat = b + 26 := by omega
  by_cases h : q ≤ p
  · rw [if_pos (hle.2 h), ← Nat.sub_mul]
    have s2 : ¬ ((p : Int) + -(q : Int) < 0) := by omega
    have s3 : ((p : Int) + -(q : Int)).natAbs = p - q := by omega
    have s4 : (if (p : Int) + -(q : Int) = 0 then (false && true) else decide ((p : Int) + -(q : Int) < 0)) = false := by
      split
      · rfl
      · simp only [s2, decide_false]
    rw [s4, s3]
    show some (double.nearest false (p - q) (-1074 + (b : Int))) = _
    rw [nearest_N _ _ _ (by omega), word_pos, hpl, Nat.pow_add, ← Nat.mul_assoc]
  · rw [if_neg (fun h' => h (hle.1 h')), ← Nat.sub_mul]
    have s1 : ¬ ((p : Int) + -(q : Int) = 0) := by omega
    have s2 : ((p : Int) + -(q : Int) < 0) := by omega
    have s3 : ((p : Int) + -(q : Int)).natAbs = q - p := by omega
    simp only [s1, s2, if_false, decide_true, s3]
    show some (double.nearest true (q - p) (-1074 + (b : Int))) = _
    rw [nearest_N _ _ _ (by omega), hpl, Nat.pow_add, ← Nat.mul_assoc]

/-- float64(n) -/
theorem ofNat_word (n : Nat) : Go.floatOfInt .f64 (n : Int) = N (n * 2 ^ 1100) := by
  show double.nearest (decide ((n : Int) < 0)) (n : Int).natAbs 0 = _
  rw [nearest_N _ _ _ (by omega)]
  have : ¬ ((n : Int) < 0) := by omega
  have e : ((0 : Int) + 1100).toNat = 1100 := by omega
  simp only [this, decide_false, e, Int.natAbs_natCast]
  exact word_pos _
end Go.Proofs.Qxb6627658a.Near
