/-
  PLAIN: math.Round by words, and the whole number that it stands for. No Go in sight.
-/
import Derived.Test.Qxb6627658aWords
namespace Go.Proofs.Qxb6627658a.Near
open Ieee

/-- 2 ^ e, shut -/
@[irreducible] def t2 (e : Nat) : Nat := 2 ^ e
theorem t2_eq (e : Nat) : t2 e = 2 ^ e := by unfold t2; rfl
theorem t2_pos (e : Nat) : 0 < t2 e := by rw [t2_eq]; exact Nat.two_pow_pos e
theorem t2_split {a b c : Nat} (h : a + b = c) : 2 ^ a * 2 ^ b = t2 c := by rw [t2_eq, ← h, Nat.pow_add]
theorem t2_succ (e : Nat) : t2 (e + 1) = t2 e * 2 := by rw [t2_eq, t2_eq, Nat.pow_succ]
theorem t2_add (a b : Nat) : t2 (a + b) = t2 a * t2 b := by rw [t2_eq, t2_eq, t2_eq, Nat.pow_add]

theorem V_rung (k c : Nat) (hc : c ≤ 2 ^ 53) (h : k = 0 ∨ 2 ^ 52 ≤ c) : V (k * 2 ^ 52 + c) = c * 2 ^ k := by
  unfold V dig shf
  by_cases h1 : k * 2 ^ 52 + c < 2 ^ 52
  · have hk : k = 0 := by omega
    subst hk
    rw [if_pos h1, if_pos h1]
    simp
  · rw [if_neg h1, if_neg h1]
    by_cases h2 : c < 2 ^ 53
    · have e1 : 2 ^ 52 + (k * 2 ^ 52 + c) % 2 ^ 52 = c := by omega
      have e2 : (k * 2 ^ 52 + c) / 2 ^ 52 - 1 = k := by omega
      rw [e1, e2]
    · have h3 : c = 2 ^ 53 := by omega
      subst h3
      have e1 : 2 ^ 52 + (k * 2 ^ 52 + 2 ^ 53) % 2 ^ 52 = 2 ^ 52 := by omega
      have e2 : (k * 2 ^ 52 + 2 ^ 53) / 2 ^ 52 - 1 = k + 1 := by omega
      rw [e1, e2, ← Nat.pow_add, ← Nat.pow_add, show 52 + (k + 1) = 53 + k by omega]

/-- the whole number nearest to a word, a half rounded up -/
def D (p : Nat) : Nat := (V p + t2 1073) / t2 1074
theorem D_mono {p q : Nat} (hp : p < inf) (hq : q < inf) (h : p ≤ q) : D p ≤ D q :=
  Nat.div_le_div_right (Nat.add_le_add_right ((V_le hp hq).2 h) _)

/-- math.Round, by words -/
def rd (p : Nat) : Nat :=
  if p / 2 ^ 52 < 1022 then 0 else if p / 2 ^ 52 = 1022 then c1 else
  if p / 2 ^ 52 < 1075 then (p + 2 ^ (1074 - p / 2 ^ 52)) / 2 ^ (1075 - p / 2 ^ 52) * 2 ^ (1075 - p / 2 ^ 52) else p

def half : Nat := 1022 * 2 ^ 52
theorem pow_V (k : Nat) : V ((k + 1) * 2 ^ 52) = t2 (52 + k) := by
  have h := V_rung k (2 ^ 52) (by decide) (.inr (Nat.le_refl _))
  rw [t2_split rfl] at h
  rw [← h, show (k + 1) * 2 ^ 52 = k * 2 ^ 52 + 2 ^ 52 by rw [Nat.add_mul, Nat.one_mul]]
theorem half_V : V half = t2 1073 := pow_V 1021
theorem c1_eq : c1 = 1023 * 2 ^ 52 := by decide
theorem c1_V : V c1 = t2 1074 := by rw [c1_eq]; exact pow_V 1022
theorem top_V : V (1086 * 2 ^ 52) = t2 63 * t2 1074 := by rw [← t2_add]; exact pow_V 1085

theorem mid_key (s g m : Nat) (hg1 : 1 ≤ g) (hg : g ≤ 52) (hm : 2 ^ 52 ≤ m) (hm2 : m < 2 ^ 53) (hs : s + g = 1074) :
    (s * 2 ^ 52 + m + 2 ^ (g - 1)) / 2 ^ g * 2 ^ g = s * 2 ^ 52 + (m + 2 ^ (g - 1)) / 2 ^ g * 2 ^ g ∧
    2 ^ 52 ≤ (m + 2 ^ (g - 1)) / 2 ^ g * 2 ^ g ∧ (m + 2 ^ (g - 1)) / 2 ^ g * 2 ^ g ≤ 2 ^ 53 ∧
    (m * 2 ^ s + t2 1073) / t2 1074 = (m + 2 ^ (g - 1)) / 2 ^ g := by
  have hG := Nat.two_pow_pos g
  have e52 : 2 ^ 52 = 2 ^ (52 - g) * 2 ^ g := by rw [← Nat.pow_add, show 52 - g + g = 52 by omega]
  have e53 : 2 ^ 53 = 2 ^ (53 - g) * 2 ^ g := by rw [← Nat.pow_add, show 53 - g + g = 53 by omega]
  have eg : 2 ^ g = 2 ^ (g - 1) * 2 := by rw [← Nat.pow_succ, show (g - 1).succ = g by omega]
  have hS := Nat.two_pow_pos s
  refine ⟨?_, ?_, ?_, ?_⟩
  · rw [Nat.add_assoc]
    generalize m + 2 ^ (g - 1) = n
    rw [e52, ← Nat.mul_assoc, Nat.add_comm (s * 2 ^ (52 - g) * 2 ^ g), Nat.add_mul_div_right _ _ hG, Nat.add_mul, Nat.add_comm]
  · rw [e52]
    refine Nat.mul_le_mul_right _ ?_
    rw [Nat.le_div_iff_mul_le hG, ← e52]
    omega
  · rw [e53]
    refine Nat.mul_le_mul_right _ ?_
    refine Nat.le_of_lt_succ ?_
    rw [Nat.div_lt_iff_lt_mul hG, Nat.succ_mul, ← e53]
    omega
  · have e1 : t2 1073 = 2 ^ (g - 1) * 2 ^ s := (t2_split (by omega)).symm
    have e2 : t2 1074 = 2 ^ g * 2 ^ s := (t2_split (by omega)).symm
    rw [e1, e2, ← Nat.add_mul, Nat.mul_div_mul_right _ _ hS]

/-- a word's magnitude from its fields -/
theorem V_fields (p : Nat) (h : 2 ^ 52 ≤ p) : V p = (2 ^ 52 + p % 2 ^ 52) * 2 ^ (p / 2 ^ 52 - 1) := by
  unfold V dig shf
  rw [if_neg (by omega), if_neg (by omega)]

theorem half_div (n : Nat) : (n * t2 1074 + t2 1073) / t2 1074 = n := by
  have h : t2 1073 < t2 1074 := by have h1 : t2 1074 = t2 1073 * 2 := t2_succ 1073; have := t2_pos 1073; omega
  rw [Nat.add_comm, Nat.add_mul_div_right _ _ (t2_pos _), Nat.div_eq_of_lt h, Nat.zero_add]

/-- WHAT ROUND GIVES STANDS FOR THAT WHOLE NUMBER -/
theorem rd_V (p : Nat) (hp : p < inf) : V (rd p) = D p * t2 1074 := by
  have hh : t2 1074 = t2 1073 * 2 := t2_succ 1073
  have hi : half < inf := by decide
  have hc := c1_lt
  unfold rd
  by_cases h1 : p / 2 ^ 52 < 1022
  · rw [if_pos h1]
    have h2 : V p < V half := (V_lt hp hi).2 (by unfold half; omega)
    rw [half_V] at h2
    unfold D
    rw [Nat.div_eq_of_lt (by omega), Nat.zero_mul]
    decide
  · rw [if_neg h1]
    by_cases h2 : p / 2 ^ 52 = 1022
    · rw [if_pos h2, c1_V]
      have h3 : V half ≤ V p := (V_le hi hp).2 (by unfold half; omega)
      have h4 : V p < V c1 := (V_lt hp hc).2 (by unfold c1; omega)
      rw [half_V] at h3
      rw [c1_V] at h4
      have h5 : D p = 1 := by
        unfold D
        refine Nat.div_eq_of_lt_le ?_ ?_ <;> omega
      rw [h5, Nat.one_mul]
    · rw [if_neg h2]
      by_cases h3 : p / 2 ^ 52 < 1075
      · rw [if_pos h3]
        obtain ⟨k1, k2, k3, k4⟩ := mid_key (p / 2 ^ 52 - 1) (1075 - p / 2 ^ 52) (2 ^ 52 + p % 2 ^ 52) (by omega) (by omega) (by omega) (by omega) (by omega)
        have e1 : 1075 - p / 2 ^ 52 - 1 = 1074 - p / 2 ^ 52 := by omega
        have e2 : (p / 2 ^ 52 - 1) * 2 ^ 52 + (2 ^ 52 + p % 2 ^ 52) = p := by omega
        rw [e1, e2] at k1
        rw [k1]
        rw [V_rung _ _ (by rw [e1] at k3; exact k3) (.inr (by rw [e1] at k2; exact k2))]
        have hD : D p = (2 ^ 52 + p % 2 ^ 52 + 2 ^ (1074 - p / 2 ^ 52)) / 2 ^ (1075 - p / 2 ^ 52) := by
          unfold D
          rw [V_fields p (by omega), k4, e1]
        rw [hD, Nat.mul_assoc, t2_split (show 1075 - p / 2 ^ 52 + (p / 2 ^ 52 - 1) = 1074 by omega)]
      · rw [if_neg h3]
        have e3 : V p = (2 ^ 52 + p % 2 ^ 52) * 2 ^ (p / 2 ^ 52 - 1075) * t2 1074 := by
          rw [V_fields p (by omega), Nat.mul_assoc, ← t2_eq (p / 2 ^ 52 - 1075), ← t2_add, show p / 2 ^ 52 - 1075 + 1074 = p / 2 ^ 52 - 1 by omega, t2_eq]
        unfold D
        rw [e3, half_div]

theorem rd_small {p : Nat} (h : p / 2 ^ 52 < 1075) : rd p ≤ 1075 * 2 ^ 52 := by
  unfold rd
  by_cases h1 : p / 2 ^ 52 < 1022
  · rw [if_pos h1]; exact Nat.zero_le _
  · rw [if_neg h1]
    by_cases h2 : p / 2 ^ 52 = 1022
    · rw [if_pos h2]; unfold c1; omega
    · rw [if_neg h2, if_pos h]
      obtain ⟨k1, k2, k3, k4⟩ := mid_key (p / 2 ^ 52 - 1) (1075 - p / 2 ^ 52) (2 ^ 52 + p % 2 ^ 52) (by omega) (by omega) (by omega) (by omega) (by omega)
      have e1 : 1075 - p / 2 ^ 52 - 1 = 1074 - p / 2 ^ 52 := by omega
      have e2 : (p / 2 ^ 52 - 1) * 2 ^ 52 + (2 ^ 52 + p % 2 ^ 52) = p := by omega
      rw [e1, e2] at k1
      rw [e1] at k3
      rw [k1]
      omega
theorem rd_great {p : Nat} (h : 1075 ≤ p / 2 ^ 52) : rd p = p := by
  unfold rd
  rw [if_neg (by omega), if_neg (by omega), if_neg (by omega)]
theorem rd_top (p : Nat) : rd p < 1086 * 2 ^ 52 ↔ p < 1086 * 2 ^ 52 := by
  by_cases h : p / 2 ^ 52 < 1075
  · have := rd_small h
    omega
  · rw [rd_great (by omega)]
theorem rd_inf {p : Nat} (h : p < inf) : rd p < inf := by
  unfold inf at *
  by_cases h : p / 2 ^ 52 < 1075
  · have := rd_small h
    omega
  · rw [rd_great (by omega)]; omega
/-- the number fits an int64 -/
theorem D_top {p : Nat} (h : p < 1086 * 2 ^ 52) : D p < t2 63 := by
  have hp : p < inf := by unfold inf; omega
  have h1 := (V_lt (rd_inf hp) (show 1086 * 2 ^ 52 < inf by decide)).2 ((rd_top p).2 h)
  rw [rd_V p hp, top_V] at h1
  exact Nat.lt_of_mul_lt_mul_right h1
end Go.Proofs.Qxb6627658a.Near
