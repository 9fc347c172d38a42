/-
  PLAIN: which magnitudes have a word; negative words; how far a word lies from the whole number nearest to it. No Go in sight.
-/
import Derived.Test.Qxb6627658aRd
namespace Go.Proofs.Qxb6627658a.Near
open Ieee

/-- FIFTY-THREE DIGITS HAVE A WORD -/
theorem rep (q k : Nat) (hq : q < 2 ^ 53) (hk : k ≤ 2000) : ∃ y, y < inf ∧ V y = q * t2 k := by
  rw [t2_eq]
  by_cases h0 : q = 0
  · subst h0
    exact ⟨0, by decide, by rw [Nat.zero_mul]; decide⟩
  have l1 : 2 ^ q.log2 ≤ q := Nat.log2_self_le h0
  have l2 : q < 2 ^ (q.log2 + 1) := Nat.lt_log2_self
  have l3 : q.log2 ≤ 52 := by
    have := (Nat.log2_lt h0).2 hq
    omega
  obtain ⟨j, hj⟩ : ∃ j, j = min (52 - q.log2) k := ⟨_, rfl⟩
  have hjp := Nat.two_pow_pos j
  have u1 : q * 2 ^ j < 2 ^ 53 := by
    refine Nat.lt_of_lt_of_le (Nat.mul_lt_mul_of_pos_right l2 hjp) ?_
    rw [← Nat.pow_add]
    exact Nat.pow_le_pow_right (by decide) (by omega)
  have u2 : k - j = 0 ∨ 2 ^ 52 ≤ q * 2 ^ j := by
    by_cases h : k - j = 0
    · exact .inl h
    · refine .inr (Nat.le_trans ?_ (Nat.mul_le_mul_right _ l1))
      rw [← Nat.pow_add]
      exact Nat.pow_le_pow_right (by decide) (by omega)
  refine ⟨(k - j) * 2 ^ 52 + q * 2 ^ j, ?_, ?_⟩
  · unfold inf; omega
  · rw [V_rung _ _ (by omega) u2, Nat.mul_assoc, ← Nat.pow_add, show j + (k - j) = k by omega]

/-! ### negative words -/
theorem word_neg (r : Nat) : double.word true r = 2 ^ 63 + r := by show 1 * 2 ^ 63 + r = _; rw [Nat.one_mul]
theorem read_neg (x : Nat) (h : x < inf) : double.read (2 ^ 63 + x) = .number true (dig x) (-1074 + shf x) := by
  unfold inf at h
  have e1 : ((2 ^ 63 + x) / 2 ^ 63 % 2 == 1) = true := by
    rw [show (2 ^ 63 + x) / 2 ^ 63 = 1 by omega]; rfl
  have e2 : (2 ^ 63 + x) % 2 ^ 63 = x := by omega
  unfold Format.read dig shf
  simp only [binade_eq, sw_eq, inf_eq, lp_eq, e1, e2, h, if_true]
  split <;> simp

theorem V_zero {x : Nat} (hx : x < inf) (h : V x = 0) : x = 0 := by
  have h0 : V 0 = 0 := by decide
  have := V_le hx (show 0 < inf by decide)
  omega

theorem order_neg {x y : Nat} (hx : x < inf) (hy : y < inf) : double.order (2 ^ 63 + x) (2 ^ 63 + y) = some (compare y x) := by
  unfold Format.order
  rw [read_neg x hx, read_neg y hy]
  simp only [Datum.order]
  congr 1
  generalize hb : min (shf x) (shf y) = b
  have e1 : (-1074 + (shf x : Int) - min (-1074 + (shf x : Int)) (-1074 + (shf y : Int))).toNat = shf x - b := by omega
  have e2 : (-1074 + (shf y : Int) - min (-1074 + (shf x : Int)) (-1074 + (shf y : Int))).toNat = shf y - b := by omega
  rw [e1, e2, signed_neg, signed_neg]
  have v1 := V_down x b (by omega)
  have v2 := V_down y b (by omega)
  have l1 := V_lt (x := x) (y := y) (by omega) (by omega)
  have l2 := V_lt (x := y) (y := x) (by omega) (by omega)
  rw [v1, v2, Nat.mul_lt_mul_right (Nat.two_pow_pos b)] at l1
  rw [v1, v2, Nat.mul_lt_mul_right (Nat.two_pow_pos b)] at l2
  generalize dig x * 2 ^ (shf x - b) = p at *
  generalize dig y * 2 ^ (shf y - b) = q at *
  rcases Nat.lt_trichotomy p q with h | h | h
  · rw [Nat.compare_eq_gt.2 (l1.1 h)]
    exact Int.compare_eq_gt.2 (by omega)
  · have : x = y := by omega
    rw [this, Nat.compare_eq_eq.2 rfl]
    exact Int.compare_eq_eq.2 (by omega)
  · rw [Nat.compare_eq_lt.2 (l2.1 h)]
    exact Int.compare_eq_lt.2 (by omega)

theorem order_negpos {x y : Nat} (hx : x < inf) (hy : y < inf) (h0 : x ≠ 0) : double.order (2 ^ 63 + x) y = some .lt := by
  unfold Format.order
  rw [read_neg x hx, read_pos y hy]
  simp only [Datum.order]
  congr 1
  generalize hb : min (shf x) (shf y) = b
  have e1 : (-1074 + (shf x : Int) - min (-1074 + (shf x : Int)) (-1074 + (shf y : Int))).toNat = shf x - b := by omega
  have e2 : (-1074 + (shf y : Int) - min (-1074 + (shf x : Int)) (-1074 + (shf y : Int))).toNat = shf y - b := by omega
  rw [e1, e2, signed_neg, signed_pos]
  have v1 := V_down x b (by omega)
  have hp : dig x * 2 ^ (shf x - b) ≠ 0 := fun h => h0 (V_zero hx (by rw [v1, h, Nat.zero_mul]))
  generalize dig x * 2 ^ (shf x - b) = p at *
  generalize dig y * 2 ^ (shf y - b) = q at *
  exact Int.compare_eq_lt.2 (by omega)
theorem order_posneg {x y : Nat} (hx : x < inf) (hy : y < inf) (h0 : y ≠ 0) : double.order x (2 ^ 63 + y) = some .gt := by
  unfold Format.order
  rw [read_pos x hx, read_neg y hy]
  simp only [Datum.order]
  congr 1
  generalize hb : min (shf x) (shf y) = b
  have e1 : (-1074 + (shf x : Int) - min (-1074 + (shf x : Int)) (-1074 + (shf y : Int))).toNat = shf x - b := by omega
  have e2 : (-1074 + (shf y : Int) - min (-1074 + (shf x : Int)) (-1074 + (shf y : Int))).toNat = shf y - b := by omega
  rw [e1, e2, signed_pos, signed_neg]
  have v1 := V_down y b (by omega)
  have hp : dig y * 2 ^ (shf y - b) ≠ 0 := fun h => h0 (V_zero hy (by rw [v1, h, Nat.zero_mul]))
  generalize dig x * 2 ^ (shf x - b) = p at *
  generalize dig y * 2 ^ (shf y - b) = q at *
  exact Int.compare_eq_gt.2 (by omega)

/-! ### how far a word lies from the whole number nearest to it -/
theorem T_eq : t2 1074 = t2 1073 * 2 := t2_succ 1073
theorem D_low (p : Nat) : D p * t2 1074 ≤ V p + t2 1073 := Nat.div_mul_le_self _ _
theorem D_high (p : Nat) : V p + t2 1073 < D p * t2 1074 + t2 1074 := by
  have := Nat.lt_div_mul_add (a := V p + t2 1073) (t2_pos 1074)
  exact this

theorem dig_lt (p : Nat) : dig p < 2 ^ 53 := by unfold dig; split <;> omega

/-- the distance is a whole number below 2 ^ 53 of the word's own units -/
theorem dist (p : Nat) : ∃ q k, q < 2 ^ 53 ∧ k ≤ 2000 ∧ (V p - D p * t2 1074) + (D p * t2 1074 - V p) = q * t2 k := by
  have hl := D_low p
  have hh := D_high p
  have hT := T_eq
  have hd := dig_lt p
  by_cases h1 : 1074 ≤ shf p
  · refine ⟨0, 0, by decide, by decide, ?_⟩
    have e : V p = dig p * t2 (shf p - 1074) * t2 1074 := by
      unfold V
      rw [Nat.mul_assoc, ← t2_add, show shf p - 1074 + 1074 = shf p by omega, t2_eq]
    have e2 : D p = dig p * t2 (shf p - 1074) := by
      unfold D
      rw [e, half_div]
    rw [e2, ← e, Nat.sub_self, Nat.zero_mul]
  · have e : t2 1074 = 2 ^ (1074 - shf p) * 2 ^ shf p := (t2_split (by omega)).symm
    by_cases h2 : shf p < 1021
    · have h3 : V p < t2 1073 := by
        have e3 : t2 1073 = 2 ^ (1073 - shf p) * 2 ^ shf p := (t2_split (by omega)).symm
        rw [e3]
        unfold V
        refine Nat.mul_lt_mul_of_pos_right (Nat.lt_of_lt_of_le hd ?_) (Nat.two_pow_pos _)
        exact Nat.pow_le_pow_right (by decide) (by omega)
      have h4 : D p = 0 := by unfold D; exact Nat.div_eq_of_lt (by omega)
      refine ⟨dig p, shf p, hd, by omega, ?_⟩
      rw [h4, Nat.zero_mul, Nat.sub_zero, Nat.zero_sub, Nat.add_zero, t2_eq]
      rfl
    · have e3 : t2 1073 = 2 ^ (1073 - shf p) * 2 ^ shf p := (t2_split (by omega)).symm
      have hs := Nat.two_pow_pos (shf p)
      have h5 : 2 ^ (1073 - shf p) ≤ 2 ^ 52 := Nat.pow_le_pow_right (by decide) (by omega)
      have eV : V p = dig p * 2 ^ shf p := rfl
      rw [e, ← Nat.mul_assoc, e3] at hl
      rw [e3, e, ← Nat.mul_assoc] at hh
      rw [e, e3] at hT
      rw [e, ← Nat.mul_assoc, eV]
      rw [eV, ← Nat.add_mul] at hl
      rw [eV, ← Nat.add_mul, ← Nat.add_mul] at hh
      rw [Nat.mul_right_comm] at hT
      have hl' := Nat.le_of_mul_le_mul_right hl hs
      have hh' := Nat.lt_of_mul_lt_mul_right hh
      have hT' := Nat.eq_of_mul_eq_mul_right hs hT
      refine ⟨(dig p - D p * 2 ^ (1074 - shf p)) + (D p * 2 ^ (1074 - shf p) - dig p), shf p, ?_, by omega, ?_⟩
      · omega
      · rw [t2_eq, Nat.add_mul, Nat.sub_mul, Nat.sub_mul]

/-- float64(d) IS what Round gave -/
theorem ofD {p : Nat} (hp : p < inf) : Go.floatOfInt .f64 (D p : Int) = rd p := by
  have e : t2 1100 = t2 1074 * 2 ^ 26 := by rw [← t2_eq 26]; exact t2_add 1074 26
  have h := ofNat_word (D p)
  rw [← t2_eq 1100, e, ← Nat.mul_assoc, ← rd_V p hp, N_V (rd p) (rd_inf hp)] at h
  exact h

/-- THE DIFFERENCE, and how it stands to -0.5 and to 0.5 -/
theorem near_half {p : Nat} (hp : p < inf) : ∃ y, double.sub p (rd p) = some y ∧ (double.order y 13826050856027422720 = some .gt ∨ double.order y 13826050856027422720 = some .eq) ∧ double.order y 4602678819172646912 = some .lt := by
  obtain ⟨q, k, hq, hk, hdist⟩ := dist p
  obtain ⟨y, hy, hV⟩ := rep q k hq hk
  have hl := D_low p
  have hh := D_high p
  have hT := T_eq
  have hi : half < inf := by decide
  have hv := half_V
  have c1 : 13826050856027422720 = 2 ^ 63 + half := by decide
  have c2 : 4602678819172646912 = half := by decide
  have hb := sub_pos hp (rd_inf hp)
  rw [rd_V p hp] at hb
  rw [c1, c2]
  by_cases h : D p * t2 1074 ≤ V p
  · rw [if_pos h] at hb
    have e : V p - D p * t2 1074 = V y := by omega
    rw [e, N_V y hy] at hb
    have hlt : y < half := (V_lt hy hi).1 (by omega)
    refine ⟨y, hb, .inl (order_posneg hy hi (by decide)), ?_⟩
    rw [order_pos (Nat.le_of_lt hy) (Nat.le_of_lt hi), Nat.compare_eq_lt.2 hlt]
  · rw [if_neg h] at hb
    have e : D p * t2 1074 - V p = V y := by omega
    rw [e, N_V y hy, word_neg] at hb
    have hle : y ≤ half := (V_le hy hi).1 (by omega)
    have h0 : y ≠ 0 := fun h0 => by
      subst h0
      have z : V 0 = 0 := by decide
      omega
    refine ⟨2 ^ 63 + y, hb, ?_, order_negpos hy hi h0⟩
    rw [order_neg hy hi]
    by_cases he : half = y
    · exact .inr (by rw [Nat.compare_eq_eq.2 he])
    · exact .inl (by rw [Nat.compare_eq_gt.2 (by omega)])

/-! ### a nanosecond apart -/
theorem apart {p q s : Nat} (hp : p < inf) (hq : q < 1075 * 2 ^ 52) (ha : s = N ((V p + V c1) * 2 ^ 26)) (hs : s ≤ q) : D p < D q := by
  have hl := D_low p
  have hT := T_eq
  have hqi : q < inf := by unfold inf; omega
  have hpos := t2_pos 1073
  have hpq : p ≤ q := by
    refine Nat.le_trans ?_ hs
    have := N_mono (Nat.mul_le_mul_right (2 ^ 26) (Nat.le_add_right (V p) (V c1)))
    rw [N_V p hp] at this
    omega
  -- the whole number lies below 2 ^ 52
  have hm : D p ≤ 2 ^ 52 := by
    have h1 := D_mono hp (show 1075 * 2 ^ 52 < inf by decide) (Nat.le_trans hpq (Nat.le_of_lt hq))
    have h2 : D (1075 * 2 ^ 52) = 2 ^ 52 := by
      unfold D
      rw [pow_V 1074, t2_add 52 1074, half_div, t2_eq]
    omega
  have hc : D p * (t2 1073 * 2) ≤ V p + t2 1073 := by rw [← hT]; exact hl
  have hm' : D p ≠ 2 ^ 52 := fun he => by
    have h2 : V (1075 * 2 ^ 52) ≤ V p + V c1 := by
      rw [pow_V 1074, t2_add 52 1074, c1_V, t2_eq 52, hT]
      rw [he] at hc
      omega
    have := N_mono (Nat.mul_le_mul_right (2 ^ 26) h2)
    rw [N_V _ (by decide)] at this
    omega
  obtain ⟨y, hy, hV⟩ := rep (2 * D p + 1) 1073 (by omega) (by decide)
  have eV : V y = D p * (t2 1073 * 2) + t2 1073 := by
    rw [hV, Nat.add_mul, Nat.one_mul, Nat.mul_comm 2, Nat.mul_assoc, Nat.mul_comm 2]
  have hys : y ≤ q := by
    refine Nat.le_trans ?_ hs
    have h2 : V y ≤ V p + V c1 := by
      rw [eV, c1_V]
      omega
    have := N_mono (Nat.mul_le_mul_right (2 ^ 26) h2)
    rw [N_V y hy] at this
    omega
  have h3 := D_mono hy hqi hys
  have h4 : D y = D p + 1 := by
    unfold D at *
    rw [eV, Nat.add_assoc, show t2 1073 + t2 1073 = 1 * t2 1074 by omega, ← hT, ← Nat.add_mul, Nat.mul_div_cancel _ (t2_pos 1074)]
  omega
end Go.Proofs.Qxb6627658a.Near
