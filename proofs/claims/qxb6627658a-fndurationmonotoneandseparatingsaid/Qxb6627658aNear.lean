/-
  PLAIN FLOATS, by their words: the magnitude of a word in units of 2 ^ -1074 ('V'); rounding as a function of a whole number of units of 2 ^ -1100 ('N'): it keeps the order, and a word's own magnitude rounds to that word. No Go in sight.
-/
import Ieee.Arith
namespace Go.Proofs.Qxb6627658a.Near
open Ieee

/-! ### Rounding a quotient to the nearest, ties to even -/
def rn (n g : Nat) : Nat := n / g + (decide (g < 2 * (n % g)) || (g == 2 * (n % g) && n / g % 2 == 1)).toNat

theorem cut_eq (neg : Bool) (n d : Nat) : Toward.even.cut neg n d = rn n (2 ^ d) := by
  have hlt : n < 2 ^ (n.log2 + 1) := Nat.lt_log2_self
  unfold Toward.cut rn
  simp only [Nat.one_shiftLeft]
  by_cases hd : d ≤ n.log2 + 2
  · rw [Nat.min_eq_left hd]
  · rw [Nat.min_eq_right (by omega)]
    have h4 : 2 ^ (n.log2 + 2) = 2 * 2 ^ (n.log2 + 1) := by rw [Nat.pow_succ 2 (n.log2 + 1), Nat.mul_comm]
    have h5 : 2 ^ (n.log2 + 2) ≤ 2 ^ d := Nat.pow_le_pow_right (by decide) (by omega)
    have hb : n < 2 ^ (n.log2 + 2) := by omega
    have hb' : n < 2 ^ d := by omega
    have h1 : ¬ 2 ^ (n.log2 + 2) < 2 * n := by omega
    have h1' : ¬ 2 ^ d < 2 * n := by omega
    have h2 : (2 ^ (n.log2 + 2) == 2 * n) = false := by rw [beq_eq_false_iff_ne]; omega
    have h2' : (2 ^ d == 2 * n) = false := by rw [beq_eq_false_iff_ne]; omega
    rw [Nat.div_eq_of_lt hb, Nat.mod_eq_of_lt hb, Nat.div_eq_of_lt hb', Nat.mod_eq_of_lt hb']
    simp only [h1, h1', decide_false, h2, h2', Bool.false_and, Bool.or_false]

theorem rn_scale (n g k : Nat) (hk : 0 < k) : rn (n * k) (g * k) = rn n g := by
  unfold rn
  rw [Nat.mul_div_mul_right _ _ hk, Nat.mul_mod_mul_right]
  have e1 : decide (g * k < 2 * (n % g * k)) = decide (g < 2 * (n % g)) := by
    rw [← Nat.mul_assoc]
    exact decide_eq_decide.2 (Nat.mul_lt_mul_right hk)
  have e2 : (g * k == 2 * (n % g * k)) = (g == 2 * (n % g)) := by
    rw [← Nat.mul_assoc, Bool.eq_iff_iff, beq_iff_eq, beq_iff_eq]
    exact ⟨Nat.eq_of_mul_eq_mul_right hk, fun h => congrArg (· * k) h⟩
  rw [e1, e2]
theorem rn_one (n : Nat) : rn n 1 = n := by simp [rn, Nat.mod_one]
theorem rn_exact (n g : Nat) (hg : 0 < g) : rn (n * g) g = n := by
  have := rn_scale n 1 g hg
  rw [Nat.one_mul] at this
  rw [this, rn_one]
theorem rn_mono {n n' g : Nat} (h : n ≤ n') : rn n g ≤ rn n' g := by
  unfold rn
  have e := Nat.div_add_mod n g
  have e' := Nat.div_add_mod n' g
  have hq : n / g ≤ n' / g := Nat.div_le_div_right h
  have b1 : ∀ b : Bool, b.toNat ≤ 1 := fun b => by cases b <;> decide
  by_cases hlt : n / g < n' / g
  · have := b1 (decide (g < 2 * (n % g)) || (g == 2 * (n % g) && n / g % 2 == 1))
    omega
  · have heq : n / g = n' / g := by omega
    rw [heq] at e ⊢
    have hr : n % g ≤ n' % g := by omega
    refine Nat.add_le_add_left ?_ _
    generalize n' / g = q at *
    generalize n % g = r at *
    generalize n' % g = r' at *
    have key : (decide (g < 2 * r) || (g == 2 * r && q % 2 == 1)) = true → (decide (g < 2 * r') || (g == 2 * r' && q % 2 == 1)) = true := by
      simp only [Bool.or_eq_true, Bool.and_eq_true, decide_eq_true_eq, beq_iff_eq]
      omega
    cases h1 : (decide (g < 2 * r) || (g == 2 * r && q % 2 == 1)) with
    | false => exact Nat.zero_le _
    | true => rw [key h1]; exact Nat.le_refl _

/-! ### Words -/
theorem binade_eq : double.binade = 2 ^ 52 := rfl
theorem sw_eq : double.signWeight = 2 ^ 63 := rfl
theorem inf_eq : double.infRung = 2047 * 2 ^ 52 := rfl
theorem lp_eq : double.leastPlace = -1074 := rfl
def inf : Nat := 2047 * 2 ^ 52

/-- the digits of a word, and how far they are shifted up -/
def dig (x : Nat) : Nat := if x < 2 ^ 52 then x else 2 ^ 52 + x % 2 ^ 52
def shf (x : Nat) : Nat := if x < 2 ^ 52 then 0 else x / 2 ^ 52 - 1
/-- the magnitude of a word, in units of 2 ^ -1074 -/
def V (x : Nat) : Nat := dig x * 2 ^ shf x

theorem read_pos (x : Nat) (h : x < inf) : double.read x = .number false (dig x) (-1074 + shf x) := by
  unfold inf at h
  have e1 : (x / 2 ^ 63 % 2 == 1) = false := by rw [Nat.div_eq_of_lt (by omega)]; rfl
  have e2 : x % 2 ^ 63 = x := Nat.mod_eq_of_lt (by omega)
  unfold Format.read dig shf
  simp only [binade_eq, sw_eq, inf_eq, lp_eq, e1, e2, h, if_true]
  split <;> simp
theorem read_inf : double.read inf = .infinity false := by decide +kernel

/-- ROUNDING: of 'v' units of 2 ^ -1100 -/
def gp (v : Nat) : Nat := max (v.log2 - 52) 26
def N (v : Nat) : Nat := if v = 0 then 0 else min ((gp v - 26) * 2 ^ 52 + rn v (2 ^ gp v)) inf

theorem log2_mul (m j : Nat) (h : m ≠ 0) : (m * 2 ^ j).log2 = m.log2 + j := by
  have h1 : 2 ^ m.log2 ≤ m := Nat.log2_self_le h
  have h2 : m < 2 ^ (m.log2 + 1) := Nat.lt_log2_self
  have h3 : m * 2 ^ j ≠ 0 := Nat.mul_ne_zero h (Nat.ne_of_gt (Nat.two_pow_pos j))
  rw [Nat.log2_eq_iff h3]
  constructor
  · rw [Nat.pow_add]; exact Nat.mul_le_mul_right _ h1
  · rw [show m.log2 + j + 1 = m.log2 + 1 + j by omega, Nat.pow_add]
    exact Nat.mul_lt_mul_of_pos_right h2 (Nat.two_pow_pos j)

theorem nearest_N (neg : Bool) (mag : Nat) (place : Int) (hp : -1100 ≤ place) : double.nearest neg mag place = double.word neg (N (mag * 2 ^ (place + 1100).toNat)) := by
  by_cases hm : mag = 0
  · subst hm
    simp [Format.nearest, N]
  have hn : double.nearest neg mag place = double.word neg (min (((max (place + mag.log2 - 52) (-1074)) + 1074).toNat * 2 ^ 52 + Toward.even.cut neg (mag <<< (place - (max (place + mag.log2 - 52) (-1074))).toNat) ((max (place + mag.log2 - 52) (-1074)) - place).toNat) (2047 * 2 ^ 52)) := by
    unfold Format.nearest
    rw [if_neg hm]
    rfl
  rw [hn]
  congr 1
  obtain ⟨j, hj⟩ : ∃ j : Nat, (place + 1100).toNat = j := ⟨_, rfl⟩
  have hpl : place = (j : Int) - 1100 := by omega
  subst hpl
  rw [hj]
  have hv : mag * 2 ^ j ≠ 0 := Nat.mul_ne_zero hm (Nat.ne_of_gt (Nat.two_pow_pos j))
  unfold N inf
  rw [if_neg hv]
  have hg : gp (mag * 2 ^ j) = max (mag.log2 + j - 52) 26 := by unfold gp; rw [log2_mul mag j hm]
  rw [hg, cut_eq, Nat.shiftLeft_eq]
  generalize hl : (max ((j : Int) - 1100 + mag.log2 - 52) (-1074)) = last
  generalize hd : max (mag.log2 + j - 52) 26 = d
  have e1 : (last + 1074).toNat = d - 26 := by omega
  rw [e1]
  congr 2
  by_cases hc : last ≤ (j : Int) - 1100
  · have z : (last - ((j : Int) - 1100)).toNat = 0 := by omega
    rw [z, Nat.pow_zero, rn_one]
    have e2 : j = ((j : Int) - 1100 - last).toNat + d := by omega
    generalize ((j : Int) - 1100 - last).toNat = a at *
    rw [e2, Nat.pow_add, ← Nat.mul_assoc, rn_exact _ _ (Nat.two_pow_pos d)]
  · have z : (((j : Int) - 1100) - last).toNat = 0 := by omega
    rw [z, Nat.pow_zero, Nat.mul_one]
    have e2 : d = (last - ((j : Int) - 1100)).toNat + j := by omega
    generalize (last - ((j : Int) - 1100)).toNat = a at *
    rw [e2, Nat.pow_add, rn_scale _ _ _ (Nat.two_pow_pos j)]

theorem rn_top (v d : Nat) (h : v < 2 ^ (53 + d)) : rn v (2 ^ d) ≤ 2 ^ 53 := by
  have hd := Nat.two_pow_pos d
  have h1 : rn v (2 ^ d) ≤ rn (2 ^ 53 * 2 ^ d) (2 ^ d) := rn_mono (by rw [← Nat.pow_add]; omega)
  rwa [rn_exact _ _ hd] at h1
theorem rn_bot (v d : Nat) (h : 2 ^ (52 + d) ≤ v) : 2 ^ 52 ≤ rn v (2 ^ d) := by
  have hd := Nat.two_pow_pos d
  have h1 : rn (2 ^ 52 * 2 ^ d) (2 ^ d) ≤ rn v (2 ^ d) := rn_mono (by rw [← Nat.pow_add]; omega)
  rwa [rn_exact _ _ hd] at h1

/-- ROUNDING KEEPS THE ORDER -/
theorem N_mono {v v' : Nat} (h : v ≤ v') : N v ≤ N v' := by
  unfold N
  by_cases h0 : v = 0
  · rw [if_pos h0]; exact Nat.zero_le _
  rw [if_neg h0, if_neg (by omega)]
  have hl : v.log2 ≤ v'.log2 := by
    rw [Nat.le_log2 (by omega)]
    exact Nat.le_trans (Nat.log2_self_le h0) h
  have hg : gp v ≤ gp v' := by unfold gp; omega
  have key : (gp v - 26) * 2 ^ 52 + rn v (2 ^ gp v) ≤ (gp v' - 26) * 2 ^ 52 + rn v' (2 ^ gp v') := by
    by_cases he : gp v = gp v'
    · rw [he]
      exact Nat.add_le_add_left (rn_mono h) _
    · have t1 : v.log2 + 1 ≤ 53 + gp v := by unfold gp; omega
      have t2 : 52 + gp v' ≤ v'.log2 := by unfold gp at *; omega
      have b1 : rn v (2 ^ gp v) ≤ 2 ^ 53 := rn_top v _ (Nat.lt_of_lt_of_le Nat.lt_log2_self (Nat.pow_le_pow_right (Nat.le_succ 1) t1))
      have b2 : 2 ^ 52 ≤ rn v' (2 ^ gp v') := rn_bot v' _ (Nat.le_trans (Nat.pow_le_pow_right (Nat.le_succ 1) t2) (Nat.log2_self_le (by omega)))
      have g1 : 26 ≤ gp v := by unfold gp; omega
      generalize rn v (2 ^ gp v) = r1 at *
      generalize rn v' (2 ^ gp v') = r2 at *
      generalize gp v = a at *
      generalize gp v' = b at *
      omega
  exact (Nat.le_min).2 ⟨Nat.le_trans (Nat.min_le_left _ _) key, Nat.min_le_right _ _⟩

theorem N_le_inf (v : Nat) : N v ≤ inf := by
  unfold N
  split
  · exact Nat.zero_le _
  · exact Nat.min_le_right _ _

/-- A WORD's OWN MAGNITUDE ROUNDS TO THAT WORD -/
theorem N_V (y : Nat) (h : y < inf) : N (V y * 2 ^ 26) = y := by
  by_cases h0 : y = 0
  · subst h0; decide +kernel
  have hV : ∀ m k : Nat, m ≠ 0 → m < 2 ^ 53 → (k ≠ 0 → 2 ^ 52 ≤ m) → k * 2 ^ 52 + m < inf → N (m * 2 ^ k * 2 ^ 26) = k * 2 ^ 52 + m := by
    intro m k hm0 hm hk hi
    have e : m * 2 ^ k * 2 ^ 26 = m * 2 ^ (k + 26) := by rw [Nat.mul_assoc, ← Nat.pow_add]
    rw [e]
    unfold N
    rw [if_neg (Nat.mul_ne_zero hm0 (Nat.ne_of_gt (Nat.two_pow_pos _)))]
    have l1 : m.log2 ≤ 52 := by
      have := (Nat.log2_lt hm0).2 hm
      omega
    have l2 : k ≠ 0 → m.log2 = 52 := fun hk0 => by
      have := (Nat.le_log2 hm0).2 (hk hk0)
      omega
    have hg : gp (m * 2 ^ (k + 26)) = k + 26 := by
      unfold gp
      rw [log2_mul _ _ hm0]
      by_cases hk0 : k = 0
      · omega
      · have := l2 hk0; omega
    rw [hg, rn_exact _ _ (Nat.two_pow_pos _), Nat.add_sub_cancel]
    omega
  unfold V dig shf
  unfold inf at h
  split
  · have := hV y 0 h0 (by omega) (fun h => absurd rfl h) (by unfold inf; omega)
    rw [this]; omega
  · have := hV (2 ^ 52 + y % 2 ^ 52) (y / 2 ^ 52 - 1) (by omega) (by omega) (fun _ => by omega) (by unfold inf; omega)
    rw [this]; omega

/-- THE ORDER OF WORDS IS THE ORDER OF MAGNITUDES -/
theorem V_lt {x y : Nat} (hx : x < inf) (hy : y < inf) : V x < V y ↔ x < y := by
  constructor
  · intro h
    refine Nat.lt_of_not_le fun hle => ?_
    refine absurd h (Nat.not_lt.2 ?_)
    have := N_V x hx
    have := N_V y hy
    refine Nat.le_of_not_lt fun hlt => ?_
    have h2 := N_mono (Nat.mul_le_mul_right (2 ^ 26) (Nat.le_of_lt hlt))
    have h3 : x = y := by omega
    rw [h3] at hlt
    exact Nat.lt_irrefl _ hlt
  · intro h
    refine Nat.lt_of_not_le fun hle => ?_
    have h2 := N_mono (Nat.mul_le_mul_right (2 ^ 26) hle)
    rw [N_V x hx, N_V y hy] at h2
    omega
theorem V_le {x y : Nat} (hx : x < inf) (hy : y < inf) : V x ≤ V y ↔ x ≤ y := by
  have := V_lt hy hx
  omega
end Go.Proofs.Qxb6627658a.Near
