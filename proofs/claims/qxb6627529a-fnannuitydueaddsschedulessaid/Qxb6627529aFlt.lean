/-
  PLAIN FLOATS: what the words of IEEE 754's double stand for, as rational numbers; how far a rounded sum, product or difference lies from the exact one. No Go in sight.
-/
import Ieee.Arith
namespace Go.Proofs.Qxb6627529a.Flt
open Ieee

/-! ### Powers of two -/
def tw (e : Int) : Rat := (2 : Rat) ^ e

theorem tw_pos (e : Int) : 0 < tw e := Rat.zpow_pos (by decide)
theorem tw_add (a b : Int) : tw (a + b) = tw a * tw b := Rat.zpow_add (by decide) a b
theorem tw_zero : tw 0 = 1 := Rat.zpow_zero _
theorem tw_nat (n : Nat) : tw (n : Int) = ((2 ^ n : Nat) : Rat) := by
  unfold tw
  rw [Rat.zpow_natCast, Rat.natCast_pow]
  rfl
theorem tw_one : tw 1 = 2 := Rat.zpow_one _
theorem tw_le {a b : Int} (h : a ≤ b) : tw a ≤ tw b := by
  obtain ⟨n, rfl⟩ : ∃ n : Nat, b = a + n := ⟨(b - a).toNat, by omega⟩
  rw [tw_add, tw_nat]
  have h1 : ((1 : Nat) : Rat) ≤ ((2 ^ n : Nat) : Rat) := Rat.natCast_le_natCast.2 Nat.one_le_two_pow
  have := Rat.mul_le_mul_of_nonneg_left h1 (Rat.le_of_lt (tw_pos a))
  rw [Rat.natCast_ofNat] at this
  grind
theorem tw_lt {a b : Int} (h : a < b) : tw a < tw b := by
  have h1 := tw_le (show a + 1 ≤ b by omega)
  rw [tw_add, tw_one] at h1
  have := tw_pos a
  grind
theorem lt_of_tw {a b : Int} (h : tw a < tw b) : a < b := by
  refine Int.not_le.1 fun hn => ?_
  have := tw_le hn
  grind

/-! ### 'cut' to the nearest -/
theorem cut_zero (neg : Bool) (n : Nat) : Toward.even.cut neg n 0 = n := by
  simp [Toward.cut, Nat.mod_one]

theorem cut_err (neg : Bool) (n d : Nat) : 2 * (Toward.even.cut neg n d * 2 ^ d) ≤ 2 * n + 2 ^ d ∧ 2 * n ≤ 2 * (Toward.even.cut neg n d * 2 ^ d) + 2 ^ d := by
  have hlt : n < 2 ^ (n.log2 + 1) := Nat.lt_log2_self
  unfold Toward.cut
  simp only [Nat.one_shiftLeft]
  by_cases hd : d ≤ n.log2 + 2
  · rw [Nat.min_eq_left hd]
    have hg : 0 < 2 ^ d := Nat.two_pow_pos d
    generalize 2 ^ d = g at hg
    have e := Nat.div_add_mod n g
    have hr := Nat.mod_lt n hg
    generalize hq : n / g = q at e
    generalize n % g = r at e hr
    have hm : (decide (g < 2 * r) || (g == 2 * r && q % 2 == 1)).toNat * g = 0 ∨ (decide (g < 2 * r) || (g == 2 * r && q % 2 == 1)).toNat * g = g := by
      cases (decide (g < 2 * r) || (g == 2 * r && q % 2 == 1)) <;> simp
    have hc : (q + (decide (g < 2 * r) || (g == 2 * r && q % 2 == 1)).toNat) * g = g * q + (decide (g < 2 * r) || (g == 2 * r && q % 2 == 1)).toNat * g := by
      rw [Nat.add_mul, Nat.mul_comm q]
    by_cases h1 : g < 2 * r
    · simp only [h1, decide_true, Bool.true_or, Bool.toNat_true] at hc ⊢
      omega
    · by_cases h2 : g = 2 * r
      · rw [hc]
        omega
      · simp only [h1, decide_false, Bool.false_or, beq_eq_false_iff_ne.2 h2, Bool.false_and, Bool.toNat_false] at hc ⊢
        omega
  · rw [Nat.min_eq_right (by omega)]
    have h4 : 2 ^ (n.log2 + 2) = 2 * 2 ^ (n.log2 + 1) := by rw [Nat.pow_succ 2 (n.log2 + 1), Nat.mul_comm]
    have hb : n < 2 ^ (n.log2 + 2) := by omega
    have h1 : ¬ 2 ^ (n.log2 + 2) < 2 * n := by omega
    have h2 : (2 ^ (n.log2 + 2) == 2 * n) = false := by rw [beq_eq_false_iff_ne]; omega
    have h5 : 2 ^ (n.log2 + 2) ≤ 2 ^ d := Nat.pow_le_pow_right (by decide) (by omega)
    rw [Nat.div_eq_of_lt hb, Nat.mod_eq_of_lt hb]
    simp only [h1, decide_false, h2, Bool.false_and, Bool.or_false, Bool.toNat_false]
    omega

/-! ### Words -/
theorem binade_eq : double.binade = 2 ^ 52 := rfl
theorem sw_eq : double.signWeight = 2 ^ 63 := rfl
theorem inf_eq : double.infRung = 2047 * 2 ^ 52 := rfl
theorem lp_eq : double.leastPlace = -1074 := rfl

theorem read_word (neg : Bool) (rung : Nat) (h : rung < 2047 * 2 ^ 52) :
    double.read (double.word neg rung) = if rung < 2 ^ 52 then .number neg rung (-1074) else .number neg (2 ^ 52 + rung % 2 ^ 52) (-1074 + (rung / 2 ^ 52 - 1 : Nat)) := by
  have hr : rung < 2 ^ 63 := by omega
  have e1 : (double.word neg rung / 2 ^ 63 % 2 == 1) = neg := by
    cases neg
    · have : double.word false rung = rung := rfl
      rw [this, Nat.div_eq_of_lt hr]; rfl
    · have : double.word true rung = 2 ^ 63 + rung := rfl
      rw [this, Nat.add_div_left _ (by decide), Nat.div_eq_of_lt hr]; rfl
  have e2 : double.word neg rung % 2 ^ 63 = rung := by
    cases neg
    · exact Nat.mod_eq_of_lt hr
    · have : double.word true rung = 2 ^ 63 + rung := rfl
      rw [this, Nat.add_mod_left, Nat.mod_eq_of_lt hr]
  unfold Format.read
  simp only [binade_eq, sw_eq, inf_eq, lp_eq, e1, e2, h, if_true]

theorem read_rung (neg : Bool) (L kept : Nat) (hk : kept ≤ 2 ^ 53) (hL : L = 0 ∨ 2 ^ 52 ≤ kept) (hb : L * 2 ^ 52 + kept < 2047 * 2 ^ 52) :
    ∃ m e, double.read (double.word neg (L * 2 ^ 52 + kept)) = .number neg m e ∧ (m : Rat) * tw e = kept * tw (L - 1074) := by
  rw [read_word neg _ hb]
  by_cases h1 : kept < 2 ^ 52
  · obtain rfl : L = 0 := by omega
    refine ⟨kept, -1074, ?_, ?_⟩
    · simp [h1]
    · simp
  · by_cases h2 : kept < 2 ^ 53
    · refine ⟨kept, -1074 + L, ?_, ?_⟩
      · rw [if_neg (by omega)]
        have d1 : (L * 2 ^ 52 + kept) % 2 ^ 52 = kept - 2 ^ 52 := by omega
        have d2 : (L * 2 ^ 52 + kept) / 2 ^ 52 - 1 = L := by omega
        have d3 : 2 ^ 52 + (kept - 2 ^ 52) = kept := by omega
        rw [d1, d2, d3]
      · rw [show (-1074 + L : Int) = L - 1074 by omega]
    · obtain rfl : kept = 2 ^ 53 := by omega
      refine ⟨2 ^ 52, -1074 + (L + 1 : Nat), ?_, ?_⟩
      · rw [if_neg (by omega)]
        have d1 : (L * 2 ^ 52 + 2 ^ 53) % 2 ^ 52 = 0 := by omega
        have d2 : (L * 2 ^ 52 + 2 ^ 53) / 2 ^ 52 - 1 = L + 1 := by omega
        rw [d1, d2]
      · have : (-1074 + (L + 1 : Nat) : Int) = (L - 1074) + 1 := by omega
        rw [this, tw_add, tw_one]
        have : ((2 ^ 53 : Nat) : Rat) = ((2 ^ 52 : Nat) : Rat) * 2 := by decide +kernel
        rw [this]
        grind

theorem kept_exact (mag a L : Nat) (h1 : a + mag.log2 ≤ 52) (hm : mag ≠ 0) (hL : L ≠ 0 → a + mag.log2 = 52) : mag <<< a ≤ 2 ^ 53 ∧ (L = 0 ∨ 2 ^ 52 ≤ mag <<< a) := by
  rw [Nat.shiftLeft_eq]
  have hlt : mag < 2 ^ (mag.log2 + 1) := Nat.lt_log2_self
  have hle : 2 ^ mag.log2 ≤ mag := Nat.log2_self_le hm
  constructor
  · have a1 : mag * 2 ^ a ≤ 2 ^ (mag.log2 + 1) * 2 ^ a := Nat.mul_le_mul_right _ (Nat.le_of_lt hlt)
    rw [← Nat.pow_add] at a1
    exact Nat.le_trans a1 (Nat.pow_le_pow_right (by decide) (by omega))
  · by_cases h : L = 0
    · exact .inl h
    · have a1 : 2 ^ mag.log2 * 2 ^ a ≤ mag * 2 ^ a := Nat.mul_le_mul_right _ hle
      rw [← Nat.pow_add, show mag.log2 + a = 52 by have := hL h; omega] at a1
      exact .inr a1

theorem kept_cut (neg : Bool) (mag d L : Nat) (h1 : mag.log2 ≤ 52 + d) (hm : mag ≠ 0) (hL : L ≠ 0 → mag.log2 = 52 + d) : Toward.even.cut neg mag d ≤ 2 ^ 53 ∧ (L = 0 ∨ 2 ^ 52 ≤ Toward.even.cut neg mag d) := by
  obtain ⟨c1, c2⟩ := cut_err neg mag d
  have hlt : mag < 2 ^ (mag.log2 + 1) := Nat.lt_log2_self
  have hle : 2 ^ mag.log2 ≤ mag := Nat.log2_self_le hm
  generalize Toward.even.cut neg mag d = c at c1 c2
  have hD : 0 < 2 ^ d := Nat.two_pow_pos d
  constructor
  · have a1 : 2 ^ (mag.log2 + 1) ≤ 2 ^ 53 * 2 ^ d := by rw [← Nat.pow_add]; exact Nat.pow_le_pow_right (by decide) (by omega)
    refine Nat.le_of_not_lt fun hc => ?_
    have a2 : (2 ^ 53 + 1) * 2 ^ d ≤ c * 2 ^ d := Nat.mul_le_mul_right _ hc
    rw [Nat.add_mul] at a2
    omega
  · by_cases h : L = 0
    · exact .inl h
    · refine .inr (Nat.le_of_not_lt fun hc => ?_)
      have a1 : 2 ^ 52 * 2 ^ d = 2 ^ mag.log2 := by rw [← Nat.pow_add, hL h]
      have a2 : (c + 1) * 2 ^ d ≤ 2 ^ 52 * 2 ^ d := Nat.mul_le_mul_right _ hc
      rw [Nat.add_mul] at a2
      omega

/-- WHAT 'nearest' WRITES, AS A NUMBER: 'kept * 2 ^ last'. -/
theorem nearest_spec (neg : Bool) (mag : Nat) (place : Int) (hm : mag ≠ 0) (hb : place + mag.log2 ≤ 1000) :
    ∃ (m : Nat) (e : Int) (kept : Nat) (last : Int), double.read (double.nearest neg mag place) = .number neg m e ∧ (m : Rat) * tw e = kept * tw last ∧ last = max (place + mag.log2 - 52) (-1074) ∧
      ((last ≤ place ∧ (kept : Rat) * tw last = mag * tw place) ∨
        (place < last ∧ 2 * ((kept : Rat) * tw last) ≤ 2 * (mag * tw place) + tw last ∧ 2 * ((mag : Rat) * tw place) ≤ 2 * (kept * tw last) + tw last)) := by
  have hn : double.nearest neg mag place = double.word neg (min (((max (place + mag.log2 - 52) (-1074)) + 1074).toNat * 2 ^ 52 + Toward.even.cut neg (mag <<< (place - (max (place + mag.log2 - 52) (-1074))).toNat) ((max (place + mag.log2 - 52) (-1074)) - place).toNat) (2047 * 2 ^ 52)) := by
    unfold Format.nearest
    rw [if_neg hm]
    rfl
  rw [hn]
  generalize hl : max (place + mag.log2 - 52) (-1074) = last
  have hl1 : place + mag.log2 - 52 ≤ last := by omega
  have hl2 : -1074 ≤ last := by omega
  have hl3 : last = place + mag.log2 - 52 ∨ last = -1074 := by omega
  have hl4 : last ≤ 948 := by omega
  generalize hLd : (last + 1074).toNat = L
  have eL : (L : Int) - 1074 = last := by omega
  by_cases hc : last ≤ place
  · have z : (last - place).toNat = 0 := by omega
    rw [z, cut_zero]
    generalize ha : (place - last).toNat = a
    have hk := kept_exact mag a L (by omega) hm (fun h => by omega)
    have hlt : L * 2 ^ 52 + mag <<< a < 2047 * 2 ^ 52 := by omega
    rw [Nat.min_eq_left (Nat.le_of_lt hlt)]
    obtain ⟨m, e, h1, h2⟩ := read_rung neg L (mag <<< a) hk.1 hk.2 hlt
    rw [eL] at h2
    refine ⟨m, e, mag <<< a, last, h1, h2, rfl, .inl ⟨hc, ?_⟩⟩
    rw [Nat.shiftLeft_eq, Rat.natCast_mul, ← tw_nat, Rat.mul_assoc, ← tw_add]
    rw [show ((a : Int) + last) = place by omega]
  · have z : (place - last).toNat = 0 := by omega
    rw [z, Nat.shiftLeft_zero]
    generalize hd : (last - place).toNat = d
    have hk := kept_cut neg mag d L (by omega) hm (fun h => by omega)
    obtain ⟨c1, c2⟩ := cut_err neg mag d
    generalize Toward.even.cut neg mag d = c at hk c1 c2
    have hlt : L * 2 ^ 52 + c < 2047 * 2 ^ 52 := by omega
    rw [Nat.min_eq_left (Nat.le_of_lt hlt)]
    obtain ⟨m, e, h1, h2⟩ := read_rung neg L c hk.1 hk.2 hlt
    rw [eL] at h2
    have et : tw last = ((2 ^ d : Nat) : Rat) * tw place := by rw [← tw_nat, ← tw_add]; congr 1; omega
    have q1 := Rat.natCast_le_natCast.2 c1
    have q2 := Rat.natCast_le_natCast.2 c2
    simp only [Rat.natCast_mul, Rat.natCast_add] at q1 q2
    have r1 := Rat.mul_le_mul_of_nonneg_right q1 (Rat.le_of_lt (tw_pos place))
    have r2 := Rat.mul_le_mul_of_nonneg_right q2 (Rat.le_of_lt (tw_pos place))
    refine ⟨m, e, c, last, h1, h2, rfl, .inr ⟨by omega, ?_, ?_⟩⟩
    · rw [et]; simp only [Rat.natCast_ofNat] at r1; grind
    · rw [et]; simp only [Rat.natCast_ofNat] at r2; grind

/-! ### Values -/
def dval : Datum → Rat
  | .number s m e => if s then -((m : Rat) * tw e) else (m : Rat) * tw e
  | _ => 0
/-- WHAT A WORD STANDS FOR. -/
def val (w : Nat) : Rat := dval (double.read w)
/-- The word stands for a number. -/
def Num (w : Nat) : Prop := ∃ s m e, double.read w = .number s m e
def u : Rat := tw (-53)
def eta : Rat := tw (-1075)
theorem u_pos : 0 < u := tw_pos _
theorem eta_pos : 0 < eta := tw_pos _
theorem u_eq : u = 1 / 9007199254740992 := by unfold u tw; decide +kernel

theorem read_place {w : Nat} {s : Bool} {m : Nat} {e : Int} (h : double.read w = .number s m e) : -1074 ≤ e := by
  unfold Format.read at h
  dsimp only at h
  split at h
  · injection h with _ _ h; rw [lp_eq] at h; omega
  · split at h
    · injection h with _ _ h; rw [lp_eq] at h; omega
    · split at h <;> cases h

theorem magn_nonneg (m : Nat) (e : Int) : 0 ≤ (m : Rat) * tw e := Rat.mul_nonneg Rat.natCast_nonneg (Rat.le_of_lt (tw_pos e))

theorem round_spec (neg : Bool) (mag : Nat) (place : Int) (hb : (mag : Rat) * tw place < tw 1000) :
    ∃ (m : Nat) (e : Int), double.read (double.nearest neg mag place) = .number neg m e ∧
      (mag * tw place) * (1 - u) - eta ≤ m * tw e ∧ (m : Rat) * tw e ≤ (mag * tw place) * (1 + u) + eta ∧
      (-1074 ≤ place → (mag * tw place) * (1 - u) ≤ m * tw e ∧ (m : Rat) * tw e ≤ (mag * tw place) * (1 + u)) := by
  have hu := u_pos
  have he := eta_pos
  by_cases hm : mag = 0
  · subst hm
    refine ⟨0, -1074, ?_, ?_⟩
    · have : double.nearest neg 0 place = double.word neg 0 := by simp [Format.nearest]
      rw [this, read_word neg 0 (by decide)]
      rfl
    · have z : ((0 : Nat) : Rat) = 0 := rfl
      rw [z]
      grind
  · have hle : 2 ^ mag.log2 ≤ mag := Nat.log2_self_le hm
    have hx : tw (place + mag.log2) ≤ mag * tw place := by
      rw [tw_add, tw_nat, Rat.mul_comm]
      exact Rat.mul_le_mul_of_nonneg_right (Rat.natCast_le_natCast.2 hle) (Rat.le_of_lt (tw_pos place))
    have hp := lt_of_tw (Rat.not_le.1 fun h => absurd hb (Rat.not_lt.2 (Rat.le_trans h hx)))
    have hx0 := magn_nonneg mag place
    obtain ⟨m, e, kept, last, h1, h2, h3, h4⟩ := nearest_spec neg mag place hm (by omega)
    refine ⟨m, e, h1, ?_⟩
    rw [h2]
    have hxu := Rat.mul_nonneg hx0 (Rat.le_of_lt hu)
    rcases h4 with ⟨_, h4⟩ | ⟨hpl, h5, h6⟩
    · rw [h4]
      grind
    · have hl : last = place + mag.log2 - 52 ∨ last = -1074 := by omega
      rcases hl with hl | hl
      · have e1 : tw last = tw (place + mag.log2) * (u + u) := by
          have : u + u = tw (-52) := by unfold u tw; decide +kernel
          rw [this, ← tw_add]; congr 1
        have e2 := Rat.mul_le_mul_of_nonneg_right hx (Rat.le_of_lt hu)
        generalize tw (place + mag.log2) = t at e1 e2
        generalize (mag : Rat) * tw place = x at *
        generalize (kept : Rat) * tw last = y at *
        grind
      · have e1 : tw last = eta + eta := by
          rw [hl]; unfold eta
          have : (-1074 : Int) = -1075 + 1 := by decide
          rw [this, tw_add, tw_one]; grind
        generalize (mag : Rat) * tw place = x at *
        generalize (kept : Rat) * tw last = y at *
        refine ⟨by grind, by grind, fun h => ?_⟩
        omega

theorem val_of {w : Nat} {s : Bool} {m : Nat} {e : Int} (h : double.read w = .number s m e) : val w = if s then -((m : Rat) * tw e) else (m : Rat) * tw e := by
  unfold val; rw [h]; rfl

/-- 'x' lies within a rounding of the exact 's'. -/
def Near (x s : Rat) : Prop := (0 ≤ s → s * (1 - u) ≤ x ∧ x ≤ s * (1 + u)) ∧ (s ≤ 0 → s * (1 + u) ≤ x ∧ x ≤ s * (1 - u))
/-- The same, underflow let in. -/
def Nearly (x s : Rat) : Prop := (0 ≤ s → 0 ≤ x ∧ s * (1 - u) - eta ≤ x ∧ x ≤ s * (1 + u) + eta)

theorem signed_val (s : Bool) (m : Nat) (i base : Int) (h : base ≤ i) : ((signed s m (i - base).toNat : Int) : Rat) * tw base = if s then -((m : Rat) * tw i) else (m : Rat) * tw i := by
  have e : ((m <<< (i - base).toNat : Nat) : Rat) * tw base = m * tw i := by
    rw [Nat.shiftLeft_eq, Rat.natCast_mul, ← tw_nat, Rat.mul_assoc, ← tw_add]
    congr 2; omega
  unfold signed
  cases s
  · rw [if_neg (by decide), if_neg (by decide), Rat.intCast_natCast]
    exact e
  · rw [if_pos rfl, if_pos rfl, Rat.intCast_neg, Rat.intCast_natCast, Rat.neg_mul, e]

theorem near_pos {s y : Rat} (h0 : 0 ≤ s) (h1 : s * (1 - u) ≤ y) (h2 : y ≤ s * (1 + u)) : Near y s := by
  refine ⟨fun _ => ⟨h1, h2⟩, fun h => ?_⟩
  obtain rfl : s = 0 := Rat.le_antisymm h h0
  grind
theorem near_neg {s y : Rat} (h0 : 0 ≤ -s) (h1 : -s * (1 - u) ≤ y) (h2 : y ≤ -s * (1 + u)) : Near (-y) s := by
  refine ⟨fun h => ?_, fun _ => by constructor <;> grind⟩
  obtain rfl : s = 0 := Rat.le_antisymm (by grind) h
  grind

theorem sum_write {s t : Bool} {m n : Nat} {i j : Int} {a b big : Rat} (hbig : big = tw 1000) (hi : -1074 ≤ i) (hj : -1074 ≤ j) (ha : a = if s then -((m : Rat) * tw i) else (m : Rat) * tw i) (hb : b = if t then -((n : Rat) * tw j) else (n : Rat) * tw j)
    (h1 : a + b < big) (h2 : -big < a + b) : ∃ d r, Datum.sum (.number s m i) (.number t n j) = some d ∧ double.write d = r ∧ Num r ∧ Near (val r) (a + b) := by
  have e1 := signed_val s m i (min i j) (by omega)
  have e2 := signed_val t n j (min i j) (by omega)
  rw [← ha] at e1
  rw [← hb] at e2
  refine ⟨_, _, rfl, rfl, ?_⟩
  generalize htot : signed s m (i - min i j).toNat + signed t n (j - min i j).toNat = total
  have et : (total : Rat) * tw (min i j) = a + b := by rw [← htot, Rat.intCast_add, Rat.add_mul, e1, e2]
  have hp := tw_pos (min i j)
  simp only [Format.write]
  by_cases h0 : total < 0
  · rw [if_neg (by omega)]
    have en : ((total.natAbs : Nat) : Rat) = -(total : Rat) := by
      rw [← Rat.intCast_natCast, ← Rat.intCast_neg]; congr 1; omega
    have ex : ((total.natAbs : Nat) : Rat) * tw (min i j) = -(a + b) := by rw [en, ← et]; grind
    obtain ⟨m', e', q1, q2, q3, q4⟩ := round_spec (decide (total < 0)) total.natAbs (min i j) (by rw [ex, ← hbig]; grind)
    obtain ⟨q5, q6⟩ := q4 (by omega)
    rw [ex] at q5 q6
    refine ⟨⟨_, _, _, q1⟩, ?_⟩
    rw [val_of q1]
    simp only [h0, decide_true, if_true]
    exact near_neg (by rw [← ex]; exact magn_nonneg _ _) q5 q6
  · have en : ((total.natAbs : Nat) : Rat) = (total : Rat) := by
      rw [← Rat.intCast_natCast]; congr 1; omega
    have ex : ((total.natAbs : Nat) : Rat) * tw (min i j) = a + b := by rw [en, ← et]
    generalize hsg : (if total = 0 then s && t else decide (total < 0)) = sg
    obtain ⟨m', e', q1, q2, q3, q4⟩ := round_spec sg total.natAbs (min i j) (by rw [ex, ← hbig]; grind)
    obtain ⟨q5, q6⟩ := q4 (by omega)
    rw [ex] at q5 q6
    refine ⟨⟨_, _, _, q1⟩, ?_⟩
    have hpos : 0 ≤ a + b := by rw [← ex]; exact magn_nonneg _ _
    have hv : val (double.nearest sg total.natAbs (min i j)) = m' * tw e' := by
      rw [val_of q1]
      by_cases hz : total = 0
      · have z : a + b = 0 := by rw [← et, hz]; simp
        rw [z] at q5 q6
        have : (m' : Rat) * tw e' = 0 := by grind
        rw [this]; split <;> simp
      · rw [if_neg hz] at hsg
        rw [← hsg]
        simp [h0]
    rw [hv]
    exact near_pos hpos q5 q6

theorem add_spec {x y : Nat} (hx : Num x) (hy : Num y) (h1 : val x + val y < tw 1000) (h2 : -tw 1000 < val x + val y) :
    ∃ r, double.add x y = some r ∧ Num r ∧ Near (val r) (val x + val y) := by
  obtain ⟨s, m, i, hx⟩ := hx
  obtain ⟨t, n, j, hy⟩ := hy
  obtain ⟨d, r, e1, e2, e3, e4⟩ := sum_write rfl (read_place hx) (read_place hy) (val_of hx) (val_of hy) h1 h2
  refine ⟨r, ?_, e3, e4⟩
  unfold Format.add
  rw [hx, hy, e1, ← e2]; rfl

theorem sub_spec {x y : Nat} (hx : Num x) (hy : Num y) (h1 : val x - val y < tw 1000) (h2 : -tw 1000 < val x - val y) :
    ∃ r, double.sub x y = some r ∧ Num r ∧ Near (val r) (val x - val y) := by
  obtain ⟨s, m, i, hx⟩ := hx
  obtain ⟨t, n, j, hy⟩ := hy
  have eo : -val y = if (!t) then -((n : Rat) * tw j) else (n : Rat) * tw j := by rw [val_of hy]; cases t <;> simp
  have ea : val x + -val y = val x - val y := by rw [Rat.sub_eq_add_neg]
  obtain ⟨d, r, e1, e2, e3, e4⟩ := sum_write rfl (read_place hx) (read_place hy) (val_of hx) eo (by rw [ea]; exact h1) (by rw [ea]; exact h2)
  refine ⟨r, ?_, e3, ea ▸ e4⟩
  unfold Format.sub
  rw [hx, hy]
  simp only [Datum.opposite]
  rw [e1, ← e2]; rfl

theorem mul_spec {x y : Nat} (hx : Num x) (hy : Num y) (h0 : 0 ≤ val x * val y) (h1 : val x * val y < tw 1000) :
    ∃ r, double.mul x y = some r ∧ Num r ∧ Nearly (val r) (val x * val y) := by
  obtain ⟨s, m, i, hx⟩ := hx
  obtain ⟨t, n, j, hy⟩ := hy
  have hp : ((m * n : Nat) : Rat) * tw (i + j) = (m * tw i) * (n * tw j) := by rw [Rat.natCast_mul, tw_add]; grind
  have hmn := magn_nonneg (m * n) (i + j)
  have ev : val x * val y = if (s ^^ t) then -(((m * n : Nat) : Rat) * tw (i + j)) else ((m * n : Nat) : Rat) * tw (i + j) := by
    rw [hp, val_of hx, val_of hy]
    cases s <;> cases t <;> simp <;> grind
  have ev2 : val x * val y = ((m * n : Nat) : Rat) * tw (i + j) := by
    rw [ev] at h0 ⊢
    cases hst : (s ^^ t)
    · rfl
    · rw [hst] at h0; simp only [if_true] at h0 ⊢; grind
  obtain ⟨m', e', q1, q2, q3, q4⟩ := round_spec (s ^^ t) (m * n) (i + j) (by rw [← ev2]; exact h1)
  refine ⟨double.nearest (s ^^ t) (m * n) (i + j), ?_, ⟨_, _, _, q1⟩, ?_⟩
  · unfold Format.mul
    rw [hx, hy]; rfl
  · intro _
    have hv : val (double.nearest (s ^^ t) (m * n) (i + j)) = m' * tw e' := by
      rw [val_of q1]
      cases hst : (s ^^ t)
      · rfl
      · have hz : ((m * n : Nat) : Rat) * tw (i + j) = 0 := by
          rw [hst] at ev; simp only [if_true] at ev; grind
        have : m * n = 0 := by
          rcases Rat.mul_eq_zero.1 hz with h | h
          · exact Rat.natCast_eq_zero_iff.1 h
          · have := tw_pos (i + j); grind
        rw [hst, this] at q1
        have e0 : double.nearest true 0 (i + j) = double.word true 0 := by simp [Format.nearest]
        rw [e0, read_word true 0 (by decide)] at q1
        simp at q1
        rw [← q1.1]
        simp
    rw [hv, ev2]
    exact ⟨magn_nonneg _ _, q2, q3⟩
end Go.Proofs.Qxb6627529a.Flt
