/-
  PLAIN LAW: comparisons, absolute values, and that 'zzClose' says yes. No Go in sight.
-/
import Derived.Test.Qxb6627529aErr
import Derived.Laws.Cover2
namespace Go.Proofs.Qxb6627529a.Flt
open Ieee

/-! ### Comparisons -/
theorem order_num {x y : Nat} (hx : Num x) (hy : Num y) : ∃ a b : Int, double.order x y = some (compare a b) ∧ (a < b ↔ val x < val y) ∧ (a = b ↔ val x = val y) := by
  obtain ⟨s, m, i, hx⟩ := hx
  obtain ⟨t, n, j, hy⟩ := hy
  have e1 := signed_val s m i (min i j) (by omega)
  have e2 := signed_val t n j (min i j) (by omega)
  rw [← val_of hx] at e1
  rw [← val_of hy] at e2
  have hp := tw_pos (min i j)
  refine ⟨signed s m (i - min i j).toNat, signed t n (j - min i j).toNat, ?_, ?_, ?_⟩
  · unfold Format.order; rw [hx, hy]; rfl
  · rw [← e1, ← e2, Rat.mul_lt_mul_right hp, Rat.intCast_lt_intCast]
  · rw [← e1, ← e2]
    constructor
    · intro h; rw [h]
    · intro h
      have : (((signed s m (i - min i j).toNat : Int) : Rat) - (signed t n (j - min i j).toNat : Int)) * tw (min i j) = 0 := by grind
      rcases Rat.mul_eq_zero.1 this with h | h
      · exact Rat.intCast_inj.1 (by grind)
      · grind

theorem order_lt {x y : Nat} (hx : Num x) (hy : Num y) : (double.order x y == some .lt) = decide (val x < val y) := by
  obtain ⟨a, b, h1, h2, h3⟩ := order_num hx hy
  rw [h1, Bool.eq_iff_iff]
  simp [h2, Int.compare_eq_lt]
theorem order_eq {x y : Nat} (hx : Num x) (hy : Num y) : (double.order x y == some .eq) = decide (val x = val y) := by
  obtain ⟨a, b, h1, h2, h3⟩ := order_num hx hy
  rw [h1, Bool.eq_iff_iff]
  simp [h3]
theorem order_gt {x y : Nat} (hx : Num x) (hy : Num y) : (double.order x y == some .gt) = decide (val y < val x) := by
  obtain ⟨a, b, h1, h2, h3⟩ := order_num hx hy
  rw [h1, Bool.eq_iff_iff]
  simp only [beq_iff_eq, Option.some.injEq, Int.compare_eq_gt, decide_eq_true_eq]
  have h4 : (val y < val x) ↔ ¬ (val x < val y) ∧ ¬ (val x = val y) := by grind
  rw [h4, ← h2, ← h3]
  omega

/-- 'x >= 0 && x <= 1' -/
def unitB (x : Nat) : Bool := (double.order x 0 == some .gt || double.order x 0 == some .eq) && (double.order x 4607182418800017408 == some .lt || double.order x 4607182418800017408 == some .eq)
theorem zero_read : double.read 0 = .number false 0 (-1074) := by decide +kernel
theorem unit_of {x : Nat} (h : unitB x = true) : InUnit x := by
  unfold unitB at h
  have hn : Num x := by
    unfold Format.order at h
    rw [zero_read, one_read] at h
    cases hr : double.read x with
    | number s m e => exact ⟨s, m, e, hr⟩
    | infinity s => rw [hr] at h; cases s <;> simp [Datum.order] at h
    | nan s f => rw [hr] at h; simp [Datum.order] at h
  rw [order_gt hn num_zero, order_eq hn num_zero, order_lt hn num_one, order_eq hn num_one, val_zero, val_one] at h
  simp only [Bool.and_eq_true, Bool.or_eq_true, decide_eq_true_eq] at h
  exact ⟨hn, by grind, by grind⟩

/-! ### The opposite -/
theorem read_neg {x : Nat} {s : Bool} {m : Nat} {e : Int} (h : double.read x = .number s m e) : double.read (x ^^^ 2 ^ 63) = .number (!s) m e := by
  have h1 : (x ^^^ 2 ^ 63) % 2 ^ 63 = x % 2 ^ 63 := by
    rw [Nat.xor_mod_two_pow]; simp
  have h2 : ((x ^^^ 2 ^ 63) / 2 ^ 63 % 2 == 1) = !(x / 2 ^ 63 % 2 == 1) := by
    rw [Nat.xor_div_two_pow, Nat.div_self (by decide), ← Nat.pow_one 2, Nat.xor_mod_two_pow]
    have : x / 2 ^ 63 % 2 ^ 1 = 0 ∨ x / 2 ^ 63 % 2 ^ 1 = 1 := by omega
    rcases this with h | h <;> rw [h] <;> rfl
  unfold Format.read at h ⊢
  dsimp only at h ⊢
  rw [sw_eq] at h ⊢
  rw [h1, h2]
  split at h
  · rename_i c; rw [if_pos c]; injection h with a b c; rw [a, b, c]
  · rename_i c; rw [if_neg c]
    split at h
    · rename_i c; rw [if_pos c]; injection h with a b c; rw [a, b, c]
    · split at h <;> cases h
theorem neg_spec {x : Nat} (h : Num x) : Num (x ^^^ 2 ^ 63) ∧ val (x ^^^ 2 ^ 63) = -val x := by
  obtain ⟨s, m, e, h⟩ := h
  have h' := read_neg h
  refine ⟨⟨_, _, _, h'⟩, ?_⟩
  rw [val_of h, val_of h']
  cases s <;> simp

/-! ### float64(n) -/
theorem ofInt_spec {n : Nat} (h : n < 9007199254740992) : Num (Go.floatOfInt .f64 n) ∧ val (Go.floatOfInt .f64 n) = n := by
  have e : Go.floatOfInt .f64 n = double.nearest false n 0 := by
    show double.write (.number (decide ((n : Int) < 0)) (n : Int).natAbs 0) = _
    rw [show decide ((n : Int) < 0) = false by simp, Int.natAbs_natCast]; rfl
  rw [e]
  by_cases hn : n = 0
  · subst hn
    have e0 : double.nearest false 0 0 = 0 := by decide +kernel
    rw [e0]
    exact ⟨num_zero, val_zero⟩
  · have hl : n.log2 < 53 := (Nat.log2_lt hn).2 h
    obtain ⟨m, e, kept, last, h1, h2, h3, h4⟩ := nearest_spec false n 0 hn (by omega)
    refine ⟨⟨_, _, _, h1⟩, ?_⟩
    rw [val_of h1]
    rcases h4 with ⟨_, h4⟩ | ⟨h4, _⟩
    · rw [if_neg (by decide), h2, h4, tw_zero, Rat.mul_one]
    · omega

/-! ### zzClose -/
def beta : Rat := tw (-1000)
theorem beta_pos : 0 < beta := tw_pos _
theorem eta_beta : eta * 1180591620717411303424 ≤ beta := by
  have h : tw (-1005) ≤ beta := tw_le (by decide)
  have e : tw (-1005) = eta * 1180591620717411303424 := by
    have : (-1005 : Int) = -1075 + 70 := by decide
    have e70 : tw 70 = 1180591620717411303424 := by unfold tw; decide +kernel
    rw [this, tw_add, e70]; rfl
  rw [e] at h
  exact h
theorem beta_small : beta ≤ 1 / 1208925819614629174706176 := by
  have h2 : tw (-80) = 1 / 1208925819614629174706176 := by unfold tw; decide +kernel
  rw [← h2]; exact tw_le (by decide)
theorem c48_read : double.read 4391009636686233600 = .number false 4503599627370496 (-100) := by decide +kernel
theorem c1000_read : double.read 103582791429521408 = .number false 4503599627370496 (-1052) := by decide +kernel
theorem c48_val : val 4391009636686233600 = 1 / 281474976710656 := by
  rw [val_of c48_read]
  unfold tw; decide +kernel
theorem c1000_val : val 103582791429521408 = beta := by
  rw [val_of c1000_read, if_neg (by decide)]
  unfold beta
  have e1 : ((4503599627370496 : Nat) : Rat) = tw 52 := by unfold tw; decide +kernel
  rw [e1, ← tw_add]; rfl

theorem ge_of {N m c1 t1 t2 tol : Rat} (hN : 4 ≤ N) (hm : 0 ≤ m)
    (h1 : N * (1 / 281474976710656) * (1 - u) - eta ≤ c1) (h2 : c1 * m * (1 - u) - eta ≤ t1) (h3 : N * beta * (1 - u) - eta ≤ t2) (h4 : (t1 + t2) * (1 - u) ≤ tol) (ht : 0 ≤ t1 + t2) :
    N * m * (1 / 562949953421312) + N * beta / 4 ≤ tol := by
  have hu := u_pos
  have hus := u_small
  have he := eta_pos
  have hes := eta_small
  have hb := beta_pos
  have heb := eta_beta
  have hNb := Rat.mul_le_mul_of_nonneg_right hN (Rat.le_of_lt hb)
  have a1 : 7 / 8 * (N * (1 / 281474976710656)) ≤ c1 := by
    have := Rat.mul_le_mul_of_nonneg_left hus (show 0 ≤ N by grind)
    grind
  have hNm := Rat.mul_nonneg (show 0 ≤ N by grind) hm
  have a2 : 49 / 64 * (N * m * (1 / 281474976710656)) - eta ≤ t1 := by
    have m1 := Rat.mul_le_mul_of_nonneg_right a1 hm
    have m2 := Rat.mul_le_mul_of_nonneg_right m1 (show 0 ≤ 1 - u by grind)
    have m3 := Rat.mul_le_mul_of_nonneg_left hus hNm
    grind
  have a3 : 3 / 4 * (N * beta) ≤ t2 := by
    have := Rat.mul_le_mul_of_nonneg_left hus (show 0 ≤ N * beta by grind)
    grind
  have a4 := Rat.mul_le_mul_of_nonneg_left hus ht
  grind

theorem diff_le {k1 k2 n : Nat} {A e a b N : Rat} (ha : Ap k1 A a e) (hb : Ap k2 A b e) (hk1 : k1 ≤ 2 * n + 6) (hk2 : k2 ≤ 2 * n + 6) (hn : n ≤ 262144) (hN : N = (n + 4 : Nat)) (hA : A ≤ 1000000000000000000 * eta) :
    (a - b) * (1 + u) ≤ N * b * (1 / 562949953421312) + N * beta / 4 := by
  have hu := u_pos
  have hus := u_small
  have he := eta_pos
  have heb := eta_beta
  have hbp := beta_pos
  have g1 := G_up (2 * n + 6) (by omega)
  have d2 := D_down (2 * n + 6)
  have hG := G_mono hk1
  have hD := D_anti hk2
  have hN4 : (4 : Rat) ≤ N := by rw [hN]; exact natR_le (a := 4) (by omega)
  have hK : ((2 * n + 6 : Nat) : Rat) ≤ 2 * N := by
    rw [hN]
    have : ((2 * n + 6 : Nat) : Rat) ≤ ((2 * (n + 4) : Nat) : Rat) := natR_le (by omega)
    rw [Rat.natCast_mul] at this
    exact this
  have hKu := Rat.mul_le_mul_of_nonneg_right hK (Rat.le_of_lt hu)
  have hNs : N ≤ 262148 := by rw [hN]; exact natR_le (b := 262148) (by omega)
  have hNu := Rat.mul_le_mul_of_nonneg_right hNs (Rat.le_of_lt hu)
  have e0 := ha.e0
  have A0 := ha.A0
  have b0 := hb.c0
  have m1 := Rat.mul_le_mul_of_nonneg_left (show G k1 ≤ 1 + 4 * (N * u) by grind) e0
  have m2 := Rat.mul_le_mul_of_nonneg_left (show 1 - 2 * (N * u) ≤ D k2 by grind) e0
  have hi := ha.hi
  have lo := hb.lo
  have s1 : a - b ≤ e * (6 * (N * u)) + 2 * A := by grind
  have s2 : e ≤ 2 * b + 2 * A := by
    have q := Rat.mul_le_mul_of_nonneg_left (show N * u ≤ 1 / 4 by grind) e0
    grind
  have Nu0 : 0 ≤ N * u := Rat.mul_nonneg (by grind) (Rat.le_of_lt hu)
  have s3 := Rat.mul_le_mul_of_nonneg_right s2 (show 0 ≤ 6 * (N * u) by grind)
  have s4 := Rat.mul_le_mul_of_nonneg_right (show N * u ≤ 1 / 100 by grind) A0
  have s5 : a - b ≤ 12 * (N * u * b) + 3 * A := by grind
  have s6 := Rat.mul_le_mul_of_nonneg_right s5 (show 0 ≤ 1 + u by grind)
  have Nub : 0 ≤ N * u * b := Rat.mul_nonneg Nu0 b0
  have s7 := Rat.mul_le_mul_of_nonneg_left hus Nub
  have s8 := Rat.mul_le_mul_of_nonneg_left hus A0
  have hNb := Rat.mul_le_mul_of_nonneg_right hN4 (Rat.le_of_lt hbp)
  have eu : N * b * (1 / 562949953421312) = 16 * (N * u * b) := by rw [u_eq]; grind
  rw [eu]
  grind

theorem near_abs {d s t : Rat} (h : Near d s) (h1 : s * (1 + u) ≤ t) (h2 : -s * (1 + u) ≤ t) : d ≤ t ∧ -d ≤ t := by
  have hu := u_pos
  have hus := u_small
  by_cases hs : 0 ≤ s
  · obtain ⟨a, b⟩ := h.1 hs
    have := Rat.mul_nonneg hs (show 0 ≤ 1 - u by grind)
    have := Rat.mul_nonneg hs (Rat.le_of_lt hu)
    constructor <;> grind
  · have hs' : s ≤ 0 := by grind
    obtain ⟨a, b⟩ := h.2 hs'
    have := Rat.mul_nonneg (show 0 ≤ -s by grind) (show 0 ≤ 1 - u by grind)
    have := Rat.mul_nonneg (show 0 ≤ -s by grind) (Rat.le_of_lt hu)
    constructor <;> grind

/-- ALL OF zzClose's ARITHMETIC: it goes through, and the difference lies within the slack. -/
theorem close_words {k1 k2 n : Nat} {A e : Rat} {a b m : Nat} (ha : Wd k1 A a e) (hb : Wd k2 A b e) (hk1 : k1 ≤ 2 * n + 6) (hk2 : k2 ≤ 2 * n + 6) (hn : n ≤ 262144) (hA : A ≤ 1000000000000000000 * eta) (he : e ≤ 524288)
    (hm : (m = a ∧ val b ≤ val a) ∨ (m = b ∧ val a < val b)) :
    ∃ c1 t1 t2 tol d, double.mul (Go.floatOfInt .f64 (n + 4 : Nat)) 4391009636686233600 = some c1 ∧ double.mul c1 m = some t1 ∧ double.mul (Go.floatOfInt .f64 (n + 4 : Nat)) 103582791429521408 = some t2 ∧ double.add t1 t2 = some tol ∧ double.sub a b = some d ∧
      Num d ∧ Num tol ∧ val d ≤ val tol ∧ -val d ≤ val tol := by
  have hu := u_pos
  have hus := u_small
  have hep := eta_pos
  have hes := eta_small
  have hbp := beta_pos
  have hbs := beta_small
  obtain ⟨k1n, k1v⟩ := ofInt_spec (n := n + 4) (by omega)
  have a0 := ha.ap.c0
  have b0 := hb.ap.c0
  have au := ha.ap.up (by omega)
  have bu := hb.ap.up (by omega)
  have hNs : ((n + 4 : Nat) : Rat) ≤ 262148 := natR_le (b := 262148) (by omega)
  have hN4 : (4 : Rat) ≤ ((n + 4 : Nat) : Rat) := natR_le (a := 4) (by omega)
  have mn : Num m := hm.elim (fun h => h.1 ▸ ha.num) (fun h => h.1 ▸ hb.num)
  have ma : val a ≤ val m := hm.elim (fun h => h.1 ▸ Rat.le_refl) (fun h => h.1 ▸ Rat.le_of_lt h.2)
  have mb : val b ≤ val m := hm.elim (fun h => h.1 ▸ h.2) (fun h => h.1 ▸ Rat.le_refl)
  have mu : val m ≤ 1048577 := by rcases hm with ⟨rfl, _⟩ | ⟨rfl, _⟩ <;> grind
  have m0 : 0 ≤ val m := Rat.le_trans a0 ma
  obtain ⟨c1, p1, p2, p3⟩ := mul_spec k1n ⟨_, _, _, c48_read⟩ (by rw [k1v, c48_val]; grind) (big_lt (by rw [k1v, c48_val]; grind))
  rw [k1v, c48_val] at p3
  obtain ⟨c0, cl, cu⟩ := p3 (by grind)
  have Nu := Rat.mul_le_mul_of_nonneg_left hus (show 0 ≤ ((n + 4 : Nat) : Rat) by grind)
  have c1u : val c1 ≤ 1 := by grind
  have c1m : val c1 * val m ≤ 1048577 := by
    have x1 := Rat.mul_le_mul_of_nonneg_right c1u m0
    grind
  have c1m0 := Rat.mul_nonneg c0 m0
  obtain ⟨t1, q1, q2, q3⟩ := mul_spec p2 mn c1m0 (big_lt (by grind))
  obtain ⟨t10, t1l, t1u⟩ := q3 c1m0
  have Nb0 : 0 ≤ ((n + 4 : Nat) : Rat) * beta := Rat.mul_nonneg (by grind) (Rat.le_of_lt hbp)
  have Nbu := Rat.mul_le_mul_of_nonneg_right hNs (Rat.le_of_lt hbp)
  obtain ⟨t2, r1, r2, r3⟩ := mul_spec k1n ⟨_, _, _, c1000_read⟩ (by rw [k1v, c1000_val]; exact Nb0) (big_lt (by rw [k1v, c1000_val]; grind))
  rw [k1v, c1000_val] at r3
  obtain ⟨t20, t2l, t2u⟩ := r3 Nb0
  have cmu := Rat.mul_le_mul_of_nonneg_left hus c1m0
  have nbu := Rat.mul_le_mul_of_nonneg_left hus Nb0
  have tt : 0 ≤ val t1 + val t2 := Rat.add_nonneg t10 t20
  obtain ⟨tol, s1, s2, s3⟩ := add_spec q2 r2 (big_lt (by grind)) (neg_big_lt (by grind))
  obtain ⟨d, d1, d2, d3⟩ := sub_spec ha.num hb.num (big_lt (by grind)) (neg_big_lt (by grind))
  have tl := (s3.1 tt).1
  have fin := ge_of hN4 m0 cl t1l t2l tl tt
  have x1 := diff_le ha.ap hb.ap hk1 hk2 hn rfl hA
  have x2 := diff_le hb.ap ha.ap hk2 hk1 hn rfl hA
  have y1 := Rat.mul_le_mul_of_nonneg_left mb (show 0 ≤ ((n + 4 : Nat) : Rat) by grind)
  have y2 := Rat.mul_le_mul_of_nonneg_left ma (show 0 ≤ ((n + 4 : Nat) : Rat) by grind)
  obtain ⟨z1, z2⟩ := near_abs (t := val tol) d3 (by grind) (by grind)
  exact ⟨c1, t1, t2, tol, d, p1, q1, r1, s1, d1, d2, s2, z1, z2⟩
end Go.Proofs.Qxb6627529a.Flt
namespace Go.Proofs.Qxb6627529a.Flt
open Ieee
/-! ### The last steps of the two laws -/
theorem Sm.fin {V : Rat} {xs : List Rat} {r n : Nat} (h : Sm V xs xs.length r) (hn : xs.length ≤ n) (h17 : xs.length ≤ 131072) : Wd (2 * n + 6) (1000000000000000000 * eta) r (E V xs) := by
  unfold Sm at h
  rw [List.take_length] at h
  refine h.weak (by omega) ?_
  have h1 : (xs.length : Rat) ≤ 131072 := natR_le (b := 131072) h17
  have h2 := Rat.mul_le_mul_of_nonneg_right h1 (Rat.le_of_lt eta_pos)
  have := eta_pos
  grind
theorem Hn.fin {V : Rat} {xs : List Rat} {r n : Nat} (h : Hn V xs xs.length r) (hn : xs.length ≤ n) (h17 : xs.length ≤ 131072) : Wd (2 * n + 6) (1000000000000000000 * eta) r (E V xs) := by
  unfold Hn at h
  rw [Nat.sub_self, List.drop_zero] at h
  refine h.weak (by omega) ?_
  have h1 : (xs.length : Rat) ≤ 131072 := natR_le (b := 131072) h17
  have h2 := Rat.mul_le_mul_of_nonneg_right h1 (Rat.le_of_lt eta_pos)
  have := eta_pos
  grind
theorem Ln.fin {V : Rat} {xs : List Rat} {r n : Nat} (h : Ln V xs xs.length r) (hn : xs.length ≤ n) (h17 : xs.length ≤ 131072) : Wd (2 * n + 6) (1000000000000000000 * eta) r (E V xs) := by
  unfold Ln at h
  rw [Nat.sub_self, List.drop_zero, Rat.pow_zero, Rat.one_mul] at h
  refine h.weak (by omega) ?_
  have h1 : (xs.length : Rat) ≤ 131072 := natR_le (b := 131072) h17
  have h2 := Rat.mul_le_mul_of_nonneg_right h1 (Rat.le_of_lt eta_pos)
  have := eta_pos
  grind
theorem E_cap {V : Rat} (h : 0 ≤ V) (h1 : V ≤ 1) (xs : List Rat) (hx : In2 xs) (hl : xs.length ≤ 131072) : 0 ≤ E V xs ∧ E V xs ≤ 262144 := by
  have hb := E_bounds h h1 xs hx
  have hl' : (xs.length : Rat) ≤ 131072 := natR_le (b := 131072) hl
  exact ⟨hb.1, by grind⟩

theorem split_fin {v r0 r1 c : Nat} {xs0 xs1 : List Rat} (hv : InUnit v) (h0 : In2 xs0) (h1 : In2 xs1) (hs : xs0.length + xs1.length ≤ 131072) (s0 : Sm (val v) xs0 xs0.length r0) (s1 : Sm (val v) xs1 xs1.length r1) (hp : Pw (val v) xs0.length c) :
    ∃ t s, double.mul c r1 = some t ∧ double.add r0 t = some s ∧ Wd (2 * (xs0.length + xs1.length) + 6) (1000000000000000000 * eta) s (E (val v) (xs0 ++ xs1)) := by
  unfold Sm at s0 s1
  rw [List.take_length] at s0 s1
  unfold Pw at hp
  have b0 := E_cap hv.lo hv.hi xs0 h0 (by omega)
  have b1 := E_cap hv.lo hv.hi xs1 h1 (by omega)
  have p0 := pow_nn hv.lo xs0.length
  have p1 := pow_le_one hv.lo hv.hi xs0.length
  have he := eta_pos
  have hes := eta_small
  have hus := u_small
  have hu := u_pos
  have l0 : (xs0.length : Rat) ≤ 131072 := natR_le (b := 131072) (by omega)
  have l1 : (xs1.length : Rat) ≤ 131072 := natR_le (b := 131072) (by omega)
  have l00 : (0 : Rat) ≤ xs0.length := Rat.natCast_nonneg
  have l10 : (0 : Rat) ≤ xs1.length := Rat.natCast_nonneg
  have m0 := Rat.mul_le_mul_of_nonneg_right l0 (Rat.le_of_lt he)
  have m1 := Rat.mul_le_mul_of_nonneg_right l1 (Rat.le_of_lt he)
  have n0 := Rat.mul_nonneg l00 (Rat.le_of_lt he)
  have n1 := Rat.mul_nonneg l10 (Rat.le_of_lt he)
  generalize hk0 : xs0.length = k0 at *
  generalize xs1.length = k1 at *
  have g1 := G_two (k := k1 + 2) (by omega)
  have g0 := G_two (k := k0) (by omega)
  have gg1 := G_ge (k1 + 2)
  have gg0 := G_ge k0
  have e1 : E (val v) xs1 * G (k1 + 2) ≤ 524288 := by
    have := Rat.mul_le_mul_of_nonneg_right b1.2 (show 0 ≤ G (k1 + 2) by grind)
    grind
  have e2 : val v ^ k0 * G k0 ≤ 2 := by
    have := Rat.mul_le_mul_of_nonneg_right p1 (show 0 ≤ G k0 by grind)
    grind
  obtain ⟨t, t1, t2⟩ := Wd.mul (A := 2000000000000 * eta) hp s1 (by omega) (by omega) (by grind) (by grind) (by grind) (by grind) (by
    have f1 : (k0 : Rat) * (2 * eta) * (E (val v) xs1 * G (k1 + 2)) ≤ 137438953472 * eta := by
      have x := Rat.mul_le_mul_of_nonneg_left e1 (show 0 ≤ (k0 : Rat) * (2 * eta) by grind)
      grind
    have f2 : (k1 : Rat) * (4000000 * eta) * (val v ^ k0 * G k0) ≤ 1048576000000 * eta := by
      have x := Rat.mul_le_mul_of_nonneg_left e2 (show 0 ≤ (k1 : Rat) * (4000000 * eta) by grind)
      grind
    have f3 : (k0 : Rat) * (2 * eta) * ((k1 : Rat) * (4000000 * eta)) ≤ eta := by
      have y : (k1 : Rat) * (4000000 * eta) ≤ 1 / 1000000 := by grind
      have x := Rat.mul_le_mul_of_nonneg_left y (show 0 ≤ (k0 : Rat) * (2 * eta) by grind)
      grind
    have f4 := Rat.mul_le_mul_of_nonneg_right (show (k0 : Rat) * (2 * eta) * (E (val v) xs1 * G (k1 + 2)) + (k1 : Rat) * (4000000 * eta) * (val v ^ k0 * G k0) + (k0 : Rat) * (2 * eta) * ((k1 : Rat) * (4000000 * eta)) ≤ 1500000000000 * eta by grind) (show 0 ≤ 1 + u by grind)
    have f5 := Rat.mul_le_mul_of_nonneg_left hus (Rat.le_of_lt he)
    grind)
  have r0' : Wd (k0 + (k1 + 2) + 1) (k0 * (4000000 * eta)) r0 (E (val v) xs0) := s0.weak (by omega) Rat.le_refl
  have hpe : val v ^ k0 * E (val v) xs1 ≤ 262144 := by
    have := Rat.mul_le_mul_of_nonneg_right p1 b1.1
    grind
  obtain ⟨s, s1, s2⟩ := Wd.add (A := 1000000000000000000 * eta) r0' t2 (by omega) (by grind) (by grind) (by grind) (by grind) (by
    have f5 := Rat.mul_le_mul_of_nonneg_left hus (show 0 ≤ (k0 : Rat) * (4000000 * eta) + 2000000000000 * eta by grind)
    grind)
  refine ⟨t, s, t1, s1, ?_⟩
  rw [E_append, hk0]
  exact s2.weak (by omega) Rat.le_refl
end Go.Proofs.Qxb6627529a.Flt
