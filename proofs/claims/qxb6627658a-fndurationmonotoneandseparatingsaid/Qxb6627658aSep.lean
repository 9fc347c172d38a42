/-
  THE WALK of FnDurationMonotoneAndSeparating.
-/
import Derived.Test.Qxb6627658aNearWalk
namespace Go.Proofs.Qxb6627658a
open Go.RowKit Near Ieee

/-! ### -0 stands to every word as 0 does -/
theorem read_z : double.read (2 ^ 63) = .number true 0 (-1074) := by decide +kernel
theorem read_0 : double.read 0 = .number false 0 (-1074) := by decide +kernel
theorem order_zl (y : Nat) : double.order (2 ^ 63) y = double.order 0 y := by
  unfold Format.order
  rw [read_z, read_0]
  cases double.read y <;> simp [Datum.order, signed]
theorem order_zr (y : Nat) : double.order y (2 ^ 63) = double.order y 0 := by
  unfold Format.order
  rw [read_z, read_0]
  cases double.read y <;> simp [Datum.order, signed]

/-- the word, 0 in place of -0 -/
def tw (x : Nat) : Nat := if x = 2 ^ 63 then 0 else x
theorem order_tl (x y : Nat) : double.order x y = double.order (tw x) y := by
  unfold tw
  split
  · rename_i h; rw [h, order_zl]
  · rfl
theorem order_tr (x y : Nat) : double.order y x = double.order y (tw x) := by
  unfold tw
  split
  · rename_i h; rw [h, order_zr]
  · rfl
theorem tw_le {x : Nat} (h : x ≤ inf ∨ x = 2 ^ 63) : tw x ≤ inf := by
  unfold tw
  split
  · exact Nat.zero_le _
  · omega
theorem tw_pos {x : Nat} (h : x ≤ inf) : tw x = x := by
  unfold tw
  unfold inf at h
  rw [if_neg (by omega)]
theorem tw_z : tw (2 ^ 63) = 0 := by unfold tw; rw [if_pos rfl]

theorem order_below {x y : Nat} (hx : x ≤ inf) (h0 : x ≠ 0) (hy : y ≤ inf) : double.order (2 ^ 63 + x) y = some .lt := by
  by_cases h1 : x = inf
  · have hr : double.read (2 ^ 63 + x) = .infinity true := by rw [h1]; decide +kernel
    unfold Format.order
    rw [hr]
    by_cases h2 : y = inf
    · rw [h2, read_inf]; rfl
    · rw [read_pos y (by omega)]; rfl
  · by_cases h2 : y = inf
    · unfold Format.order
      rw [h2, read_inf, read_neg x (by omega)]; rfl
    · exact order_negpos (by omega) (by omega) h0

/-- not below a word that is not below zero -/
theorem cls2 {x a : Nat} (hx : x < 2 ^ 64) (ha : a ≤ inf) (h : double.order x a = some .gt ∨ double.order x a = some .eq) : x ≤ inf ∨ x = 2 ^ 63 := by
  by_cases h1 : x ≤ inf
  · exact .inl h1
  refine .inr ?_
  by_cases h2 : inf < x % 2 ^ 63
  · rw [order_nan h2] at h
    simp at h
  · by_cases h4 : x % 2 ^ 63 = 0
    · unfold inf at h1 h2
      omega
    · have e : x = 2 ^ 63 + x % 2 ^ 63 := by
        unfold inf at h1 h2
        omega
      have := order_below (x := x % 2 ^ 63) (y := a) (by omega) h4 ha
      rw [← e] at this
      rw [this] at h
      simp at h

theorem ge_le {x y : Nat} (hx : x ≤ inf) (hy : y ≤ inf) (h : double.order y x = some .gt ∨ double.order y x = some .eq) : x ≤ y := by
  rw [order_pos hy hx] at h
  rcases h with h | h
  · have := Nat.compare_eq_gt.1 (Option.some.inj h); omega
  · have := Nat.compare_eq_eq.1 (Option.some.inj h); omega
theorem le_le {x y : Nat} (hx : x ≤ inf) (hy : y ≤ inf) (h : double.order x y = some .lt ∨ double.order x y = some .eq) : x ≤ y := by
  rw [order_pos hx hy] at h
  rcases h with h | h
  · have := Nat.compare_eq_lt.1 (Option.some.inj h); omega
  · have := Nat.compare_eq_eq.1 (Option.some.inj h); omega
theorem lt_lt {x y : Nat} (hx : x ≤ inf) (hy : y ≤ inf) (h : double.order x y = some .lt) : x < y := by
  rw [order_pos hx hy] at h
  exact Nat.compare_eq_lt.1 (Option.some.inj h)

/-- the product's word, infinity too -/
def Pi (x : Nat) : Nat := if x < inf then P9 x else inf
theorem Pi_le (x : Nat) : Pi x ≤ inf := by unfold Pi; split; exact P9_le x; exact Nat.le_refl _
theorem Pi_mono {x y : Nat} (h : x ≤ y) : Pi x ≤ Pi y := by
  by_cases hy : y < inf
  · have hx : x < inf := by omega
    unfold Pi
    rw [if_pos hy, if_pos hx]
    exact P9_mono hx hy h
  · have : Pi y = inf := by unfold Pi; rw [if_neg hy]
    rw [this]
    exact Pi_le x

/-- Duration, by its product's word -/
def E (p : Nat) : Int := if p < 1086 * 2 ^ 52 then (D p : Int) else 9223372036854775807
theorem E_mono {p q : Nat} (h : p ≤ q) : E p ≤ E q := by
  unfold E
  by_cases hq : q < 1086 * 2 ^ 52
  · have hp : p < 1086 * 2 ^ 52 := by omega
    rw [if_pos hq, if_pos hp]
    have := D_mono (p := p) (q := q) (by unfold inf; omega) (by unfold inf; omega) h
    omega
  · rw [if_neg hq]
    by_cases hp : p < 1086 * 2 ^ 52
    · rw [if_pos hp]
      have := D_top hp
      rw [t2_eq] at this
      omega
    · rw [if_neg hp]
      exact Int.le_refl _

theorem dur_any {x : Nat} (h : x ≤ inf ∨ x = 2 ^ 63) : ∃ p, double.mul x c9 = some p ∧ (p ≤ inf ∨ p = 2 ^ 63) ∧ tw p = Pi (tw x) ∧
    ∀ w, Calls Try.prog 5 #[.float .f64 x] w fun e w' => e = .returned (.int .i64 (E (tw p))) ∧ w' = w := by
  rcases h with h | rfl
  · have hm : double.mul x c9 = some (Pi x) := by
      unfold Pi
      by_cases hx : x < inf
      · rw [if_pos hx]; exact mul9 hx
      · have : x = inf := by omega
        rw [if_neg hx, this]; exact mul9_inf
    refine ⟨Pi x, hm, .inl (Pi_le x), by rw [tw_pos (Pi_le x), tw_pos h], fun w => ?_⟩
    rw [tw_pos (Pi_le x)]
    unfold E
    by_cases ht : Pi x < 1086 * 2 ^ 52
    · rw [if_pos ht]; exact dur_low x (Pi x) w hm ht
    · rw [if_neg ht]; exact dur_high x (Pi x) w hm (Pi_le x) (by omega)
  · refine ⟨2 ^ 63, mul9_neg0, .inr rfl, ?_, fun w => ?_⟩
    · rw [tw_z]; decide +kernel
    · have : E (tw (2 ^ 63)) = 0 := by
        rw [tw_z]
        unfold E
        rw [if_pos (by decide)]
        have h1 : D 0 = 0 := by
          have h2 := D_low 0
          have h3 : V 0 = 0 := by decide
          have h4 := T_eq
          have h5 := t2_pos 1073
          unfold D
          exact Nat.div_eq_of_lt (by omega)
        rw [h1]
        rfl
      rw [this]
      exact dur_neg0 w

theorem add1 {p : Nat} (h : p ≤ inf ∨ p = 2 ^ 63) : ∃ s, double.add p c1 = some s ∧ s ≤ inf ∧ (tw p < inf → s = N ((V (tw p) + V c1) * 2 ^ 26)) := by
  rcases h with h | rfl
  · by_cases hp : p < inf
    · refine ⟨_, add_pos hp c1_lt ?_, N_le_inf _, fun _ => by rw [tw_pos h]⟩
      rw [c1_V]
      have := t2_pos 1074
      omega
    · have : p = inf := by omega
      subst this
      exact ⟨inf, by decide +kernel, Nat.le_refl _, fun h' => by rw [tw_pos h] at h'; omega⟩
  · refine ⟨c1, by decide +kernel, Nat.le_of_lt c1_lt, fun _ => ?_⟩
    rw [tw_z, show V 0 = 0 by decide, Nat.zero_add, N_V c1 c1_lt]

set_option maxHeartbeats 2000000 in
set_option maxRecDepth 100000 in
theorem sep_out (a b : Nat) (w : World) (h : (FloatKind.f64.format.order a 0 == some Ordering.gt || FloatKind.f64.format.order a 0 == some Ordering.eq) = false) :
    Calls Try.prog 4 #[.float .f64 a, .float .f64 b] w fun e w' => e = .returned (.bool true) ∧ w' = w := by
  go_enter Try.func4, Try.ntmps4
  go_wp2
  go_ret
  exact ⟨rfl, rfl⟩
set_option maxHeartbeats 2000000 in
set_option maxRecDepth 100000 in
theorem sep_out2 (a b : Nat) (w : World) (h : (FloatKind.f64.format.order a 0 == some Ordering.gt || FloatKind.f64.format.order a 0 == some Ordering.eq) = true)
    (h2 : (FloatKind.f64.format.order b a == some Ordering.gt || FloatKind.f64.format.order b a == some Ordering.eq) = false) :
    Calls Try.prog 4 #[.float .f64 a, .float .f64 b] w fun e w' => e = .returned (.bool true) ∧ w' = w := by
  go_enter Try.func4, Try.ntmps4
  go_wp2
  go_ret
  exact ⟨rfl, rfl⟩

set_option maxHeartbeats 2000000 in
set_option maxRecDepth 100000 in
theorem sep_in (a b pa pb s : Nat) (da db : Int) (w : World) (h : (FloatKind.f64.format.order a 0 == some Ordering.gt || FloatKind.f64.format.order a 0 == some Ordering.eq) = true)
    (h2 : (FloatKind.f64.format.order b a == some Ordering.gt || FloatKind.f64.format.order b a == some Ordering.eq) = true)
    (HA : Hid (Calls Try.prog 5 #[.float .f64 a] w fun e w' => e = .returned (.int .i64 da) ∧ w' = w))
    (HB : Hid (Calls Try.prog 5 #[.float .f64 b] w fun e w' => e = .returned (.int .i64 db) ∧ w' = w))
    (hd : da ≤ db)
    (q1 : ∀ t w, (binOp .mul t (.float .f64 a) (.float .f64 4741671816366391296)).run Try.prog w = .ok (.float .f64 pa) w)
    (q2 : ∀ t w, (binOp .mul t (.float .f64 b) (.float .f64 4741671816366391296)).run Try.prog w = .ok (.float .f64 pb) w)
    (q3 : ∀ t w, (binOp .add t (.float .f64 pa) (.float .f64 4607182418800017408)).run Try.prog w = .ok (.float .f64 s) w)
    (hs : FloatKind.f64.format.order pb 4841369599423283200 = some .lt → (FloatKind.f64.format.order s pb == some Ordering.lt || FloatKind.f64.format.order s pb == some Ordering.eq) = true → da < db) :
    Calls Try.prog 4 #[.float .f64 a, .float .f64 b] w fun e w' => e = .returned (.bool true) ∧ w' = w := by
  cases c1 : (FloatKind.f64.format.order pb 4841369599423283200 == some Ordering.lt)
  · clear hs
    go_enter Try.func4, Try.ntmps4
    go_upto_region 4 with (go_at_call 5; refine same HA.out ?_)
    go_wp2_with (go_at_call 5; refine same HB.out ?_)
    go_ret
    exact ⟨rfl, rfl⟩
  · cases c2 : (FloatKind.f64.format.order s pb == some Ordering.lt || FloatKind.f64.format.order s pb == some Ordering.eq)
    · clear hs
      go_enter Try.func4, Try.ntmps4
      go_upto_region 4 with (go_at_call 5; refine same HA.out ?_)
      go_wp2_with (go_at_call 5; refine same HB.out ?_)
      go_ret
      exact ⟨rfl, rfl⟩
    · have hl : da < db := hs (by simpa using c1) c2
      clear hs
      go_enter Try.func4, Try.ntmps4
      go_upto_region 4 with (go_at_call 5; refine same HA.out ?_)
      go_wp2_with (go_at_call 5; refine same HB.out ?_)
      go_ret
      exact ⟨rfl, rfl⟩
theorem ors {o : Option Ordering} {u v : Ordering} (h : (o == some u || o == some v) = true) : o = some u ∨ o = some v := by simpa using h

theorem sep_walk (a b : Nat) (w : World) (ha : a < 2 ^ 64) (hb : b < 2 ^ 64) :
    Calls Try.prog 4 #[.float .f64 a, .float .f64 b] w fun e w' => e = .returned (.bool true) ∧ w' = w := by
  cases h : (FloatKind.f64.format.order a 0 == some Ordering.gt || FloatKind.f64.format.order a 0 == some Ordering.eq)
  · exact sep_out a b w h
  cases h2 : (FloatKind.f64.format.order b a == some Ordering.gt || FloatKind.f64.format.order b a == some Ordering.eq)
  · exact sep_out2 a b w h h2
  have fm : FloatKind.f64.format = double := rfl
  have o1 := ors h
  have o2 := ors h2
  rw [fm] at o1 o2
  have ca := cls ha o1
  have ta := tw_le ca
  rw [order_tr] at o2
  have cb := cls2 hb ta o2
  have tb := tw_le cb
  rw [order_tl] at o2
  have hab := ge_le ta tb o2
  obtain ⟨pa, ma, ka, ea, da⟩ := dur_any ca
  obtain ⟨pb, mb, kb, eb, db⟩ := dur_any cb
  obtain ⟨s, hs, hsi, hsv⟩ := add1 ka
  have hp : tw pa ≤ tw pb := by rw [ea, eb]; exact Pi_mono hab
  have tpb := tw_le kb
  refine sep_in a b pa pb s (E (tw pa)) (E (tw pb)) w h h2 (da w) (db w) (E_mono hp) (fmul a c9 pa ma) (fmul b c9 pb mb) (fadd pa c1 s hs) ?_
  intro r1 r2
  have r3 := ors r2
  rw [fm] at r1 r3
  rw [order_tl] at r1
  rw [order_tr] at r3
  have l1 : tw pb < 4841369599423283200 := lt_lt tpb (by decide) r1
  have l2 : s ≤ tw pb := le_le hsi tpb r3
  have l3 : tw pb < 1075 * 2 ^ 52 := by omega
  have l4 : tw pa < inf := by unfold inf; omega
  have := apart l4 l3 (hsv l4) l2
  unfold E
  rw [if_pos (by omega), if_pos (by omega)]
  omega
end Go.Proofs.Qxb6627658a
