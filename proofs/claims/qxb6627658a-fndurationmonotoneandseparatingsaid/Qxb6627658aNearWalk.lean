/-
  THE WALK of FnDurationNearestNanosecond.
-/
import Derived.Test.Qxb6627658aCls
namespace Go.Proofs.Qxb6627658a
open Go.RowKit Near Ieee

theorem fsub (x y r : Nat) (h : double.sub x y = some r) : ∀ t w, (binOp .sub t (.float .f64 x) (.float .f64 y)).run Try.prog w = .ok (.float .f64 r) w := fun t w => run_float_arith w .sub t .f64 x y r h
theorem fadd (x y r : Nat) (h : double.add x y = some r) : ∀ t w, (binOp .add t (.float .f64 x) (.float .f64 y)).run Try.prog w = .ok (.float .f64 r) w := fun t w => run_float_arith w .add t .f64 x y r h

/-- the product of a word not below zero -/
theorem prod {x : Nat} (h : x ≤ inf) : ∃ p, p ≤ inf ∧ double.mul x c9 = some p := by
  by_cases hx : x < inf
  · exact ⟨P9 x, P9_le x, mul9 hx⟩
  · have : x = inf := by omega
    subst this
    exact ⟨inf, Nat.le_refl _, mul9_inf⟩


set_option maxHeartbeats 2000000 in
set_option maxRecDepth 100000 in
theorem near_out (x : Nat) (w : World) (h : (FloatKind.f64.format.order x 0 == some Ordering.gt || FloatKind.f64.format.order x 0 == some Ordering.eq) = false) :
    Calls Try.prog 3 #[.float .f64 x] w fun e w' => e = .returned (.bool true) ∧ w' = w := by
  go_enter Try.func3, Try.ntmps3
  go_wp2
  go_ret
  exact ⟨rfl, rfl⟩

set_option maxHeartbeats 2000000 in
set_option maxRecDepth 100000 in
theorem near_high (x p : Nat) (w : World) (h : (FloatKind.f64.format.order x 0 == some Ordering.gt || FloatKind.f64.format.order x 0 == some Ordering.eq) = true)
    (hm : double.mul x c9 = some p) (hi : p ≤ inf) (hp : 1086 * 2 ^ 52 ≤ p) :
    Calls Try.prog 3 #[.float .f64 x] w fun e w' => e = .returned (.bool true) ∧ w' = w := by
  have q1 := fmul x c9 p hm
  have HR : Hid (Calls Try.prog 5 #[.float .f64 x] w fun e w' => e = .returned (.int .i64 9223372036854775807) ∧ w' = w) := dur_high x p w hm hi hp
  have q2 : (FloatKind.f64.format.order p 4890909195324358656 == some Ordering.gt || FloatKind.f64.format.order p 4890909195324358656 == some Ordering.eq) = true := by
    have h1 : 4890909195324358656 ≤ p := hp
    have h2 : FloatKind.f64.format.order p 4890909195324358656 = some (compare p 4890909195324358656) := order_pos hi (by decide)
    rw [h2]
    by_cases h : p = 4890909195324358656
    · rw [Nat.compare_eq_eq.2 h]; rfl
    · rw [Nat.compare_eq_gt.2 (by omega)]; rfl
  clear hm hp hi
  unfold c9 at q1
  go_enter Try.func3, Try.ntmps3
  go_wp2_with (go_at_call 5; refine same HR.out ?_)
  go_ret
  exact ⟨rfl, rfl⟩

theorem low_top {p : Nat} (hp : p < 1086 * 2 ^ 52) : FloatKind.f64.format.order p 4890909195324358656 = some .lt := by
  have hi : p ≤ inf := by unfold inf; omega
  have h1 : p < 4890909195324358656 := by omega
  have h2 : FloatKind.f64.format.order p 4890909195324358656 = some (compare p 4890909195324358656) := order_pos hi (by decide)
  rw [h2, Nat.compare_eq_lt.2 h1]
theorem low_conv {p : Nat} (hi : p < inf) (w : World) : (convert 2 22 (.int .i64 (D p : Int))).run Try.prog w = .ok (.float .f64 (rd p)) w := by
  have h := run_convert_int_float (P := Try.prog) w 2 22 .i64 .f64 (D p : Int) (by kernel_rfl) Try.underlying22
  rw [ofD hi] at h
  exact h
theorem low_diff {p : Nat} (hi : p < inf) : ∃ y, (∀ t w, (binOp .sub t (.float .f64 p) (.float .f64 (rd p))).run Try.prog w = .ok (.float .f64 y) w) ∧
    FloatKind.f64.format.order y 4602678819172646912 = some .lt ∧ (FloatKind.f64.format.order y 13826050856027422720 == some Ordering.gt || FloatKind.f64.format.order y 13826050856027422720 == some Ordering.eq) = true := by
  obtain ⟨y, hy, ho, hl⟩ := near_half hi
  refine ⟨y, fsub p (rd p) y hy, hl, ?_⟩
  have fm : FloatKind.f64.format = double := rfl
  rw [fm]
  rcases ho with e | e <;> rw [e] <;> rfl

set_option maxHeartbeats 2000000 in
set_option maxRecDepth 100000 in
theorem near_low0 (x p r y : Nat) (d : Nat) (w : World) (h : (FloatKind.f64.format.order x 0 == some Ordering.gt || FloatKind.f64.format.order x 0 == some Ordering.eq) = true)
    (q1 : ∀ t w, (binOp .mul t (.float .f64 x) (.float .f64 4741671816366391296)).run Try.prog w = .ok (.float .f64 p) w)
    (HR : Hid (Calls Try.prog 5 #[.float .f64 x] w fun e w' => e = .returned (.int .i64 (d : Int)) ∧ w' = w))
    (q2 : FloatKind.f64.format.order p 4890909195324358656 = some .lt)
    (q3 : ∀ w, (convert 2 22 (.int .i64 (d : Int))).run Try.prog w = .ok (.float .f64 r) w)
    (q4 : ∀ t w, (binOp .sub t (.float .f64 p) (.float .f64 r)).run Try.prog w = .ok (.float .f64 y) w)
    (q5 : FloatKind.f64.format.order y 4602678819172646912 = some .lt)
    (q6 : (FloatKind.f64.format.order y 13826050856027422720 == some Ordering.gt || FloatKind.f64.format.order y 13826050856027422720 == some Ordering.eq) = true) :
    Calls Try.prog 3 #[.float .f64 x] w fun e w' => e = .returned (.bool true) ∧ w' = w := by
  go_enter Try.func3, Try.ntmps3
  go_wp2_with (go_at_call 5; refine same HR.out ?_)
  go_ret
  exact ⟨rfl, rfl⟩
theorem near_low (x p : Nat) (w : World) (h : (FloatKind.f64.format.order x 0 == some Ordering.gt || FloatKind.f64.format.order x 0 == some Ordering.eq) = true)
    (hm : double.mul x c9 = some p) (hp : p < 1086 * 2 ^ 52) :
    Calls Try.prog 3 #[.float .f64 x] w fun e w' => e = .returned (.bool true) ∧ w' = w := by
  have hi : p < inf := by unfold inf; omega
  obtain ⟨y, q4, q5, q6⟩ := low_diff hi
  exact near_low0 x p (rd p) y (D p) w h (fmul x c9 p hm) (dur_low x p w hm hp) (low_top hp) (low_conv hi) q4 q5 q6

set_option maxHeartbeats 2000000 in
set_option maxRecDepth 100000 in
theorem near_neg0 (w : World) : Calls Try.prog 3 #[.float .f64 9223372036854775808] w fun e w' => e = .returned (.bool true) ∧ w' = w := by
  have q0 : FloatKind.f64.format.order 9223372036854775808 0 = some .eq := by show double.order 9223372036854775808 0 = some .eq; decide +kernel
  have q1 := fmul 9223372036854775808 c9 9223372036854775808 mul9_neg0
  have HR : Hid (Calls Try.prog 5 #[.float .f64 9223372036854775808] w fun e w' => e = .returned (.int .i64 0) ∧ w' = w) := dur_neg0 w
  have q2 : FloatKind.f64.format.order 9223372036854775808 4890909195324358656 = some .lt := by
    show double.order 9223372036854775808 4890909195324358656 = some .lt
    decide +kernel
  have q3 : ∀ w, (convert 2 22 (.int .i64 0)).run Try.prog w = .ok (.float .f64 0) w := fun w => by
    rw [run_convert_int_float w 2 22 .i64 .f64 0 (by kernel_rfl) Try.underlying22]
    rfl
  have q4 := fsub 9223372036854775808 0 9223372036854775808 (by decide +kernel)
  have q5 : FloatKind.f64.format.order 9223372036854775808 4602678819172646912 = some .lt := by
    show double.order 9223372036854775808 4602678819172646912 = some .lt
    decide +kernel
  have q6 : FloatKind.f64.format.order 9223372036854775808 13826050856027422720 = some .gt := by
    show double.order 9223372036854775808 13826050856027422720 = some .gt
    decide +kernel
  unfold c9 at q1
  go_enter Try.func3, Try.ntmps3
  go_wp2_with (go_at_call 5; refine same HR.out ?_)
  go_ret
  exact ⟨rfl, rfl⟩

theorem near_walk (x : Nat) (w : World) (hx : x < 2 ^ 64) :
    Calls Try.prog 3 #[.float .f64 x] w fun e w' => e = .returned (.bool true) ∧ w' = w := by
  cases h : (FloatKind.f64.format.order x 0 == some Ordering.gt || FloatKind.f64.format.order x 0 == some Ordering.eq)
  · exact near_out x w h
  · have h' : double.order x 0 = some .gt ∨ double.order x 0 = some .eq := by
      have : (double.order x 0 == some Ordering.gt || double.order x 0 == some Ordering.eq) = true := h
      simpa using this
    rcases cls hx h' with hc | rfl
    · obtain ⟨p, hp, hm⟩ := prod hc
      by_cases ht : p < 1086 * 2 ^ 52
      · exact near_low x p w h hm ht
      · exact near_high x p w h hm hp (by omega)
    · exact near_neg0 w
end Go.Proofs.Qxb6627658a
