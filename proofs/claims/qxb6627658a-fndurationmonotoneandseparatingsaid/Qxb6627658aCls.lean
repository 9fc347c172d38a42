/-
  WHICH WORDS ARE NOT BELOW ZERO; Duration at -0.
-/
import Derived.Test.Qxb6627658aDur
import Derived.Test.Qxb6627658aDiff
import Derived.Laws.Cover2
namespace Go.Proofs.Qxb6627658a
open Go.RowKit Near Ieee

theorem read_nan {x : Nat} (h : inf < x % 2 ^ 63) : ∃ b f, double.read x = .nan b f := by
  unfold inf at h
  have a1 : ¬ x % 2 ^ 63 < 2 ^ 52 := by omega
  have a2 : ¬ x % 2 ^ 63 < 2047 * 2 ^ 52 := by omega
  have a3 : ¬ x % 2 ^ 63 = 2047 * 2 ^ 52 := by omega
  refine ⟨x / 2 ^ 63 % 2 == 1, x % 2 ^ 63 - 2047 * 2 ^ 52, ?_⟩
  unfold Format.read
  simp only [binade_eq, sw_eq, inf_eq, a1, a2, a3, if_false]
theorem order_nan {x y : Nat} (h : inf < x % 2 ^ 63) : double.order x y = none := by
  obtain ⟨b, f, e⟩ := read_nan h
  unfold Format.order
  rw [e]
  cases double.read y <;> rfl

/-- not below zero: a plain number, +infinity, or -0 -/
theorem cls {x : Nat} (hx : x < 2 ^ 64) (h : double.order x 0 = some .gt ∨ double.order x 0 = some .eq) : x ≤ inf ∨ x = 2 ^ 63 := by
  by_cases h1 : x ≤ inf
  · exact .inl h1
  refine .inr ?_
  by_cases h2 : inf < x % 2 ^ 63
  · rw [order_nan h2] at h
    simp at h
  · unfold inf at h1 h2
    have e : x = 2 ^ 63 + x % 2 ^ 63 := by omega
    by_cases h3 : x % 2 ^ 63 = 2047 * 2 ^ 52
    · rw [h3] at e
      subst e
      have : double.order (2 ^ 63 + 2047 * 2 ^ 52) 0 = some .lt := by decide +kernel
      rw [this] at h
      simp at h
    · by_cases h4 : x % 2 ^ 63 = 0
      · omega
      · have := order_negpos (x := x % 2 ^ 63) (y := 0) (by unfold inf; omega) (by decide) h4
        rw [← e] at this
        rw [this] at h
        simp at h

set_option maxHeartbeats 2000000 in
set_option maxRecDepth 100000 in
theorem round_neg0 (w : World) :
    Calls Try.prog 6 #[.float .f64 9223372036854775808] w fun e w' => e = .returned (.float .f64 9223372036854775808) ∧ w' = w := by
  have f1 : bits .and .u64 2048 2047 = 0 := by decide
  have f2 : bits .and .u64 9223372036854775808 9223372036854775808 = 9223372036854775808 := by decide
  go_enter Try.func6, Try.ntmps6
  go_upto_region 2 with (simp only [call7])
  go_wp2_with (first | simp only [f1] | simp only [call8])
  go_ret
  exact ⟨rfl, rfl⟩

set_option maxHeartbeats 2000000 in
set_option maxRecDepth 100000 in
theorem dur_neg0 (w : World) :
    Calls Try.prog 5 #[.float .f64 9223372036854775808] w fun e w' => e = .returned (.int .i64 0) ∧ w' = w := by
  have q1 := fmul 9223372036854775808 c9 9223372036854775808 mul9_neg0
  have HR : Hid (Calls Try.prog 6 #[.float .f64 9223372036854775808] w fun e w' => e = .returned (.float .f64 9223372036854775808) ∧ w' = w) := round_neg0 w
  have q2 : FloatKind.f64.format.order 9223372036854775808 4890909195324358656 = some .lt := by
    show double.order 9223372036854775808 4890909195324358656 = some .lt
    decide +kernel
  have q3 : ∀ w, (convert 22 23 (.float .f64 9223372036854775808)).run Try.prog w = .ok (.int .i64 0) w := fun w =>
    run_convert_float_int w 22 23 .f64 .i64 9223372036854775808 0 (by rw [Try.underlying22]; rfl) Try.underlying23 (by decide +kernel)
  unfold c9 at q1
  go_enter Try.func5, Try.ntmps5
  go_wp2_with (go_at_call 6; refine same HR.out ?_)
  go_ret
  exact ⟨rfl, rfl⟩
end Go.Proofs.Qxb6627658a
