/-
  THE WALK of flow.Duration.
-/
import Derived.Test.Qxb6627658aRound
namespace Go.Proofs.Qxb6627658a
open Go.RowKit Near Ieee

theorem same {f : FuncId} {args : Array Value} {w : World} {v : Ending} {Q : Ending → World → Prop} (h : Calls Try.prog f args w fun e w' => e = v ∧ w' = w) (hq : Q v w) : Calls Try.prog f args w Q :=
  h.mono fun e w' ⟨he, hw⟩ => by rw [he, hw]; exact hq
theorem fmul (x y r : Nat) (h : double.mul x y = some r) : ∀ t w, (binOp .mul t (.float .f64 x) (.float .f64 y)).run Try.prog w = .ok (.float .f64 r) w := fun t w => run_float_arith w .mul t .f64 x y r h

theorem cutz (neg : Bool) (m d : Nat) : Toward.zero.cut neg m d = m / 2 ^ d := by
  have hlt : m < 2 ^ (m.log2 + 1) := Nat.lt_log2_self
  unfold Toward.cut
  simp only [Nat.one_shiftLeft, Bool.toNat_false, Nat.add_zero]
  by_cases hd : d ≤ m.log2 + 2
  · rw [Nat.min_eq_left hd]
  · rw [Nat.min_eq_right (by omega)]
    have h4 : 2 ^ (m.log2 + 2) = 2 * 2 ^ (m.log2 + 1) := by rw [Nat.pow_succ 2 (m.log2 + 1), Nat.mul_comm]
    have h5 : 2 ^ (m.log2 + 2) ≤ 2 ^ d := Nat.pow_le_pow_right (by decide) (by omega)
    rw [Nat.div_eq_of_lt (by omega), Nat.div_eq_of_lt (by omega)]

/-- int64 of a word that stands for a whole number -/
theorem toInt_word {x d : Nat} (hx : x < inf) (hV : V x = d * t2 1074) (hd : d < t2 63) : floatToIntVal .f64 x .i64 = some (d : Int) := by
  have hd' : d < 9223372036854775808 := by rw [t2_eq] at hd; exact hd
  have h1 : (double.read x).toInt .zero = some (d : Int) := by
    rw [read_pos x hx]
    simp only [Datum.toInt, Datum.integral, cutz]
    congr 1
    rw [signed_pos, Nat.pow_zero, Nat.mul_one]
    congr 1
    unfold V at hV
    rw [Nat.shiftLeft_eq]
    by_cases hs : 1074 ≤ shf x
    · have e1 : (-1074 + (shf x : Int)).toNat = shf x - 1074 := by omega
      have e2 : (-(-1074 + (shf x : Int))).toNat = 0 := by omega
      rw [e1, e2, Nat.pow_zero, Nat.div_one]
      rw [show shf x = shf x - 1074 + 1074 by omega, ← t2_eq, t2_add, ← Nat.mul_assoc] at hV
      have := Nat.eq_of_mul_eq_mul_right (t2_pos 1074) hV
      rw [t2_eq] at this
      exact this
    · have e1 : (-1074 + (shf x : Int)).toNat = 0 := by omega
      have e2 : (-(-1074 + (shf x : Int))).toNat = 1074 - shf x := by omega
      rw [e1, e2, Nat.pow_zero, Nat.mul_one]
      rw [← t2_split (show (1074 - shf x) + shf x = 1074 by omega), ← Nat.mul_assoc] at hV
      have := Nat.eq_of_mul_eq_mul_right (Nat.two_pow_pos _) hV
      rw [this, Nat.mul_div_cancel _ (Nat.two_pow_pos _)]
  unfold floatToIntVal
  show (match (double.read x).toInt .zero with | some n => if IntKind.i64.min ≤ n ∧ n ≤ IntKind.i64.max then some n else none | none => none) = _
  rw [h1]
  simp [IntKind.min, IntKind.max, IntKind.signed, IntKind.bits]
  omega

theorem rd_toInt {p : Nat} (h : p < 1086 * 2 ^ 52) : floatToIntVal .f64 (rd p) .i64 = some (D p : Int) := by
  have hp : p < inf := by unfold inf; omega
  exact toInt_word (rd_inf hp) (rd_V p hp) (D_top h)

set_option maxHeartbeats 2000000 in
set_option maxRecDepth 100000 in
theorem dur_low (x p : Nat) (w : World) (hm : double.mul x c9 = some p) (hp : p < 1086 * 2 ^ 52) :
    Calls Try.prog 5 #[.float .f64 x] w fun e w' => e = .returned (.int .i64 (D p : Int)) ∧ w' = w := by
  have hi : p ≤ inf := by unfold inf; omega
  have q1 := fmul x c9 p hm
  have HR : Hid (Calls Try.prog 6 #[.float .f64 p] w fun e w' => e = .returned (.float .f64 (rd p)) ∧ w' = w) := round_pos p w hi
  have q2 : FloatKind.f64.format.order (rd p) 4890909195324358656 = some .lt := by
    show double.order (rd p) 4890909195324358656 = some .lt
    have h1 : rd p < 4890909195324358656 := (rd_top p).2 hp
    rw [order_pos (Nat.le_of_lt (rd_inf (by unfold inf; omega))) (by decide), Nat.compare_eq_lt.2 h1]
  have q3 : ∀ w, (convert 22 23 (.float .f64 (rd p))).run Try.prog w = .ok (.int .i64 (D p : Int)) w := fun w =>
    run_convert_float_int w 22 23 .f64 .i64 (rd p) (D p : Int) (by rw [Try.underlying22]; rfl) Try.underlying23 (rd_toInt hp)
  clear hm hp hi
  unfold c9 at q1
  generalize rd p = r at *
  generalize D p = d at *
  go_enter Try.func5, Try.ntmps5
  go_wp2_with (go_at_call 6; refine same HR.out ?_)
  go_ret
  exact ⟨rfl, rfl⟩

theorem rd_infw : rd inf = inf := rd_great (by decide)
set_option maxHeartbeats 2000000 in
set_option maxRecDepth 100000 in
theorem dur_high (x p : Nat) (w : World) (hm : double.mul x c9 = some p) (hi : p ≤ inf) (hp : 1086 * 2 ^ 52 ≤ p) :
    Calls Try.prog 5 #[.float .f64 x] w fun e w' => e = .returned (.int .i64 9223372036854775807) ∧ w' = w := by
  have q1 := fmul x c9 p hm
  have hr : rd p = p := rd_great (by omega)
  have HR : Hid (Calls Try.prog 6 #[.float .f64 p] w fun e w' => e = .returned (.float .f64 p) ∧ w' = w) := by
    have := round_pos p w hi
    rw [hr] at this
    exact this
  have q2 : FloatKind.f64.format.order p 4890909195324358656 = some .gt ∨ FloatKind.f64.format.order p 4890909195324358656 = some .eq := by
    have h1 : 4890909195324358656 ≤ p := hp
    have h2 : FloatKind.f64.format.order p 4890909195324358656 = some (compare p 4890909195324358656) := order_pos hi (by decide)
    rw [h2]
    by_cases h : p = 4890909195324358656
    · exact .inr (by rw [Nat.compare_eq_eq.2 h])
    · exact .inl (by rw [Nat.compare_eq_gt.2 (by omega)])
  clear hm hp hi hr
  unfold c9 at q1
  rcases q2 with q2 | q2
  all_goals
    go_enter Try.func5, Try.ntmps5
    go_wp2_with (go_at_call 6; refine same HR.out ?_)
    go_ret
    exact ⟨rfl, rfl⟩
end Go.Proofs.Qxb6627658a
