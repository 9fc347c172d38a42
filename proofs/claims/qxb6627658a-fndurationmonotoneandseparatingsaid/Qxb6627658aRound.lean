/-
  THE WALKS of math.Round and of flow.Duration.
-/
import Derived.Test.Qxb6627658aRows
import Derived.Test.Qxb6627658aRd
import Derived.WalkKit
import Derived.WalkSpells
import Derived.WalkLawsBesides
import Derived.Deep.QuietTactic
import Derived.BigQuiet
import Derived.Deep.DeepCutAuto
import Derived.Deep.RegionHeld3
namespace Go.Proofs.Qxb6627658a
open Go.RowKit Near

theorem call7 (p : Nat) (w : World) : (callFunc 7 #[.float .f64 p]).run Try.prog w = .ok (.value (.int .u64 (p : Int))) w := by
  rw [run_callFunc_extern (e := Go.Extern.MathFloatBits.float64bits) Try.func7 (by kernel_rfl) (by kernel_rfl) (by kernel_rfl) (by kernel_rfl)]
  rfl
theorem call8 (n : Int) (w : World) : (callFunc 8 #[.int .u64 n]).run Try.prog w = .ok (.value (.float .f64 n.toNat)) w := by
  rw [run_callFunc_extern (e := Go.Extern.MathFloatBits.float64frombits) Try.func8 (by kernel_rfl) (by kernel_rfl) (by kernel_rfl) (by kernel_rfl)]
  rfl

theorem expo (p : Nat) (hp : p ≤ inf) : bits .and .u64 ((p : Int) / 4503599627370496) 2047 = ((p / 2 ^ 52 : Nat) : Int) := by
  unfold inf at hp
  have h := bits_and_u64_nat (p / 2 ^ 52) 2047 (by omega) (by decide)
  rw [show (p / 2 ^ 52) &&& 2047 = p / 2 ^ 52 by
    rw [show (2047 : Nat) = 2 ^ 11 - 1 from rfl, Nat.and_two_pow_sub_one_eq_mod]
    exact Nat.mod_eq_of_lt (by omega)] at h
  rw [← h]
  congr 1
theorem sign_out (p : Nat) (hp : p ≤ inf) : bits .and .u64 (p : Int) 9223372036854775808 = 0 := by
  unfold inf at hp
  have h := bits_and_u64_nat p 9223372036854775808 (by omega) (by decide)
  rw [show p &&& 9223372036854775808 = 0 by
    rw [show (9223372036854775808 : Nat) = 2 ^ 63 from rfl]
    refine Nat.eq_of_testBit_eq fun i => ?_
    rw [Nat.testBit_and, Nat.testBit_two_pow, Nat.zero_testBit]
    by_cases hi : 63 = i
    · subst hi; rw [Nat.testBit_lt_two_pow (by omega), Bool.false_and]
    · simp [hi]] at h
  exact h

theorem bits_andNot_low (a g : Nat) (ha : a < 18446744073709551616) (hg : g ≤ 64) : bits .andNot .u64 (a : Int) ((2 ^ g - 1 : Nat) : Int) = ((a / 2 ^ g * 2 ^ g : Nat) : Int) := by
  have hb : 2 ^ g - 1 < 2 ^ 64 := by
    have := Nat.pow_le_pow_right (n := 2) (by decide) hg
    have := Nat.two_pow_pos g
    omega
  have h1 : BitVec.ofInt 64 (a : Int) = BitVec.ofNat 64 a := BitVec.ofInt_natCast ..
  have h2 : BitVec.ofInt 64 ((2 ^ g - 1 : Nat) : Int) = BitVec.ofNat 64 (2 ^ g - 1) := BitVec.ofInt_natCast ..
  have key : (BitVec.ofNat 64 a &&& ~~~BitVec.ofNat 64 (2 ^ g - 1)).toNat = a / 2 ^ g * 2 ^ g := by
    refine Nat.eq_of_testBit_eq fun i => ?_
    rw [← Nat.shiftRight_eq_div_pow, ← Nat.shiftLeft_eq, Nat.testBit_shiftLeft, Nat.testBit_shiftRight, BitVec.testBit_toNat, BitVec.getLsbD_and, BitVec.getLsbD_not, BitVec.getLsbD_ofNat, BitVec.getLsbD_ofNat, Nat.testBit_two_pow_sub_one]
    by_cases hi : i < 64
    · by_cases hg' : g ≤ i
      · simp [hi, hg', show ¬ i < g by omega]
      · simp [hi, hg', show i < g by omega]
    · have : a.testBit i = false := Nat.testBit_lt_two_pow (Nat.lt_of_lt_of_le ha (by
        have := Nat.pow_le_pow_right (n := 2) (by decide) (show 64 ≤ i by omega)
        omega))
      simp [hi, this, show g ≤ i by omega, show g + (i - g) = i by omega]
  show IntKind.u64.wrap ((BitVec.ofInt 64 (a : Int) &&& ~~~BitVec.ofInt 64 ((2 ^ g - 1 : Nat) : Int)).toNat : Int) = _
  rw [h1, h2, key, IntKind.wrap_u64]
  have := Nat.div_mul_le_self a (2 ^ g)
  omega

theorem shr_pow (n k : Nat) (h : k ≤ n) : (2 ^ n) / 2 ^ k = 2 ^ (n - k) := by
  rw [show 2 ^ n = 2 ^ (n - k) * 2 ^ k by rw [← Nat.pow_add, Nat.sub_add_cancel h], Nat.mul_div_cancel _ (Nat.two_pow_pos k)]
theorem shr_ones (n k : Nat) (h : k ≤ n) : (2 ^ n - 1) / 2 ^ k = 2 ^ (n - k) - 1 := by
  have e : 2 ^ n = 2 ^ (n - k) * 2 ^ k := by rw [← Nat.pow_add, Nat.sub_add_cancel h]
  have h1 := Nat.two_pow_pos (n - k)
  have h2 := Nat.two_pow_pos k
  rw [e]
  generalize 2 ^ (n - k) = a at *
  generalize 2 ^ k = b at *
  obtain ⟨c, rfl⟩ : ∃ c, a = c + 1 := ⟨a - 1, by omega⟩
  rw [Nat.add_mul, Nat.one_mul, Nat.add_sub_cancel, Nat.add_sub_assoc h2, Nat.add_comm, Nat.add_mul_div_right _ _ h2, Nat.div_eq_of_lt (by omega), Nat.zero_add]

set_option maxHeartbeats 2000000 in
set_option maxRecDepth 100000 in
theorem round_pos (p : Nat) (w : World) (hp : p ≤ inf) :
    Calls Try.prog 6 #[.float .f64 p] w fun e w' => e = .returned (.float .f64 (rd p)) ∧ w' = w := by
  have f1 := expo p hp
  have f2 := sign_out p hp
  have hr : Hid (rd p = rd p) := rfl
  have hp' : (p : Int) ≤ 9218868437227405312 := by unfold inf at hp; omega
  have hE : p / 2 ^ 52 ≤ 2047 := by unfold inf at hp; omega
  clear hp
  by_cases h1 : p / 2 ^ 52 < 1022
  · have HR : Hid (rd p = 0) := by show rd p = 0; unfold rd; rw [if_pos h1]
    generalize p / 2 ^ 52 = E at *
    go_enter Try.func6, Try.ntmps6
    go_upto_region 2 with (simp only [call7])
    go_wp2_with (first | simp only [f1] | simp only [call8])
    go_ret
    exact ⟨by rw [HR.out]; rfl, rfl⟩
  · by_cases h2 : p / 2 ^ 52 = 1022
    · have HR : Hid (rd p = 4607182418800017408) := by show rd p = 4607182418800017408; unfold rd; rw [if_neg h1, if_pos h2]; rfl
      have f3 : bits .or .u64 0 4607182418800017408 = 4607182418800017408 := by decide
      rw [h2] at f1
      clear h1 h2 hE
      go_enter Try.func6, Try.ntmps6
      go_upto_region 2 with (simp only [call7])
      go_wp2_with (first | simp only [f1] | simp only [call8])
      go_ret
      exact ⟨by rw [HR.out]; rfl, rfl⟩
    · by_cases h3 : p / 2 ^ 52 < 1075
      · have HR : Hid (rd p = (p + 2 ^ (1074 - p / 2 ^ 52)) / 2 ^ (1075 - p / 2 ^ 52) * 2 ^ (1075 - p / 2 ^ 52)) := by
          show rd p = _
          unfold rd; rw [if_neg h1, if_neg h2, if_pos h3]
        generalize p / 2 ^ 52 = E at *
        go_enter Try.func6, Try.ntmps6
        go_upto_region 2 with (simp only [call7])
        go_upto_region 9 with (simp only [f1])
        have ek : ((E : Int) - 1023).toNat = E - 1023 := by omega
        have v1 : (2251799813685248 : Int) / 2 ^ ((E : Int) - 1023).toNat = ((2 ^ (1074 - E) : Nat) : Int) := by
          rw [ek]
          have := shr_pow 51 (E - 1023) (by omega)
          rw [show 51 - (E - 1023) = 1074 - E by omega] at this
          rw [← this]
          simp
        have v2 : (4503599627370495 : Int) / 2 ^ ((E : Int) - 1023).toNat = ((2 ^ (1075 - E) - 1 : Nat) : Int) := by
          rw [ek]
          have := shr_ones 52 (E - 1023) (by omega)
          rw [show 52 - (E - 1023) = 1075 - E by omega] at this
          rw [← this]
          simp
        have hA : 2 ^ (1074 - E) ≤ 2 ^ 51 := Nat.pow_le_pow_right (by decide) (by omega)
        have v3 := bits_andNot_low (p + 2 ^ (1074 - E)) (1075 - E) (by omega) (by omega)
        rw [Int.natCast_add] at v3
        generalize (p + 2 ^ (1074 - E)) / 2 ^ (1075 - E) * 2 ^ (1075 - E) = X at *
        generalize 2 ^ (1074 - E) = A at *
        generalize 2 ^ (1075 - E) - 1 = B at *
        rw [ek] at v1 v2
        have HV : Hid ((bits .andNot .u64 (IntKind.u64.wrap ((p : Int) + 2251799813685248 / 2 ^ (E - 1023))) (4503599627370495 / 2 ^ (E - 1023))).toNat = X) := by
          show (bits .andNot .u64 (IntKind.u64.wrap ((p : Int) + 2251799813685248 / 2 ^ (E - 1023))) (4503599627370495 / 2 ^ (E - 1023))).toNat = X
          rw [v1, v2, show IntKind.u64.wrap ((p : Int) + (A : Int)) = (p : Int) + (A : Int) by rw [IntKind.wrap_u64]; omega, v3]
          exact Int.toNat_natCast X
        clear v1 v2 v3
        go_wp2_with (simp only [call8])
        go_ret
        exact ⟨by rw [HR.out, ← HV.out]; rfl, rfl⟩
      · have HR : Hid (rd p = p) := rd_great (by omega)
        generalize p / 2 ^ 52 = E at *
        go_enter Try.func6, Try.ntmps6
        go_upto_region 2 with (simp only [call7])
        go_wp2_with (first | simp only [f1] | simp only [call8])
        go_ret
        exact ⟨by rw [HR.out]; rfl, rfl⟩
end Go.Proofs.Qxb6627658a
