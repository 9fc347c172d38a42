/-
  PLAIN LAW: the sum of two schedules, element by element. No Go in sight.
-/
import Derived.Test.Qxb6627529aCls
namespace Go.Proofs.Qxb6627529a.Flt
open Ieee
/-! ### The sum of two schedules -/
def addL : List Rat → List Rat → List Rat
  | [], ys => ys
  | x :: xs, [] => x :: xs
  | x :: xs, y :: ys => (x + y) :: addL xs ys
theorem addL_E (V : Rat) : ∀ xs ys : List Rat, E V (addL xs ys) = E V xs + E V ys
  | [], ys => by simp [addL, E]; grind
  | x :: xs, [] => by simp [addL, E]; grind
  | x :: xs, y :: ys => by
    have := addL_E V xs ys
    simp only [addL, E, this]; grind
theorem addL_len : ∀ xs ys : List Rat, (addL xs ys).length = max xs.length ys.length
  | [], ys => by simp [addL]
  | x :: xs, [] => by simp [addL]
  | x :: xs, y :: ys => by
    have := addL_len xs ys
    simp only [addL, List.length_cons, this]; omega
theorem addL_get : ∀ (xs ys : List Rat) (i : Nat), (addL xs ys).getD i 0 = xs.getD i 0 + ys.getD i 0
  | [], ys, i => by simp [addL]; grind
  | x :: xs, [], i => by simp [addL]; grind
  | x :: xs, y :: ys, 0 => by simp [addL]
  | x :: xs, y :: ys, i + 1 => by
    have := addL_get xs ys i
    simpa [addL] using this
theorem adds_fin {v r0 r1 : Nat} {xs0 xs1 : List Rat} (hv : InUnit v) (h0 : In2 xs0) (h1 : In2 xs1) (hs : xs0.length + xs1.length ≤ 131072) (s0 : Sm (val v) xs0 xs0.length r0) (s1 : Sm (val v) xs1 xs1.length r1) :
    ∃ s, double.add r0 r1 = some s ∧ Wd (2 * (xs0.length + xs1.length) + 6) (1000000000000000000 * eta) s (E (val v) (addL xs0 xs1)) := by
  unfold Sm at s0 s1
  rw [List.take_length] at s0 s1
  have b0 := E_cap hv.lo hv.hi xs0 h0 (by omega)
  have b1 := E_cap hv.lo hv.hi xs1 h1 (by omega)
  have he := eta_pos
  have hes := eta_small
  have hus := u_small
  have hu := u_pos
  have l0 : (xs0.length : Rat) ≤ 131072 := natR_le (b := 131072) (by omega)
  have l1 : (xs1.length : Rat) ≤ 131072 := natR_le (b := 131072) (by omega)
  have l00 : (0 : Rat) ≤ xs0.length := Rat.natCast_nonneg
  have l10 : (0 : Rat) ≤ xs1.length := Rat.natCast_nonneg
  have m0 := Rat.mul_le_mul_of_nonneg_right l0 (Rat.le_of_lt he)
  have m1 := Rat.mul_le_mul_of_nonneg_right l1 (Rat.le_of_lt he)
  have n0 := Rat.mul_nonneg l00 (Rat.le_of_lt he)
  have n1 := Rat.mul_nonneg l10 (Rat.le_of_lt he)
  generalize xs0.length = k0 at *
  generalize xs1.length = k1 at *
  have r0' : Wd (k0 + k1 + 2) (k0 * (4000000 * eta)) r0 (E (val v) xs0) := s0.weak (by omega) Rat.le_refl
  have r1' : Wd (k0 + k1 + 2) (k1 * (4000000 * eta)) r1 (E (val v) xs1) := s1.weak (by omega) Rat.le_refl
  obtain ⟨s, s1, s2⟩ := Wd.add (A := 1000000000000000000 * eta) r0' r1' (by omega) (by grind) (by grind) (by grind) (by grind) (by
    have f5 := Rat.mul_le_mul_of_nonneg_left hus (show 0 ≤ (k0 : Rat) * (4000000 * eta) + (k1 : Rat) * (4000000 * eta) by grind)
    grind)
  refine ⟨s, s1, ?_⟩
  rw [addL_E]
  exact s2.weak (by omega) Rat.le_refl

/-- WHAT r[i] HOLDS: the word of p[i] + q[i], the shorter one read as zeros. -/
def rsum (ws0 ws1 : List Nat) (i : Nat) : Nat := if i < ws1.length then (double.add (ws0.getD i 0) (ws1.getD i 0)).getD 0 else ws0.getD i 0
theorem unit_or (ws : List Nat) (h : ∀ j, j < ws.length → unitB (ws.getD j 0) = true) (i : Nat) : Wd 0 0 (ws.getD i 0) (val (ws.getD i 0)) ∧ 0 ≤ val (ws.getD i 0) ∧ val (ws.getD i 0) ≤ 1 := by
  by_cases hi : i < ws.length
  · have hu := unit_of (h i hi)
    exact ⟨hu.wd, hu.lo, hu.hi⟩
  · have e : ws.getD i 0 = 0 := by simp [List.getD, hi]
    rw [e, val_zero]
    exact ⟨wd_zero, Rat.le_refl, by decide +kernel⟩
theorem add_units (ws0 ws1 : List Nat) (h0 : ∀ j, j < ws0.length → unitB (ws0.getD j 0) = true) (h1 : ∀ j, j < ws1.length → unitB (ws1.getD j 0) = true) (i : Nat) :
    ∃ r, double.add (ws0.getD i 0) (ws1.getD i 0) = some r ∧ Wd 1 0 r (val (ws0.getD i 0) + val (ws1.getD i 0)) := by
  obtain ⟨w0, a0, a1⟩ := unit_or ws0 h0 i
  obtain ⟨w1, b0, b1⟩ := unit_or ws1 h1 i
  exact Wd.add w0 w1 (by decide) (by grind) (by grind) (by decide +kernel) (by decide +kernel) (by grind)
theorem rsum_wd (ws0 ws1 : List Nat) (h0 : ∀ j, j < ws0.length → unitB (ws0.getD j 0) = true) (h1 : ∀ j, j < ws1.length → unitB (ws1.getD j 0) = true) (i : Nat) :
    Wd 1 0 (rsum ws0 ws1 i) (val (ws0.getD i 0) + val (ws1.getD i 0)) := by
  unfold rsum
  obtain ⟨r, e, hr⟩ := add_units ws0 ws1 h0 h1 i
  split
  · rw [e]; exact hr
  · rename_i hi
    have e1 : ws1.getD i 0 = 0 := by simp [List.getD, hi]
    rw [e1, val_zero, show val (ws0.getD i 0) + 0 = val (ws0.getD i 0) by grind]
    exact (unit_or ws0 h0 i).1.weak (by decide) Rat.le_refl
end Go.Proofs.Qxb6627529a.Flt
