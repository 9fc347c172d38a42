/-
  THE WALK of pricing.CheckName: nil where the name is taken, else a new error.
-/
import Derived.Test.Qxb6627622aFmtRows
import Derived.Test.Qxb6627622aFmtStop
import Derived.WalkKit
import Derived.WalkSpells
import Derived.WalkLawsBesides
import Derived.Deep.QuietTactic
import Derived.BigQuiet
namespace Go.Proofs.Qxb6627622aFmt
open Go.RowKit Go.Extern.Stop Go.Stop Go.Extern

/-! ### The plain function -/
def okN (n : Nat) : Bool := (decide (97 ≤ n) && decide (n ≤ 122)) || (decide (65 ≤ n) && decide (n ≤ 90)) || (decide (48 ≤ n) && decide (n ≤ 57)) || decide (n = 46) || decide (n = 45) || decide (n = 95)
def okL (l : List UInt8) : Bool := l.all fun c => okN c.toNat
def fits (n : Nat) : Bool := decide (1 ≤ n) && decide (n ≤ 64)
def acc (l : List UInt8) : Bool := fits l.length && okL l

theorem okL_false {l : List UInt8} (k : Nat) (h : okL (l.take k) = false) : okL l = false := by
  have e : okL l = (okL (l.take k) && okL (l.drop k)) := by
    unfold okL; rw [← List.all_append, List.take_append_drop]
  rw [e, h]; rfl
theorem len_list (s : ByteArray) : s.data.toList.length = s.size := by simp
theorem okL_step (s : ByteArray) (k : Nat) (h : k < s.size) {c : UInt8} (hc : s[k] = c) : okL (s.data.toList.take (k + 1)) = (okL (s.data.toList.take k) && okN c.toNat) := by
  rw [List.take_succ_eq_append_getElem (by rw [len_list]; exact h)]
  subst hc
  simp [okL]
  rfl
theorem u8_lt (c : UInt8) : c.toNat < 256 := by have := c.toNat_lt; omega

/-- What CheckName ends in. -/
def Said (l : List UInt8) (e : Ending) : Prop := (acc l = true ∧ e = .returned .nilIface) ∨ (acc l = false ∧ ∃ p, e = .returned (.iface 31 (.pointer (some p))))

theorem acc_long {l : List UInt8} (h : fits l.length = false) : acc l = false := by unfold acc; rw [h]; rfl
theorem acc_bad {l : List UInt8} (k : Nat) (h : okL (l.take k) = false) : acc l = false := by unfold acc; rw [okL_false k h, Bool.and_false]

set_option maxHeartbeats 4000000 in
set_option maxRecDepth 100000 in
theorem check_no (F : Interp) (s : ByteArray) (w : World) (hF : F.answers w.tape) (hs : s.size ≤ 2097152) (h : s.size < 1 ∨ 64 < s.size) :
    Calls Tryf.prog 6 #[.string s] w fun e w' => Said s.data.toList e ∧ Below w.heap.size w w' := by
  have HN : Hid (acc s.data.toList = false) := acc_long (by rw [len_list]; unfold fits; rcases h with h | h <;> simp <;> omega)
  have HF : Hid (F.answers w.tape) := hF
  clear hF
  rcases h with h | h
  all_goals
    go_enter Tryf.func6, Tryf.ntmps6
    go_wp2
    go_loop [3, 4] (fun ok i => ok = .bool false ∧ i = .int .i64 0) (fun _ _ => 0)
    case atStart => exact ⟨by first | rfl | (have := h; simp; omega), rfl⟩
    case round =>
      obtain ⟨rfl, rfl⟩ := hrel
      have hF' := answers_open HF.out
      go_wp2
      go_ret
      exact ⟨.inr ⟨HN.out, _, rfl⟩, (((Below.refl _ _).alloc (Nat.le_refl _) _).alloc (by simp) _).drew⟩

set_option maxHeartbeats 4000000 in
set_option maxRecDepth 100000 in
theorem check_fit (F : Interp) (s : ByteArray) (w : World) (hF : F.answers w.tape) (h1 : 1 ≤ s.size) (h2 : s.size ≤ 64) :
    Calls Tryf.prog 6 #[.string s] w fun e w' => Said s.data.toList e ∧ Below w.heap.size w w' := by
  have HA : Hid (acc s.data.toList = okL (s.data.toList.take s.size)) := by
    show acc s.data.toList = okL (s.data.toList.take s.size)
    rw [← len_list, List.take_length]
    unfold acc fits
    rw [len_list]
    simp [h1, h2]
  have HF : Hid (F.answers w.tape) := hF
  clear hF
  go_enter Tryf.func6, Tryf.ntmps6
  go_wp2
  go_loop [3, 4] (fun ok i => ∃ (k : Nat) (b : Bool), k ≤ s.size ∧ ok = .bool b ∧ i = .int .i64 k ∧ Hid (b = okL (s.data.toList.take k))) (fun _ i => s.size - (intOf i).toNat)
  case atStart => exact ⟨0, true, Nat.zero_le _, by simp; omega, rfl, rfl⟩
  case round =>
    obtain ⟨k, b, hk, rfl, rfl, hb⟩ := hrel
    cases b with
    | false =>
      have HN : Hid (acc s.data.toList = false) := acc_bad k hb.out.symm
      have hF' := answers_open HF.out
      go_wp2
      go_ret
      exact ⟨.inr ⟨HN.out, _, rfl⟩, (((Below.refl _ _).alloc (Nat.le_refl _) _).alloc (by simp) _).drew⟩
    | true =>
      by_cases hlt : k < s.size
      · obtain ⟨c, hc⟩ : ∃ c, s[k] = c := ⟨_, rfl⟩
        have hcl := u8_lt c
        have HS : Hid (okL (s.data.toList.take (k + 1)) = okN c.toNat) := by
          show okL (s.data.toList.take (k + 1)) = okN c.toNat
          rw [okL_step s k hlt hc, ← hb.out, Bool.true_and]
        go_wp2
        all_goals
          go_round
          case rel =>
            refine ⟨k + 1, okN c.toNat, by omega, ?_, by go_num, HS.out.symm⟩
            refine congrArg Value.bool ?_
            rw [Bool.eq_iff_iff]
            unfold okN
            simp only [Bool.or_eq_true, Bool.and_eq_true, decide_eq_true_eq, beq_iff_eq, true_iff]
            omega
          case measure => simp [intOf]; omega
      · obtain rfl : k = s.size := by omega
        have HY : Hid (acc s.data.toList = true) := HA.out.trans hb.out.symm
        go_wp2
        go_ret
        exact ⟨.inl ⟨HY.out, rfl⟩, Below.refl _ _⟩

theorem check_any (F : Interp) (s : ByteArray) (w : World) (hF : F.answers w.tape) (hs : s.size ≤ 2097152) :
    Calls Tryf.prog 6 #[.string s] w fun e w' => Said s.data.toList e ∧ Below w.heap.size w w' := by
  by_cases h : s.size < 1 ∨ 64 < s.size
  · exact check_no F s w hF hs h
  · exact check_fit F s w hF (by omega) (by omega)
end Go.Proofs.Qxb6627622aFmt
