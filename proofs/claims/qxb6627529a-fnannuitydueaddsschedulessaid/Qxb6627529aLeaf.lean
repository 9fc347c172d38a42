/-
  THE WALKS of the small functions: zzInUnit, zzAbs, zzBytes, AnnuityDue, zzHorner, zzPow, zzSumFromLast, zzClose.
-/
import Derived.Test.Qxb6627529aRows
import Derived.Test.Qxb6627529aCls
import Derived.WalkKit
import Derived.WalkSpells
import Derived.WalkLawsBesides
import Derived.Laws.FloatArith
import Derived.Deep.QuietTactic
import Derived.BigQuiet
namespace Go.Proofs.Qxb6627529a
open Go.RowKit Flt

theorem fmul (x y r : Nat) (h : Ieee.double.mul x y = some r) : ∀ t w, (binOp .mul t (.float .f64 x) (.float .f64 y)).run Try.prog w = .ok (.float .f64 r) w := fun t w => run_float_arith w .mul t .f64 x y r h
theorem fadd (x y r : Nat) (h : Ieee.double.add x y = some r) : ∀ t w, (binOp .add t (.float .f64 x) (.float .f64 y)).run Try.prog w = .ok (.float .f64 r) w := fun t w => run_float_arith w .add t .f64 x y r h
theorem fsub (x y r : Nat) (h : Ieee.double.sub x y = some r) : ∀ t w, (binOp .sub t (.float .f64 x) (.float .f64 y)).run Try.prog w = .ok (.float .f64 r) w := fun t w => run_float_arith w .sub t .f64 x y r h

theorem fmt64 : FloatKind.f64.format = Ieee.double := rfl
theorem ret_bool {a b : Bool} (h : a = b) : Ending.returned (.bool a) = .returned (.bool b) := by rw [h]

set_option maxHeartbeats 400000 in
theorem unit_any (x : Nat) (w : World) :
    Calls Try.prog 6 #[.float .f64 x] w fun e w' => e = .returned (.bool (unitB x)) ∧ w' = w := by
  cases h : (FloatKind.f64.format.order x 0 == some Ordering.gt || FloatKind.f64.format.order x 0 == some Ordering.eq)
  · go_enter Try.func6, Try.ntmps6
    go_wp2
    all_goals (go_ret; exact ⟨ret_bool (by rw [fmt64] at h; unfold unitB; rw [h]; rfl), rfl⟩)
  · go_enter Try.func6, Try.ntmps6
    go_wp2
    all_goals (go_ret; exact ⟨ret_bool (by rw [fmt64] at h; unfold unitB; rw [h]; rfl), rfl⟩)

set_option maxHeartbeats 400000 in
theorem abs_pos (x : Nat) (w : World) (hn : Num x) (h0 : 0 ≤ val x) :
    Calls Try.prog 12 #[.float .f64 x] w fun e w' => e = .returned (.float .f64 x) ∧ w' = w := by
  have h : (FloatKind.f64.format.order x 0 == some Ordering.lt) = false := by
    rw [fmt64, order_lt hn num_zero, val_zero]; simpa [Rat.not_lt] using h0
  go_enter Try.func12, Try.ntmps12
  go_wp2
  go_ret
  exact ⟨rfl, rfl⟩

set_option maxHeartbeats 400000 in
theorem abs_neg (x : Nat) (w : World) (hn : Num x) (h0 : val x < 0) :
    Calls Try.prog 12 #[.float .f64 x] w fun e w' => e = .returned (.float .f64 (x ^^^ 2 ^ 63)) ∧ w' = w := by
  have h : (FloatKind.f64.format.order x 0 == some Ordering.lt) = true := by
    rw [fmt64, order_lt hn num_zero, val_zero]; simpa using h0
  have q : ∀ w, (Op.unary .neg (.float .f64 x)).run Try.prog w = .ok (.float .f64 (x ^^^ 2 ^ 63)) w := fun w => rfl
  go_enter Try.func12, Try.ntmps12
  go_wp2
  go_ret
  exact ⟨rfl, rfl⟩

set_option maxHeartbeats 400000 in
theorem bytes_any (a b : Option Addr) (l c m d : Nat) (v : Nat) (w : World) (hl : l ≤ maxLen) (hm : m ≤ maxLen) :
    Calls Try.prog 5 #[.slice a l c, .slice b m d, .float .f64 v] w fun e w' => (∃ x, e = .returned (.bool x)) ∧ w' = w := by
  unfold maxLen at hl hm
  go_enter Try.func5, Try.ntmps5
  go_wp2
  all_goals (go_ret; exact ⟨⟨_, rfl⟩, rfl⟩)
set_option maxHeartbeats 400000 in
theorem bytes2_any (a b : Option Addr) (l c m d : Nat) (v : Nat) (w : World) (hl : l ≤ maxLen) (hm : m ≤ maxLen) :
    Calls Try.prog 10 #[.slice a l c, .slice b m d, .float .f64 v] w fun e w' => (∃ x, e = .returned (.bool x)) ∧ w' = w := by
  unfold maxLen at hl hm
  go_enter Try.func10, Try.ntmps10
  go_wp2
  all_goals (go_ret; exact ⟨⟨_, rfl⟩, rfl⟩)

/-- A slice of floats as it is read: its elements' bits. -/
def Reads (w : World) (a : Option Addr) (len : Nat) (ws : List Nat) : Prop :=
  ws.length = len ∧ (len = 0 ∨ ∃ b off, a = some ⟨b, off, none⟩ ∧ ∀ j, j < len → w.cell? ⟨b, off + j, none⟩ = some (.float .f64 (ws.getD j 0)))

set_option maxHeartbeats 400000 in
theorem ann_any (a : Option Addr) (len cap : Nat) (ws : List Nat) (xs : List Rat) (v : Nat) (w : World) (hr : Reads w a len ws) (hn : len ≤ 131072) (hv : InUnit v) (hl : xs.length = len) (h2 : In2 xs) (hx : ∀ j (h : j < xs.length), Wd 1 0 (ws.getD j 0) xs[j]) :
    Calls Try.prog 7 #[.slice a len cap, .float .f64 v] w fun e w' => (∃ r, e = .returned (.float .f64 r) ∧ Sm (val v) xs len r) ∧ w' = w := by
  obtain ⟨hwl, hr⟩ := hr
  rcases hr with rfl | ⟨b, off, rfl, hc⟩
  · go_enter Try.func7, Try.ntmps7
    go_wp2
    go_loop [5, 6, 11] (fun s c i => i = .int .i64 0 ∧ s = .float .f64 0) (fun _ _ _ => 0)
    case atStart => exact ⟨rfl, rfl⟩
    case round =>
      obtain ⟨rfl, rfl⟩ := hrel
      go_wp2
      go_ret
      exact ⟨⟨0, rfl, sm_zero _ _⟩, rfl⟩
  · go_enter Try.func7, Try.ntmps7
    go_wp2
    go_loop [5, 6, 11] (fun s c i => ∃ k s' c' : Nat, k ≤ len ∧ i = .int .i64 k ∧ s = .float .f64 s' ∧ c = .float .f64 c' ∧ Sm (val v) xs k s' ∧ Pw (val v) k c') (fun _ _ i => len - (intOf i).toNat)
    case atStart => exact ⟨0, 0, _, Nat.zero_le _, rfl, rfl, rfl, sm_zero _ _, pw_zero _⟩
    case round =>
      obtain ⟨k, s', c', hk, rfl, rfl, rfl, hS, hP⟩ := hrel
      by_cases hlt : k < len
      · have hcell := hc k hlt
        have hxk := hx k (by omega)
        generalize ws.getD k 0 = z at hcell hxk
        obtain ⟨t, s2, e1, e2, hS2⟩ := sm_step hv (by omega) h2 (by omega) hP hxk hS
        obtain ⟨c2, e3, hP2⟩ := pw_step hv (by omega) hP
        have q1 := fmul _ _ _ e1
        have q2 := fadd _ _ _ e2
        have q3 := fmul _ _ _ e3
        have HS : Hid (Sm (val v) xs (k + 1) s2) := hS2
        have HP : Hid (Pw (val v) (k + 1) c2) := hP2
        clear e1 e2 e3 hS hP hS2 hP2 hx hxk hc h2 hv
        go_wp2_with (first | simp only [q1] | simp only [q2] | simp only [q3])
        go_round
        case rel => exact ⟨k + 1, s2, c2, by omega, by go_num, rfl, rfl, HS.out, HP.out⟩
        case measure => simp [intOf]; omega
      · obtain rfl : k = len := by omega
        go_wp2
        go_ret
        exact ⟨⟨s', rfl, hS⟩, rfl⟩

set_option maxHeartbeats 400000 in
theorem horner_any (a : Option Addr) (len cap : Nat) (ws : List Nat) (xs : List Rat) (v : Nat) (w : World) (hr : Reads w a len ws) (hn : len ≤ 131072) (hv : InUnit v) (hl : xs.length = len) (h2 : In2 xs) (hx : ∀ j (h : j < xs.length), Wd 0 0 (ws.getD j 0) xs[j]) :
    Calls Try.prog 9 #[.slice a len cap, .float .f64 v] w fun e w' => (∃ r, e = .returned (.float .f64 r) ∧ Hn (val v) xs len r) ∧ w' = w := by
  obtain ⟨hwl, hr⟩ := hr
  go_enter Try.func9, Try.ntmps9
  go_wp2
  go_loop [5, 6] (fun s i => ∃ k s' : Nat, k ≤ len ∧ i = .int .i64 ((k : Int) - 1) ∧ s = .float .f64 s' ∧ Hn (val v) xs (len - k) s') (fun _ i => (intOf i + 1).toNat)
  case atStart => exact ⟨len, 0, Nat.le_refl _, rfl, rfl, by rw [Nat.sub_self]; exact hn_zero _ _⟩
  case round =>
    obtain ⟨k, s', hk, rfl, rfl, hH⟩ := hrel
    cases k with
    | zero =>
      have hm : ((0 : Nat) : Int) - 1 = -1 := rfl
      rw [hm]
      go_wp2
      go_ret
      exact ⟨⟨s', rfl, hH⟩, rfl⟩
    | succ k =>
      rcases hr with rfl | ⟨b, off, rfl, hc⟩
      · omega
      have hm : ((k + 1 : Nat) : Int) - 1 = (k : Int) := by omega
      rw [hm]
      clear hm
      have hlt : k < len := by omega
      have hcell := hc k hlt
      have hxk := hx k (by omega)
      generalize ws.getD k 0 = z at hcell hxk
      obtain ⟨t, s2, e1, e2, hH2⟩ := hn_step hv (by omega) h2 (by omega) hxk hH
      have q1 := fmul _ _ _ e1
      have q2 := fadd _ _ _ e2
      have HH : Hid (Hn (val v) xs (len - k) s2) := by rw [show len - (k + 1) + 1 = len - k by omega] at hH2; exact hH2
      clear e1 e2 hH hH2 hx hxk hc h2 hv
      go_wp2_with (first | simp only [q1] | simp only [q2])
      go_round
      case rel => exact ⟨k, s2, by omega, rfl, rfl, HH.out⟩
      case measure => simp [intOf]

theorem and_one (k : Nat) (hk : k ≤ 131072) : bits .and .i64 (k : Int) 1 = (k : Int) % 2 :=
  bits_mask .i64 31 (by decide) (fun n h0 h1 => by rw [IntKind.wrap_i64]; omega) 1 (by decide) k (by omega) (by omega)
/-- WHAT zzPow COMPUTES, bit for bit. -/
def powW : Nat → Nat → Nat → Nat → Nat
  | 0, _, r, _ => r
  | f + 1, k, r, b => if k = 0 then r else powW f (k / 2) (if k % 2 = 1 then (Ieee.double.mul r b).getD 0 else r) ((Ieee.double.mul b b).getD 0)
def pw (v k : Nat) : Nat := powW k k 4607182418800017408 v
theorem powW_wd {v : Nat} (hv : InUnit v) (k0 : Nat) (hk0 : k0 ≤ 131072) (f : Nat) : ∀ (k r b a B : Nat), k ≤ f → Sq (val v) k0 a B k r b → Wd k0 (1000000000000 * eta) (powW f k r b) (val v ^ k0) := by
  induction f with
  | zero =>
    intro k r b a B hk hS
    obtain rfl : k = 0 := by omega
    exact sq_end hk0 hS
  | succ f ih =>
    intro k r b a B hk hS
    rw [powW]
    by_cases hz : k = 0
    · rw [if_pos hz]; subst hz; exact sq_end hk0 hS
    · rw [if_neg hz]
      by_cases ho : k % 2 = 1
      · obtain ⟨r2, b2, e1, e2, hS2⟩ := sq_odd hv hk0 ho hS
        rw [if_pos ho, e1, e2]
        exact ih _ _ _ _ _ (by omega) hS2
      · obtain ⟨b2, e2, hS2⟩ := sq_even hv hk0 (by omega) (by omega) hS
        rw [if_neg ho, e2]
        exact ih _ _ _ _ _ (by omega) hS2
theorem pw_wd {v : Nat} (hv : InUnit v) (k0 : Nat) (hk0 : k0 ≤ 131072) : Wd k0 (1000000000000 * eta) (pw v k0) (val v ^ k0) :=
  powW_wd hv k0 hk0 k0 k0 _ _ 0 1 (Nat.le_refl _) (sq_start hv k0)
theorem powW_zero (f r b : Nat) : powW f 0 r b = r := by cases f <;> simp [powW]

set_option maxHeartbeats 400000 in
theorem pow_any (v k0 : Nat) (w : World) (hv : InUnit v) (hk0 : k0 ≤ 131072) :
    Calls Try.prog 13 #[.float .f64 v, .int .i64 k0] w fun e w' => e = .returned (.float .f64 (pw v k0)) ∧ w' = w := by
  generalize hres : pw v k0 = res
  go_enter Try.func13, Try.ntmps13
  go_wp2
  go_loop [1, 5, 6] (fun i r b => ∃ k r' b' a' B' f : Nat, k ≤ 131072 ∧ i = .int .i64 k ∧ r = .float .f64 r' ∧ b = .float .f64 b' ∧ Sq (val v) k0 a' B' k r' b' ∧ k ≤ f ∧ powW f k r' b' = res) (fun i _ _ => (intOf i).toNat)
  case atStart => exact ⟨k0, _, _, _, _, k0, hk0, rfl, rfl, rfl, sq_start hv k0, Nat.le_refl _, hres⟩
  case round =>
    obtain ⟨k, r', b', a', B', f, hk, rfl, rfl, rfl, hS, hf, hp⟩ := hrel
    clear hres
    by_cases hz : k = 0
    · subst hz
      rw [powW_zero] at hp
      subst hp
      go_wp2
      go_ret
      exact ⟨rfl, rfl⟩
    · have hpos : 0 < k := by omega
      obtain ⟨f, rfl⟩ : ∃ f', f = f' + 1 := ⟨f - 1, by omega⟩
      rw [powW, if_neg hz] at hp
      by_cases ho : k % 2 = 1
      · have hb : (bits .and .i64 (k : Int) 1 == 1) = true := by rw [and_one k hk]; simp; omega
        obtain ⟨r2, b2, e1, e2, hS2⟩ := sq_odd hv hk0 ho hS
        rw [if_pos ho, e1, e2] at hp
        have q1 := fmul _ _ _ e1
        have q2 := fmul _ _ _ e2
        have HS : Hid (Sq (val v) k0 (a' + B') (2 * B') (k / 2) r2 b2) := hS2
        have HP : Hid (powW f (k / 2) r2 b2 = res) := hp
        clear e1 e2 hS hS2 hv hp
        go_wp2_with (first | simp only [q1] | simp only [q2])
        go_round
        case rel => exact ⟨k / 2, r2, b2, _, _, f, by omega, by go_num, rfl, rfl, HS.out, by omega, HP.out⟩
        case measure => simp [intOf]; omega
      · have hb : (bits .and .i64 (k : Int) 1 == 1) = false := by rw [and_one k hk]; simp; omega
        obtain ⟨b2, e2, hS2⟩ := sq_even hv hk0 (by omega) (by omega) hS
        rw [if_neg ho, e2] at hp
        have q2 := fmul _ _ _ e2
        have HS : Hid (Sq (val v) k0 a' (2 * B') (k / 2) r' b2) := hS2
        have HP : Hid (powW f (k / 2) r' b2 = res) := hp
        clear e2 hS hS2 hv hp
        go_wp2_with (first | simp only [q2])
        go_round
        case rel => exact ⟨k / 2, r', b2, _, _, f, by omega, by go_num, rfl, rfl, HS.out, by omega, HP.out⟩
        case measure => simp [intOf]; omega

set_option maxHeartbeats 400000 in
theorem last_any (a : Option Addr) (len cap : Nat) (ws : List Nat) (xs : List Rat) (v : Nat) (w : World) (hr : Reads w a len ws) (hn : len ≤ 131072) (hv : InUnit v) (hl : xs.length = len) (h2 : In2 xs) (hx : ∀ j (h : j < xs.length), Wd 0 0 (ws.getD j 0) xs[j]) :
    Calls Try.prog 11 #[.slice a len cap, .float .f64 v] w fun e w' => (∃ r, e = .returned (.float .f64 r) ∧ Ln (val v) xs len r) ∧ ∃ n, w' = w.drewN n := by
  obtain ⟨hwl, hr⟩ := hr
  go_enter Try.func11, Try.ntmps11
  go_wp2
  go_loopw [5, 6] (fun s i w1 => ∃ k s' n : Nat, k ≤ len ∧ i = .int .i64 ((k : Int) - 1) ∧ s = .float .f64 s' ∧ Ln (val v) xs (len - k) s' ∧ Hid (w1 = w.drewN n)) (fun _ i _ => (intOf i + 1).toNat)
  case atStart => exact ⟨len, 0, 0, Nat.le_refl _, rfl, rfl, by rw [Nat.sub_self]; exact ln_zero _ _, rfl⟩
  case round =>
    obtain ⟨k, s', n, hk, rfl, rfl, hH, hw1⟩ := hrel
    cases k with
    | zero =>
      have hm : ((0 : Nat) : Int) - 1 = -1 := rfl
      rw [hm]
      go_wp2
      go_ret
      exact ⟨⟨s', rfl, hH⟩, n, hw1.out⟩
    | succ k =>
      rcases hr with rfl | ⟨b, off, rfl, hc⟩
      · omega
      have hm : ((k + 1 : Nat) : Int) - 1 = (k : Int) := by omega
      rw [hm]
      clear hm
      have hlt : k < len := by omega
      have hcell : wr.cell? ⟨b, off + k, none⟩ = some (.float .f64 (ws.getD k 0)) := by rw [hw1.out, World.cell?_drewN]; exact hc k hlt
      have hxk := hx k (by omega)
      generalize ws.getD k 0 = z at hcell hxk
      have hpw := pw_wd hv k (by omega)
      obtain ⟨t, s2, e1, e2, hH2⟩ := ln_step hv (by omega) h2 (by omega) hxk hpw hH
      have hpa := fun w => pow_any v k w hv (by omega)
      generalize pw v k = c at *
      have q1 := fmul _ _ _ e1
      have q2 := fadd _ _ _ e2
      have HH : Hid (Ln (val v) xs (len - k) s2) := by rw [show len - (k + 1) + 1 = len - k by omega] at hH2; exact hH2
      clear e1 e2 hH hH2 hx hxk hc h2 hv hpw
      go_wp2_with fail
      go_quiet ((go_at_call 13; exact Calls.quiet_of_same (hpa _)))
      go_wp2
      go_roundw
      case rel => exact ⟨k, s2, n + nq, by omega, rfl, rfl, HH.out, by show wr.drewN nq = _; rw [hw1.out, World.drewN_drewN]⟩
      case measure => simp [intOf]

theorem num_cast (n : Nat) : ((n : Int) + 4) = ((n + 4 : Nat) : Int) := by omega
set_option linter.unusedSimpArgs false in
/-- zzClose, its two sides given as 'the same exact number, up to so many roundings'. -/
theorem close_any (a b n : Nat) (k1 k2 : Nat) (A e : Rat) (w : World) (ha : Wd k1 A a e) (hb : Wd k2 A b e) (hk1 : k1 ≤ 2 * n + 6) (hk2 : k2 ≤ 2 * n + 6) (hn : n ≤ 262144) (hA : A ≤ 1000000000000000000 * eta) (he : e ≤ 524288) :
    Calls Try.prog 8 #[.float .f64 a, .float .f64 b, .int .i64 n] w fun e w' => e = .returned (.bool true) ∧ w' = w := by
  have fin : ∀ m, ((m = a ∧ val b ≤ val a) ∨ (m = b ∧ val a < val b)) → ∃ c1 t1 t2 tol d d', Ieee.double.mul (floatOfInt .f64 ((n : Int) + 4)) 4391009636686233600 = some c1 ∧ Ieee.double.mul c1 m = some t1 ∧ Ieee.double.mul (floatOfInt .f64 ((n : Int) + 4)) 103582791429521408 = some t2 ∧ Ieee.double.add t1 t2 = some tol ∧ Ieee.double.sub a b = some d ∧
      (∀ w, Calls Try.prog 12 #[.float .f64 d] w fun e w' => e = .returned (.float .f64 d') ∧ w' = w) ∧ (FloatKind.f64.format.order d' tol == some .lt || FloatKind.f64.format.order d' tol == some .eq) = true := by
    intro m hm
    obtain ⟨c1, t1, t2, tol, d, e1, e2, e3, e4, e5, hd, ht, l1, l2⟩ := close_words ha hb hk1 hk2 hn hA he hm
    rw [← num_cast] at e1 e3
    by_cases h0 : 0 ≤ val d
    · refine ⟨c1, t1, t2, tol, d, d, e1, e2, e3, e4, e5, fun w => abs_pos d w hd h0, ?_⟩
      rw [fmt64, order_lt hd ht, order_eq hd ht]
      simp only [Bool.or_eq_true, decide_eq_true_eq]
      exact Rat.le_iff_lt_or_eq.1 l1
    · have hneg : val d < 0 := Rat.not_le.1 h0
      obtain ⟨hd', hv⟩ := neg_spec hd
      refine ⟨c1, t1, t2, tol, d, _, e1, e2, e3, e4, e5, fun w => abs_neg d w hd hneg, ?_⟩
      rw [fmt64, order_lt hd' ht, order_eq hd' ht, hv]
      simp only [Bool.or_eq_true, decide_eq_true_eq]
      exact Rat.le_iff_lt_or_eq.1 l2
  have ca := fun w => abs_pos a w ha.num ha.ap.c0
  have cb := fun w => abs_pos b w hb.num hb.ap.c0
  by_cases hm : val b ≤ val a
  · have hg : (FloatKind.f64.format.order b a == some .gt) = false := by
      rw [fmt64, order_gt hb.num ha.num]; simpa [Rat.not_lt] using hm
    obtain ⟨c1, t1, t2, tol, d, d', e1, e2, e3, e4, e5, hc, hle⟩ := fin a (.inl ⟨rfl, hm⟩)
    have q1 := fmul _ _ _ e1
    have q2 := fmul _ _ _ e2
    have q3 := fmul _ _ _ e3
    have q4 := fadd _ _ _ e4
    have q5 := fsub _ _ _ e5
    clear e1 e2 e3 e4 e5 ha hb hA he fin
    have CA : Hid (∀ w, Calls Try.prog 12 #[.float .f64 a] w fun e w' => e = .returned (.float .f64 a) ∧ w' = w) := ca
    have CB : Hid (∀ w, Calls Try.prog 12 #[.float .f64 b] w fun e w' => e = .returned (.float .f64 b) ∧ w' = w) := cb
    have CC : Hid (∀ w, Calls Try.prog 12 #[.float .f64 d] w fun e w' => e = .returned (.float .f64 d') ∧ w' = w) := hc
    clear ca cb hc hm
    go_enter Try.func8, Try.ntmps8
    go_wp2_with fail
    refine (CA.out _).mono ?_
    rintro e w' ⟨rfl, rfl⟩
    go_wp2_with fail
    refine (CB.out _).mono ?_
    rintro e w' ⟨rfl, rfl⟩
    go_wp2_with (first | simp only [q1] | simp only [q2] | simp only [q3] | simp only [q4] | simp only [q5])
    refine (CC.out _).mono ?_
    rintro e w' ⟨rfl, rfl⟩
    go_wp2_with fail
    go_ret
    exact ⟨rfl, rfl⟩
  · have hm' : val a < val b := Rat.not_le.1 hm
    have hg : (FloatKind.f64.format.order b a == some .gt) = true := by
      rw [fmt64, order_gt hb.num ha.num]; simpa using hm'
    obtain ⟨c1, t1, t2, tol, d, d', e1, e2, e3, e4, e5, hc, hle⟩ := fin b (.inr ⟨rfl, hm'⟩)
    have q1 := fmul _ _ _ e1
    have q2 := fmul _ _ _ e2
    have q3 := fmul _ _ _ e3
    have q4 := fadd _ _ _ e4
    have q5 := fsub _ _ _ e5
    clear e1 e2 e3 e4 e5 ha hb hA he fin
    have CA : Hid (∀ w, Calls Try.prog 12 #[.float .f64 a] w fun e w' => e = .returned (.float .f64 a) ∧ w' = w) := ca
    have CB : Hid (∀ w, Calls Try.prog 12 #[.float .f64 b] w fun e w' => e = .returned (.float .f64 b) ∧ w' = w) := cb
    have CC : Hid (∀ w, Calls Try.prog 12 #[.float .f64 d] w fun e w' => e = .returned (.float .f64 d') ∧ w' = w) := hc
    clear ca cb hc hm hm'
    go_enter Try.func8, Try.ntmps8
    go_wp2_with fail
    refine (CA.out _).mono ?_
    rintro e w' ⟨rfl, rfl⟩
    go_wp2_with fail
    refine (CB.out _).mono ?_
    rintro e w' ⟨rfl, rfl⟩
    go_wp2_with fail
    refine (CB.out _).mono ?_
    rintro e w' ⟨rfl, rfl⟩
    go_wp2_with (first | simp only [q1] | simp only [q2] | simp only [q3] | simp only [q4] | simp only [q5])
    refine (CC.out _).mono ?_
    rintro e w' ⟨rfl, rfl⟩
    go_wp2_with fail
    go_ret
    exact ⟨rfl, rfl⟩

end Go.Proofs.Qxb6627529a
