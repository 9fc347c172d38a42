/-
  THE WALK of FnAnnuityDueAddsSchedules.
-/
import Derived.Test.Qxb6627529aSplit
import Derived.Test.Qxb6627529aSum
import Derived.WalkSmall
namespace Go.Proofs.Qxb6627529a
open Go.RowKit Flt

set_option maxHeartbeats 1000000 in
theorem bytes2_yes (a b : Option Addr) (l c m d : Nat) (v : Nat) (w : World) (hl : l + m ≤ 131072) :
    Calls Try.prog 10 #[.slice a l c, .slice b m d, .float .f64 v] w fun e w' => e = .returned (.bool true) ∧ w' = w := by
  go_enter Try.func10, Try.ntmps10
  go_wp2
  go_ret
  exact ⟨rfl, rfl⟩

theorem same_dr {f : FuncId} {args : Array Value} {w : World} {S : Nat → Prop} {Q : Ending → World → Prop} (h : Calls Try.prog f args w fun e w' => (∃ r : Nat, e = .returned (.float .f64 r) ∧ S r) ∧ ∃ n, w' = w.drewN n) (hq : ∀ r n, S r → Q (.returned (.float .f64 r)) (w.drewN n)) : Calls Try.prog f args w Q :=
  h.mono fun e w' ⟨⟨r, he, hs⟩, n, hw⟩ => by rw [he, hw]; exact hq r n hs
theorem Reads.drewN {w : World} {a : Option Addr} {len : Nat} {ws : List Nat} (h : Reads w a len ws) (n : Nat) : Reads (w.drewN n) a len ws := by
  obtain ⟨h1, h2⟩ := h
  refine ⟨h1, ?_⟩
  rcases h2 with h2 | ⟨b, off, rfl, hc⟩
  · exact .inl h2
  · exact .inr ⟨b, off, rfl, fun j hj => by rw [World.cell?_drewN]; exact hc j hj⟩
theorem vals_getD (ws : List Nat) (i : Nat) : (vals ws).getD i 0 = val (ws.getD i 0) := by
  by_cases h : i < ws.length
  · simp [vals, List.getD, h]
  · simp [vals, List.getD, h, val_zero]
def rlist (ws0 ws1 : List Nat) (n : Nat) : List Nat := (List.range n).map (rsum ws0 ws1)
theorem rlist_len (ws0 ws1 : List Nat) (n : Nat) : (rlist ws0 ws1 n).length = n := by simp [rlist]
theorem rlist_getD (ws0 ws1 : List Nat) (n i : Nat) (h : i < n) : rsum ws0 ws1 i = (rlist ws0 ws1 n).getD i 0 := by
  simp [rlist, List.getD, h]
theorem sums_wd (ws0 ws1 : List Nat) (n : Nat) (hn : n = max ws0.length ws1.length) (h0 : ∀ j, j < ws0.length → unitB (ws0.getD j 0) = true) (h1 : ∀ j, j < ws1.length → unitB (ws1.getD j 0) = true)
    (i : Nat) (hi : i < (addL (vals ws0) (vals ws1)).length) : Wd 1 0 ((rlist ws0 ws1 n).getD i 0) (addL (vals ws0) (vals ws1))[i] := by
  have hi' : i < n := by rw [addL_len, vals_len, vals_len, ← hn] at hi; exact hi
  have e : (addL (vals ws0) (vals ws1))[i] = (addL (vals ws0) (vals ws1)).getD i 0 := by simp [List.getD, hi]
  rw [← rlist_getD _ _ _ _ hi', e, addL_get, vals_getD, vals_getD]
  exact rsum_wd ws0 ws1 h0 h1 i
theorem sums_in2 (ws0 ws1 : List Nat) (h0 : ∀ j, j < ws0.length → unitB (ws0.getD j 0) = true) (h1 : ∀ j, j < ws1.length → unitB (ws1.getD j 0) = true) : In2 (addL (vals ws0) (vals ws1)) := by
  intro x hx
  obtain ⟨i, hi, rfl⟩ := List.getElem_of_mem hx
  have e : (addL (vals ws0) (vals ws1))[i] = (addL (vals ws0) (vals ws1)).getD i 0 := by simp [List.getD, hi]
  rw [e, addL_get, vals_getD, vals_getD]
  obtain ⟨_, a0, a1⟩ := unit_or ws0 h0 i
  obtain ⟨_, b0, b1⟩ := unit_or ws1 h1 i
  constructor <;> grind

set_option linter.unusedSimpArgs false in
set_option maxRecDepth 100000 in
set_option maxHeartbeats 4000000 in
theorem adds_good (a0 a1 : Option Addr) (l0 c0 l1 c1 v : Nat) (ws0 ws1 : List Nat) (w : World) (h0 : Reads w a0 l0 ws0) (h1 : Reads w a1 l1 ws1) (hn0 : a0 = none → l0 = 0) (hn1 : a1 = none → l1 = 0) (hsum : l0 + l1 ≤ 131072) (hv : unitB v = true) :
    Calls Try.prog 4 #[.slice a0 l0 c0, .slice a1 l1 c1, .float .f64 v] w fun e w' => e = .returned (.bool true) ∧ Below w.heap.size w w' := by
  obtain ⟨i0, hi, hz0, hz1, hz2⟩ := info_parts Try.info23
  have s1 : l0 ≤ 131072 := by omega
  have s2 : l1 ≤ 131072 := by omega
  go_enter Try.func4, Try.ntmps4
  go_upto_if 40 with (first | (go_at_call 10; refine same (bytes2_yes _ _ _ _ _ _ _ _ hsum) ?_) | (go_at_call 6; refine same (unit_any _ _) ?_))
  go_cut [0] (fun p wc => ∃ a c, p = .slice a l0 c ∧ Hid (Reads wc a l0 ws0) ∧ Below w.heap.size w wc)
  case first =>
    cases a0 with
    | none =>
      obtain rfl := hn0 rfl
      go_wp2
      go_meet
      case rel => exact ⟨_, _, rfl, h0, Below.refl _ _⟩
    | some ad =>
      go_wp2_with (first
        | (at_make; refine wpList_make_full _ rfl _ _ 22 rfl w.heap.size 23 i0 (.float .f64 0) 1 Try.underlying22 hi hz0 hz1 .i64 .i64 _ _ l0 rfl rfl rfl rfl (by rw [hz2]; omega) (by unfold maxLen; omega) (by simp) ?_; intro w1 own1 grow1; obtain ⟨cs, hrow, hlen⟩ := made_row own1; have bel1 : Below w.heap.size w w1 := (Below.refl _ _).grown grow1 (Nat.le_refl _) (by intro k hk; cases hk); have r1 := h0.below bel1)
        | (refine wpList_copy_splice rfl (.tmp 44) (.tmp 45) 22 22 rfl 23 Try.underlying22 Try.size23 _ _ _ _ _ _ rfl rfl w.heap.size 0 cs 23 hrow (fl ws0) (by have := h0.1; simp [fl]; omega) (fun hp => ⟨rfl, r1.src hp⟩) (by have := h0.1; simp [fl]; omega) (fl_one _) w.heap.size w bel1 (Nat.le_refl _) ?_; intro w2 hh2 bel2))
      have r2 : Row w2 w.heap.size (fl ws0) := by
        have := hh2.out
        rw [splice_all _ _ (by have := h0.1; simp [fl]; omega)] at this
        exact this
      have r3 := h0.1 ▸ r2.reads
      clear own1 grow1 hrow r1
      go_wp2
      go_meet
      case rel => exact ⟨_, _, rfl, r3, bel2⟩
  case rest =>
    obtain ⟨a, c, rfl, hr0, bel⟩ := hcut
    have hr1 : Reads wc a1 l1 ws1 := h1.below bel
    clear h0 h1 hn0
    go_upto_if 49 with fail
    go_cut [1] (fun q w2 => ∃ a' c', q = .slice a' l1 c' ∧ Hid (Reads w2 a' l1 ws1) ∧ Hid (Reads w2 a l0 ws0) ∧ Below w.heap.size w w2)
    case first =>
      cases a1 with
      | none =>
        obtain rfl := hn1 rfl
        go_wp2
        go_meet
        case rel => exact ⟨_, _, rfl, hr1, hr0, bel⟩
      | some ad =>
        go_wp2_with (first
          | (at_make; refine wpList_make_full _ rfl _ _ 22 rfl wc.heap.size 23 i0 (.float .f64 0) 1 Try.underlying22 hi hz0 hz1 .i64 .i64 _ _ l1 rfl rfl rfl rfl (by rw [hz2]; omega) (by unfold maxLen; omega) (by simp) ?_; intro w1 own1 grow1; obtain ⟨cs, hrow, hlen⟩ := made_row own1; have bel1 : Below wc.heap.size wc w1 := (Below.refl _ _).grown grow1 (Nat.le_refl _) (by intro k hk; cases hk); have r1 := hr1.below bel1)
          | (refine wpList_copy_splice rfl (.tmp 53) (.tmp 54) 22 22 rfl 23 Try.underlying22 Try.size23 _ _ _ _ _ _ rfl rfl wc.heap.size 0 cs 23 hrow (fl ws1) (by have := hr1.1; simp [fl]; omega) (fun hp => ⟨rfl, r1.src hp⟩) (by have := hr1.1; simp [fl]; omega) (fl_one _) wc.heap.size wc bel1 (Nat.le_refl _) ?_; intro w2 hh2 bel2))
        have r2 : Row w2 wc.heap.size (fl ws1) := by
          have := hh2.out
          rw [splice_all _ _ (by have := hr1.1; simp [fl]; omega)] at this
          exact this
        have r3 := hr1.1 ▸ r2.reads
        have r4 := hr0.out.below bel2
        have b4 := bel.trans (bel2.mono bel.size)
        clear own1 grow1 hrow r1
        go_wp2
        go_meet
        case rel => exact ⟨_, _, rfl, r3, r4, b4⟩
    case rest =>
      clear hr1 hr0 hn1 bel
      obtain ⟨a', c', rfl, hr1, hr0, bel⟩ := hcut
      obtain ⟨hq0, hr0⟩ := hr0.out
      go_wp2_with fail
      go_loop [9] (fun i => ∃ k : Nat, k ≤ l0 ∧ i = .int .i64 k ∧ ∀ j, j < k → unitB (ws0.getD j 0) = true) (fun i => l0 - (intOf i).toNat)
      case atStart => exact ⟨0, Nat.zero_le _, rfl, fun j hj => by omega⟩
      case round =>
        obtain ⟨k, hk, rfl, hu0⟩ := hrel
        by_cases hlt : k < l0
        · rcases hr0 with rfl | ⟨b, off, rfl, hc⟩
          · omega
          have hcell := hc k hlt
          generalize hz : ws0.getD k 0 = z at hcell
          have Hz : Hid (ws0.getD k 0 = z) := hz
          clear hz hc
          cases hub : unitB z with
          | false =>
            go_wp2_with (go_at_call 6; refine same (unit_any _ _) ?_)
            go_ret
            exact ⟨rfl, bel⟩
          | true =>
            go_wp2_with (go_at_call 6; refine same (unit_any _ _) ?_)
            go_round
            case rel => exact ⟨k + 1, by omega, by go_num, fun j hj => by
              by_cases hjk : j = k
              · rw [hjk, Hz.out]; exact hub
              · exact hu0 j (by omega)⟩
            case measure => simp [intOf]; omega
        · obtain rfl : k = l0 := by omega
          have HU0 : Hid (∀ j, j < k → unitB (ws0.getD j 0) = true) := hu0
          have HR0 : Hid (Reads wc a k ws0) := ⟨hq0, hr0⟩
          clear hu0 hr0 hlt hk hq0
          obtain ⟨hq1, hr1⟩ := hr1.out
          go_wp2_with fail
          go_loop [10] (fun i => ∃ m : Nat, m ≤ l1 ∧ i = .int .i64 m ∧ ∀ j, j < m → unitB (ws1.getD j 0) = true) (fun i => l1 - (intOf i).toNat)
          case atStart => exact ⟨0, Nat.zero_le _, rfl, fun j hj => by omega⟩
          case round =>
            obtain ⟨m, hm, rfl, hu1⟩ := hrel
            by_cases hlt : m < l1
            · rcases hr1 with rfl | ⟨b, off, rfl, hc⟩
              · omega
              have hcell := hc m hlt
              generalize hz : ws1.getD m 0 = z at hcell
              have Hz : Hid (ws1.getD m 0 = z) := hz
              clear hz hc
              cases hub : unitB z with
              | false =>
                go_wp2_with (go_at_call 6; refine same (unit_any _ _) ?_)
                go_ret
                exact ⟨rfl, bel⟩
              | true =>
                go_wp2_with (go_at_call 6; refine same (unit_any _ _) ?_)
                go_round
                case rel => exact ⟨m + 1, by omega, by go_num, fun j hj => by
                  by_cases hjk : j = m
                  · rw [hjk, Hz.out]; exact hub
                  · exact hu1 j (by omega)⟩
                case measure => simp [intOf]; omega
            · obtain rfl : m = l1 := by omega
              have HU1 : Hid (∀ j, j < m → unitB (ws1.getD j 0) = true) := hu1
              have HR1 : Hid (Reads wc a' m ws1) := ⟨hq1, hr1⟩
              clear hu1 hr1 hlt hm hq1
              go_upto_if 86 with fail
              go_cut [11] (fun n w2 => n = .int .i64 ((max k m : Nat) : Int) ∧ w2 = wc)
              case first =>
                by_cases hmx : k < m
                · go_wp2
                  go_meet
                  case rel => exact ⟨by rw [Nat.max_eq_right (by omega)], rfl⟩
                · go_wp2
                  go_meet
                  case rel => exact ⟨by rw [Nat.max_eq_left (by omega)], rfl⟩
              case rest =>
                obtain ⟨rfl, rfl⟩ := hcut
                obtain ⟨N, hN⟩ : ∃ N, N = max k m := ⟨_, rfl⟩
                rw [← hN]
                have hN1 : N ≤ k + m := by omega
                have hN2 : k ≤ N := by omega
                have hN3 : m ≤ N := by omega
                have HN : Hid (N = max k m) := hN
                clear hN
                have U0 : Hid (∀ j, j < ws0.length → unitB (ws0.getD j 0) = true) := by rw [HR0.out.1]; exact HU0.out
                have U1 : Hid (∀ j, j < ws1.length → unitB (ws1.getD j 0) = true) := by rw [HR1.out.1]; exact HU1.out
                clear HU0 HU1
                go_wp2_with (at_make; refine wpList_make_full _ rfl _ _ 22 rfl wc.heap.size 23 i0 (.float .f64 0) 1 Try.underlying22 hi hz0 hz1 .i64 .i64 _ _ N rfl rfl rfl rfl (by rw [hz2]; omega) (by unfold maxLen; omega) (by simp) ?_; intro w1 own1 grow1; obtain ⟨cs, hrow, hlen⟩ := made_row own1; have bel1 : Below wc.heap.size wc w1 := (Below.refl _ _).grown grow1 (Nat.le_refl _) (by intro k hk; cases hk))
                have F0 : Hid (Filled wc w1 wc.heap.size N 0 (rsum ws0 ws1)) := ⟨cs, hrow, hlen, fun t ht => by omega, bel1⟩
                have hst := stf
                clear own1 grow1 hrow hlen bel1 cs hi hz0 hz1 hz2
                go_loopw [13] (fun i wr => ∃ j : Nat, j ≤ N ∧ i = .int .i64 j ∧ Hid (Filled wc wr wc.heap.size N j (rsum ws0 ws1))) (fun i _ => N - (intOf i).toNat)
                case atStart => exact ⟨0, Nat.zero_le _, rfl, F0⟩
                case round =>
                  obtain ⟨j, hj, rfl, hF⟩ := hrel
                  clear F0
                  by_cases hlt : j < N
                  · obtain ⟨⟨x, hx⟩, hfr⟩ := hF.out.cell hlt
                    have bel2 := hF.out.choose_spec.2.2.2
                    have hF2 := fun z hz => hF.out.step (z := z) hlt hz
                    obtain ⟨r, hr, _⟩ := add_units ws0 ws1 U0.out U1.out j
                    have hl0 := HR0.out.1
                    have hl1 := HR1.out.1
                    by_cases h0 : j < k
                    · obtain ⟨_, hcr0⟩ := HR0.out.below bel2
                      rcases hcr0 with rfl | ⟨b0, off0, rfl, hc0⟩
                      · omega
                      have hcell0 := hc0 j h0
                      by_cases h1 : j < m
                      · obtain ⟨_, hcr1⟩ := HR1.out.below bel2
                        rcases hcr1 with rfl | ⟨b1, off1, rfl, hc1⟩
                        · omega
                        have hcell1 := hc1 j h1
                        have HF : Hid (Filled wc (wr.setCell ⟨wc.heap.size, j, none⟩ (.float .f64 r)) wc.heap.size N (j + 1) (rsum ws0 ws1)) := hF2 r (by unfold rsum; rw [if_pos (by omega), hr]; rfl)
                        generalize ws0.getD j 0 = z0 at hcell0 hr
                        generalize ws1.getD j 0 = z1 at hcell1 hr
                        have q := fadd _ _ _ hr
                        clear hr hF2 hF hc0 hc1 bel2 hl0 hl1
                        go_wp2_with (simp only [q])
                        go_roundw
                        case rel => exact ⟨j + 1, by omega, by go_num, HF⟩
                        case measure => simp [intOf]; omega
                      · have HF : Hid (∀ z, ws0.getD j 0 = z → Filled wc (wr.setCell ⟨wc.heap.size, j, none⟩ (.float .f64 z)) wc.heap.size N (j + 1) (rsum ws0 ws1)) := fun z hz => hF2 z (by unfold rsum; rw [if_neg (by omega), hz])
                        generalize hz : ws0.getD j 0 = z0 at hcell0 hr
                        have HF' : Hid (Filled wc (wr.setCell ⟨wc.heap.size, j, none⟩ (.float .f64 z0)) wc.heap.size N (j + 1) (rsum ws0 ws1)) := HF.out z0 hz
                        clear hr hF2 hF hc0 bel2 HF hz hl0 hl1
                        go_wp2
                        go_roundw
                        case rel => exact ⟨j + 1, by omega, by go_num, HF'⟩
                        case measure => simp [intOf]; omega
                    · have h1 : j < m := by have := HN.out; omega
                      obtain ⟨_, hcr1⟩ := HR1.out.below bel2
                      rcases hcr1 with rfl | ⟨b1, off1, rfl, hc1⟩
                      · omega
                      have hcell1 := hc1 j h1
                      have HF : Hid (Filled wc (wr.setCell ⟨wc.heap.size, j, none⟩ (.float .f64 r)) wc.heap.size N (j + 1) (rsum ws0 ws1)) := hF2 r (by unfold rsum; rw [if_pos (by omega), hr]; rfl)
                      have e0 : ws0.getD j 0 = 0 := by simp [List.getD, show ws0.length ≤ j by omega]
                      rw [e0] at hr
                      generalize ws1.getD j 0 = z1 at hcell1 hr
                      have q := fadd _ _ _ hr
                      clear hr hF2 hF hc1 bel2 hl0 hl1 e0
                      go_wp2_with (simp only [q])
                      go_roundw
                      case rel => exact ⟨j + 1, by omega, by go_num, HF⟩
                      case measure => simp [intOf]; omega
                  · obtain rfl : j = N := by omega
                    have hl0 := HR0.out.1
                    have hl1 := HR1.out.1
                    have bel2 := hF.out.choose_spec.2.2.2
                    have R : Hid (Reads wr (some ⟨wc.heap.size, 0, none⟩) j (rlist ws0 ws1 j)) := (hF.out.congr fun t ht => rlist_getD ws0 ws1 j t ht).reads (rlist_len _ _ _)
                    have R0 : Hid (Reads wr a k ws0) := HR0.out.below bel2
                    have R1 : Hid (Reads wr a' m ws1) := HR1.out.below bel2
                    have B : Below w.heap.size w wr := bel.trans (bel2.mono bel.size)
                    have hV := unit_of hv
                    have HM : Hid (j = max ws0.length ws1.length) := by rw [hl0, hl1]; exact HN.out
                    have X0 : Hid ((vals ws0).length = k) := by rw [vals_len]; exact hl0
                    have X1 : Hid ((vals ws1).length = m) := by rw [vals_len]; exact hl1
                    have X : Hid ((addL (vals ws0) (vals ws1)).length = j) := by show _ = _; rw [addL_len, vals_len, vals_len, ← HM.out]
                    have I : Hid (In2 (addL (vals ws0) (vals ws1))) := sums_in2 ws0 ws1 U0.out U1.out
                    have C0 : Hid (E (val v) (vals ws0) ≤ 524288) := by
                      have := (E_cap hV.lo hV.hi _ (vals_in2 _ U0.out) (by rw [X0.out]; exact s1)).2
                      show _ ≤ _
                      grind
                    have C1 : Hid (E (val v) (vals ws1) ≤ 524288) := by
                      have := (E_cap hV.lo hV.hi _ (vals_in2 _ U1.out) (by rw [X1.out]; exact s2)).2
                      show _ ≤ _
                      grind
                    have CE : Hid (E (val v) (addL (vals ws0) (vals ws1)) ≤ 524288) := by
                      have := (E_cap hV.lo hV.hi _ I.out (by rw [X.out]; omega)).2
                      show _ ≤ _
                      grind
                    clear hF hl0 hl1 bel2 HR0 HR1 bel hst hv HN hlt hj
                    go_wp2_with fail
                    refine same_ex (ann_any _ _ _ (rlist ws0 ws1 j) (addL (vals ws0) (vals ws1)) v _ R.out (by omega) hV X.out I.out (sums_wd ws0 ws1 j HM.out U0.out U1.out)) ?_
                    intro r hr
                    rw [← X.out] at hr
                    have WR : Hid (Wd (2 * (k + m) + 6) (1000000000000000000 * eta) r (E (val v) (addL (vals ws0) (vals ws1)))) := Sm.fin hr (by rw [X.out]; omega) (by rw [X.out]; omega)
                    clear hr
                    go_wp2_with fail
                    refine same_ex (ann_any _ _ _ ws0 (vals ws0) v _ R0.out s1 hV X0.out (vals_in2 _ U0.out) (fun j hj => (vals_wd _ U0.out j hj).weak (by omega) Rat.le_refl)) ?_
                    intro r0 hr0
                    rw [← X0.out] at hr0
                    have S0 : Hid (Sm (val v) (vals ws0) (vals ws0).length r0) := hr0
                    clear hr0
                    go_wp2_with fail
                    refine same_ex (ann_any _ _ _ ws1 (vals ws1) v _ R1.out s2 hV X1.out (vals_in2 _ U1.out) (fun j hj => (vals_wd _ U1.out j hj).weak (by omega) Rat.le_refl)) ?_
                    intro r1 hr1
                    rw [← X1.out] at hr1
                    have S1 : Hid (Sm (val v) (vals ws1) (vals ws1).length r1) := hr1
                    clear hr1
                    obtain ⟨ss, e2, hW⟩ := adds_fin hV (vals_in2 _ U0.out) (vals_in2 _ U1.out) (by rw [X0.out, X1.out]; exact hsum) S0.out S1.out
                    have q2 := fadd _ _ _ e2
                    have WS : Hid (Wd (2 * (k + m) + 6) (1000000000000000000 * eta) ss (E (val v) (addL (vals ws0) (vals ws1)))) := by rw [← X0.out, ← X1.out]; exact hW
                    have W0 : Hid (Wd (2 * (k + m) + 6) (1000000000000000000 * eta) r0 (E (val v) (vals ws0))) := Sm.fin S0.out (by rw [X0.out]; omega) (by rw [X0.out]; exact s1)
                    have W1 : Hid (Wd (2 * (k + m) + 6) (1000000000000000000 * eta) r1 (E (val v) (vals ws1))) := Sm.fin S1.out (by rw [X1.out]; omega) (by rw [X1.out]; exact s2)
                    clear hW e2 S0 S1
                    go_wp2_with (simp only [q2])
                    refine same (close_int r ss (k + m) _ _ _ (by omega) WR.out WS.out (by omega) CE.out) ?_
                    go_wp2_with fail
                    refine same_dr (last_any _ _ _ ws0 (vals ws0) v _ R0.out s1 hV X0.out (vals_in2 _ U0.out) (vals_wd _ U0.out)) ?_
                    intro h0 n0 hh
                    rw [← X0.out] at hh
                    have L0 : Hid (Wd (2 * (k + m) + 6) (1000000000000000000 * eta) h0 (E (val v) (vals ws0))) := Ln.fin hh (by rw [X0.out]; omega) (by rw [X0.out]; exact s1)
                    clear hh
                    go_wp2_with fail
                    refine same (close_int r0 h0 (k + m) _ _ _ (by omega) W0.out L0.out (by omega) C0.out) ?_
                    go_wp2_with fail
                    refine same_dr (last_any _ _ _ ws1 (vals ws1) v _ (R1.out.drewN n0) s2 hV X1.out (vals_in2 _ U1.out) (vals_wd _ U1.out)) ?_
                    intro h1 n1 hh
                    rw [← X1.out] at hh
                    have L1 : Hid (Wd (2 * (k + m) + 6) (1000000000000000000 * eta) h1 (E (val v) (vals ws1))) := Ln.fin hh (by rw [X1.out]; omega) (by rw [X1.out]; exact s2)
                    clear hh
                    go_wp2_with fail
                    refine same (close_int r1 h1 (k + m) _ _ _ (by omega) W1.out L1.out (by omega) C1.out) ?_
                    go_wp2_with fail
                    go_ret
                    exact ⟨rfl, below_drewN B _⟩

set_option maxRecDepth 100000 in
set_option maxHeartbeats 1000000 in
theorem adds_long (a0 a1 : Option Addr) (l0 c0 l1 c1 v : Nat) (w : World) (m0 : l0 ≤ maxLen) (m1 : l1 ≤ maxLen) (hsum : 131072 < l0 + l1) :
    Calls Try.prog 4 #[.slice a0 l0 c0, .slice a1 l1 c1, .float .f64 v] w fun e w' => e = .returned (.bool true) ∧ Below w.heap.size w w' := by
  have hb := fun w => bytes2_any a0 a1 l0 c0 l1 c1 v w m0 m1
  unfold maxLen at m0 m1
  have HB : Hid (∀ w, Calls Try.prog 10 #[.slice a0 l0 c0, .slice a1 l1 c1, .float .f64 v] w fun e w' => (∃ x, e = .returned (.bool x)) ∧ w' = w) := hb
  clear hb
  go_enter Try.func4, Try.ntmps4
  go_wp2_with fail
  refine same_bool (HB.out _) ?_
  intro x
  cases x
  · go_wp2_with fail
    go_ret
    exact ⟨rfl, Below.refl _ _⟩
  · go_wp2_with fail
    all_goals (go_ret; exact ⟨rfl, Below.refl _ _⟩)

set_option maxRecDepth 100000 in
set_option maxHeartbeats 1000000 in
theorem adds_out (a0 a1 : Option Addr) (l0 c0 l1 c1 v : Nat) (w : World) (hsum : l0 + l1 ≤ 131072) (hv : unitB v = false) :
    Calls Try.prog 4 #[.slice a0 l0 c0, .slice a1 l1 c1, .float .f64 v] w fun e w' => e = .returned (.bool true) ∧ Below w.heap.size w w' := by
  have s1 : l0 ≤ 131072 := by omega
  have s2 : l1 ≤ 131072 := by omega
  go_enter Try.func4, Try.ntmps4
  go_wp2_with (first | (go_at_call 10; refine same (bytes2_yes _ _ _ _ _ _ _ _ hsum) ?_) | (go_at_call 6; refine same (unit_any _ _) ?_))
  go_ret
  exact ⟨rfl, Below.refl _ _⟩

theorem adds_walk (a0 a1 : Option Addr) (l0 c0 l1 c1 v : Nat) (ws0 ws1 : List Nat) (w : World) (h0 : Reads w a0 l0 ws0) (h1 : Reads w a1 l1 ws1) (hn0 : a0 = none → l0 = 0) (hn1 : a1 = none → l1 = 0) (m0 : l0 ≤ maxLen) (m1 : l1 ≤ maxLen) :
    Calls Try.prog 4 #[.slice a0 l0 c0, .slice a1 l1 c1, .float .f64 v] w fun e w' => e = .returned (.bool true) ∧ Below w.heap.size w w' := by
  by_cases hsum : l0 + l1 ≤ 131072
  · cases hv : unitB v with
    | false => exact adds_out a0 a1 l0 c0 l1 c1 v w hsum hv
    | true => exact adds_good a0 a1 l0 c0 l1 c1 v ws0 ws1 w h0 h1 hn0 hn1 hsum hv
  · exact adds_long a0 a1 l0 c0 l1 c1 v w m0 m1 (by omega)

end Go.Proofs.Qxb6627529a
