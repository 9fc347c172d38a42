/-
  THE WALK of FnAnnuityDueSplitsAtAnyCut.
-/
import Derived.Test.Qxb6627529aLeaf
import Derived.Laws.CopyOwn
import Derived.Deep.DeepCutAuto
namespace Go.Proofs.Qxb6627529a
open Go.RowKit Flt

/-! ### Rows of floats in memory -/
def Row (w : World) (g : Nat) (cs : List Value) : Prop := w.heap[g]? = some (.cells cs.toArray 23 (0, 0))
def fl (ws : List Nat) : List Value := ws.map (Value.float .f64)
theorem Row.cell {w : World} {g : Nat} {cs : List Value} (h : Row w g cs) {j : Nat} (hj : j < cs.length) : w.cell? ⟨g, j, none⟩ = some cs[j] := by
  unfold Row at h
  simp [World.cell?, h, hj]
theorem Row.free {w : World} {g : Nat} {cs : List Value} (h : Row w g cs) (j : Nat) : w.frozen? ⟨g, j, none⟩ = false := by
  unfold Row at h
  simp [World.frozen?, h]
theorem Row.set {w : World} {g : Nat} {cs : List Value} (h : Row w g cs) (j : Nat) (v : Value) : Row (w.setCell ⟨g, j, none⟩ v) g (cs.set j v) := by
  unfold Row at h ⊢
  rw [setCell_eq_setRow w g j _ 23 (0, 0) v h, setRow_heap w g _ _ 23 _ h]
  simp
theorem Row.below {w w' : World} {B g : Nat} {cs : List Value} (h : Row w g cs) (hg : g < B) (hb : Below B w w') : Row w' g cs := by
  unfold Row at h ⊢
  rw [hb.block g hg, h]
theorem Row.lt {w : World} {g : Nat} {cs : List Value} (h : Row w g cs) : g < w.heap.size := (Array.getElem?_eq_some_iff.1 h).1
theorem Row.reads {w : World} {g : Nat} {ws : List Nat} (h : Row w g (fl ws)) : Reads w (some ⟨g, 0, none⟩) ws.length ws := by
  refine ⟨rfl, .inr ⟨g, 0, rfl, fun j hj => ?_⟩⟩
  rw [Nat.zero_add, h.cell (by simpa [fl] using hj)]
  simp [fl, List.getD, hj]
theorem Reads.below {w w' : World} {a : Option Addr} {len : Nat} {ws : List Nat} (h : Reads w a len ws) (hb : Below w.heap.size w w') : Reads w' a len ws := by
  obtain ⟨h1, h2⟩ := h
  refine ⟨h1, ?_⟩
  rcases h2 with h2 | ⟨b, off, rfl, hc⟩
  · exact .inl h2
  · refine .inr ⟨b, off, rfl, fun j hj => ?_⟩
    have hlt : b < w.heap.size := by
      have := hc j hj
      unfold World.cell? at this
      simp only at this
      split at this
      · rename_i h; exact (Array.getElem?_eq_some_iff.1 h).1
      · cases this
    rw [hb.cell (by exact hlt)]
    exact hc j hj
theorem stf : ∀ a r m w, (store a (.float .f64 r) m).run Try.prog w = stored Try.prog w a (.float .f64 r) m := fun a _ m w => run_store Try.prog w a _ m rfl

theorem Try.info23 : (Try.prog.info? 23).map (fun i => (i.zero, i.size, i.bytes)) = some (some (.float .f64 0), 1, 8) := by kernel_rfl
theorem Try.size23 : (Try.prog.info? 23).map (·.size) = some 1 := by kernel_rfl
theorem made_row {w : World} {base g n : Nat} {xs : List Value} (h : w.ownsRow base 23 1 (.slice (some ⟨g, 0, none⟩) n n) n xs) : ∃ cs : List Value, Row w g cs ∧ cs.length = n := by
  obtain ⟨_, h⟩ := h
  rcases h with ⟨h, _⟩ | ⟨g', cap, cur, h, _, hh, _, _, hs, _⟩
  · cases h
  · simp only [Value.slice.injEq, Option.some.injEq, Addr.mk.injEq] at h
    obtain ⟨⟨rfl, _⟩, _, rfl⟩ := h
    exact ⟨cur.toList, by simpa [Row] using hh, by simpa using hs⟩
theorem splice_all {α : Type} (L cs : List α) (h : L.length = cs.length) : splice L 0 cs = cs := by
  simp [splice, ← h]

set_option maxHeartbeats 1000000 in
theorem bytes_yes (a b : Option Addr) (l c m d : Nat) (v : Nat) (w : World) (hl : l + m ≤ 131072) :
    Calls Try.prog 5 #[.slice a l c, .slice b m d, .float .f64 v] w fun e w' => e = .returned (.bool true) ∧ w' = w := by
  go_enter Try.func5, Try.ntmps5
  go_wp2
  go_ret
  exact ⟨rfl, rfl⟩

theorem Reads.src {w : World} {a : Option Addr} {len : Nat} {ws : List Nat} (h : Reads w a len ws) (hp : 0 < (fl ws).length) : ∃ ad, a = some ad ∧ ∀ j v, (fl ws)[j]? = some v → w.cell? (ad.add j) = some v := by
  obtain ⟨h1, h2⟩ := h
  rcases h2 with h2 | ⟨b, off, rfl, hc⟩
  · simp [fl] at hp; omega
  · refine ⟨_, rfl, fun j v hj => ?_⟩
    have hjl : j < ws.length := by
      have := (List.getElem?_eq_some_iff.1 hj).1
      simpa [fl] using this
    have e := hc j (by omega)
    have e2 : v = .float .f64 (ws.getD j 0) := by
      simp [fl, List.getElem?_eq_getElem hjl] at hj
      simp [List.getD, hjl, hj]
    rw [e2, ← e]
    unfold Addr.add
    split
    · rename_i h; subst h; rfl
    · rfl
theorem fl_one (ws : List Nat) : ∀ v ∈ fl ws, v.oneCell' = true := by
  intro v hv
  simp only [fl, List.mem_map] at hv
  obtain ⟨x, _, rfl⟩ := hv
  rfl

theorem same {f : FuncId} {args : Array Value} {w : World} {v : Ending} {Q : Ending → World → Prop} (h : Calls Try.prog f args w fun e w' => e = v ∧ w' = w) (hq : Q v w) : Calls Try.prog f args w Q :=
  h.mono fun e w' ⟨he, hw⟩ => by rw [he, hw]; exact hq

/-- Of the row 'g' of 'n' cells the first 'j' are filled with 'f'; below 'g' nothing has turned. -/
def Filled (w0 wr : World) (g n j : Nat) (f : Nat → Nat) : Prop := ∃ cs : List Value, Row wr g cs ∧ cs.length = n ∧ (∀ t, t < j → cs[t]? = some (.float .f64 (f t))) ∧ Below g w0 wr
theorem Filled.step {w0 wr : World} {g n j : Nat} {f : Nat → Nat} (h : Filled w0 wr g n j f) (hj : j < n) {z : Nat} (hz : f j = z) : Filled w0 (wr.setCell ⟨g, j, none⟩ (.float .f64 z)) g n (j + 1) f := by
  obtain ⟨cs, h1, h2, h3, h4⟩ := h
  refine ⟨_, h1.set j _, by simpa using h2, fun t ht => ?_, h4.setCell (Nat.le_refl _) _⟩
  by_cases e : t = j
  · subst e; rw [hz]; simp [h2, hj]
  · rw [List.getElem?_set_ne (by omega)]; exact h3 t (by omega)
theorem Filled.cell {w0 wr : World} {g n j : Nat} {f : Nat → Nat} (h : Filled w0 wr g n j f) {t : Nat} (ht : t < n) : (∃ x, wr.cell? ⟨g, t, none⟩ = some x) ∧ wr.frozen? ⟨g, t, none⟩ = false := by
  obtain ⟨cs, h1, h2, _, _⟩ := h
  exact ⟨⟨_, h1.cell (by omega)⟩, h1.free t⟩
theorem Filled.congr {w0 wr : World} {g n j : Nat} {f f' : Nat → Nat} (h : Filled w0 wr g n j f) (hf : ∀ t, t < j → f t = f' t) : Filled w0 wr g n j f' := by
  obtain ⟨cs, h1, h2, h3, h4⟩ := h
  exact ⟨cs, h1, h2, fun t ht => by rw [← hf t ht]; exact h3 t ht, h4⟩
theorem Filled.reads {w0 wr : World} {g n : Nat} {ws : List Nat} (h : Filled w0 wr g n n fun t => ws.getD t 0) (hl : ws.length = n) : Reads wr (some ⟨g, 0, none⟩) n ws := by
  obtain ⟨cs, h1, h2, h3, _⟩ := h
  refine ⟨hl, .inr ⟨g, 0, rfl, fun j hj => ?_⟩⟩
  rw [Nat.zero_add, h1.cell (by omega), ← h3 j hj]
  simp [h2, hj]

theorem same_ex {f : FuncId} {args : Array Value} {w : World} {S : Nat → Prop} {Q : Ending → World → Prop} (h : Calls Try.prog f args w fun e w' => (∃ r : Nat, e = .returned (.float .f64 r) ∧ S r) ∧ w' = w) (hq : ∀ r, S r → Q (.returned (.float .f64 r)) w) : Calls Try.prog f args w Q :=
  h.mono fun e w' ⟨⟨r, he, hs⟩, hw⟩ => by rw [he, hw]; exact hq r hs
theorem close_int (a b n : Nat) (N : Int) (e : Rat) (w : World) (hN : N = n) (ha : Wd (2 * n + 6) (1000000000000000000 * eta) a e) (hb : Wd (2 * n + 6) (1000000000000000000 * eta) b e) (hn : n ≤ 262144) (he : e ≤ 524288) :
    Calls Try.prog 8 #[.float .f64 a, .float .f64 b, .int .i64 N] w fun e w' => e = .returned (.bool true) ∧ w' = w := by
  rw [hN]; exact close_any a b n _ _ _ e w ha hb (Nat.le_refl _) (Nat.le_refl _) hn Rat.le_refl he
/-- The exact numbers that a list of words in [0, 1] stands for. -/
def vals (ws : List Nat) : List Rat := ws.map val
theorem vals_len (ws : List Nat) : (vals ws).length = ws.length := by simp [vals]
theorem vals_wd (ws : List Nat) (h : ∀ j, j < ws.length → unitB (ws.getD j 0) = true) (j : Nat) (hj : j < (vals ws).length) : Wd 0 0 (ws.getD j 0) (vals ws)[j] := by
  have hj' : j < ws.length := by simpa [vals] using hj
  have e : (vals ws)[j] = val (ws.getD j 0) := by simp [vals, List.getD, hj']
  rw [e]
  exact (unit_of (h j hj')).wd
theorem vals_in2 (ws : List Nat) (h : ∀ j, j < ws.length → unitB (ws.getD j 0) = true) : In2 (vals ws) := by
  intro x hx
  obtain ⟨j, hj, rfl⟩ := List.getElem_of_mem hx
  have hj' : j < ws.length := by simpa [vals] using hj
  have e : (vals ws)[j] = val (ws.getD j 0) := by simp [vals, List.getD, hj']
  have hu := unit_of (h j hj')
  rw [e]
  have h1 := hu.lo
  have h2 := hu.hi
  exact ⟨h1, by grind⟩
theorem getD_left (ws0 ws1 : List Nat) (t : Nat) (h : t < ws0.length) : ws0.getD t 0 = (ws0 ++ ws1).getD t 0 := by
  simp [List.getD, List.getElem?_append, h]
theorem getD_right (ws0 ws1 : List Nat) (t : Nat) : (ws0 ++ ws1).getD (ws0.length + t) 0 = ws1.getD t 0 := by
  simp [List.getD, List.getElem?_append_right]
theorem units_append {ws0 ws1 : List Nat} (h0 : ∀ j, j < ws0.length → unitB (ws0.getD j 0) = true) (h1 : ∀ j, j < ws1.length → unitB (ws1.getD j 0) = true) : ∀ j, j < (ws0 ++ ws1).length → unitB ((ws0 ++ ws1).getD j 0) = true := by
  intro j hj
  by_cases h : j < ws0.length
  · rw [← getD_left _ _ _ h]; exact h0 j h
  · obtain ⟨t, rfl⟩ : ∃ t, j = ws0.length + t := ⟨j - ws0.length, by omega⟩
    rw [getD_right]
    exact h1 t (by simp at hj; omega)

set_option linter.unusedSimpArgs false in
set_option maxRecDepth 100000 in
set_option maxHeartbeats 4000000 in
theorem split_good (a0 a1 : Option Addr) (l0 c0 l1 c1 v : Nat) (ws0 ws1 : List Nat) (w : World) (h0 : Reads w a0 l0 ws0) (h1 : Reads w a1 l1 ws1) (hn0 : a0 = none → l0 = 0) (hn1 : a1 = none → l1 = 0) (hsum : l0 + l1 ≤ 131072) (hv : unitB v = true) :
    Calls Try.prog 3 #[.slice a0 l0 c0, .slice a1 l1 c1, .float .f64 v] w fun e w' => e = .returned (.bool true) ∧ Below w.heap.size w w' := by
  obtain ⟨i0, hi, hz0, hz1, hz2⟩ := info_parts Try.info23
  have s1 : l0 ≤ 131072 := by omega
  have s2 : l1 ≤ 131072 := by omega
  go_enter Try.func3, Try.ntmps3
  go_upto_if 41 with (first | (go_at_call 5; refine same (bytes_yes _ _ _ _ _ _ _ _ hsum) ?_) | (go_at_call 6; refine same (unit_any _ _) ?_))
  go_cut [0] (fun p wc => ∃ a c, p = .slice a l0 c ∧ Hid (Reads wc a l0 ws0) ∧ Below w.heap.size w wc)
  case first =>
    cases a0 with
    | none =>
      obtain rfl := hn0 rfl
      go_wp2
      go_meet
      case rel => exact ⟨_, _, rfl, h0, Below.refl _ _⟩
    | some ad =>
      go_wp2_with (first
        | (at_make; refine wpList_make_full _ rfl _ _ 22 rfl w.heap.size 23 i0 (.float .f64 0) 1 Try.underlying22 hi hz0 hz1 .i64 .i64 _ _ l0 rfl rfl rfl rfl (by rw [hz2]; omega) (by unfold maxLen; omega) (by simp) ?_; intro w1 own1 grow1; obtain ⟨cs, hrow, hlen⟩ := made_row own1; have bel1 : Below w.heap.size w w1 := (Below.refl _ _).grown grow1 (Nat.le_refl _) (by intro k hk; cases hk); have r1 := h0.below bel1)
        | (refine wpList_copy_splice rfl (.tmp 45) (.tmp 46) 22 22 rfl 23 Try.underlying22 Try.size23 _ _ _ _ _ _ rfl rfl w.heap.size 0 cs 23 hrow (fl ws0) (by have := h0.1; simp [fl]; omega) (fun hp => ⟨rfl, r1.src hp⟩) (by have := h0.1; simp [fl]; omega) (fl_one _) w.heap.size w bel1 (Nat.le_refl _) ?_; intro w2 hh2 bel2))
      have r2 : Row w2 w.heap.size (fl ws0) := by
        have := hh2.out
        rw [splice_all _ _ (by have := h0.1; simp [fl]; omega)] at this
        exact this
      have r3 := h0.1 ▸ r2.reads
      clear own1 grow1 hrow r1
      go_wp2
      go_meet
      case rel => exact ⟨_, _, rfl, r3, bel2⟩
  case rest =>
    obtain ⟨a, c, rfl, hr0, bel⟩ := hcut
    have hr1 : Reads wc a1 l1 ws1 := h1.below bel
    clear h0 h1 hn0
    go_upto_if 50 with fail
    go_cut [1] (fun q w2 => ∃ a' c', q = .slice a' l1 c' ∧ Hid (Reads w2 a' l1 ws1) ∧ Hid (Reads w2 a l0 ws0) ∧ Below w.heap.size w w2)
    case first =>
      cases a1 with
      | none =>
        obtain rfl := hn1 rfl
        go_wp2
        go_meet
        case rel => exact ⟨_, _, rfl, hr1, hr0, bel⟩
      | some ad =>
        go_wp2_with (first
          | (at_make; refine wpList_make_full _ rfl _ _ 22 rfl wc.heap.size 23 i0 (.float .f64 0) 1 Try.underlying22 hi hz0 hz1 .i64 .i64 _ _ l1 rfl rfl rfl rfl (by rw [hz2]; omega) (by unfold maxLen; omega) (by simp) ?_; intro w1 own1 grow1; obtain ⟨cs, hrow, hlen⟩ := made_row own1; have bel1 : Below wc.heap.size wc w1 := (Below.refl _ _).grown grow1 (Nat.le_refl _) (by intro k hk; cases hk); have r1 := hr1.below bel1)
          | (refine wpList_copy_splice rfl (.tmp 54) (.tmp 55) 22 22 rfl 23 Try.underlying22 Try.size23 _ _ _ _ _ _ rfl rfl wc.heap.size 0 cs 23 hrow (fl ws1) (by have := hr1.1; simp [fl]; omega) (fun hp => ⟨rfl, r1.src hp⟩) (by have := hr1.1; simp [fl]; omega) (fl_one _) wc.heap.size wc bel1 (Nat.le_refl _) ?_; intro w2 hh2 bel2))
        have r2 : Row w2 wc.heap.size (fl ws1) := by
          have := hh2.out
          rw [splice_all _ _ (by have := hr1.1; simp [fl]; omega)] at this
          exact this
        have r3 := hr1.1 ▸ r2.reads
        have r4 := hr0.out.below bel2
        have b4 := bel.trans (bel2.mono bel.size)
        clear own1 grow1 hrow r1
        go_wp2
        go_meet
        case rel => exact ⟨_, _, rfl, r3, r4, b4⟩
    case rest =>
      clear hr1 hr0 hn1 bel
      obtain ⟨a', c', rfl, hr1, hr0, bel⟩ := hcut
      obtain ⟨hq0, hr0⟩ := hr0.out
      go_wp2_with fail
      go_loop [9] (fun i => ∃ k : Nat, k ≤ l0 ∧ i = .int .i64 k ∧ ∀ j, j < k → unitB (ws0.getD j 0) = true) (fun i => l0 - (intOf i).toNat)
      case atStart => exact ⟨0, Nat.zero_le _, rfl, fun j hj => by omega⟩
      case round =>
        obtain ⟨k, hk, rfl, hu0⟩ := hrel
        by_cases hlt : k < l0
        · rcases hr0 with rfl | ⟨b, off, rfl, hc⟩
          · omega
          have hcell := hc k hlt
          generalize hz : ws0.getD k 0 = z at hcell
          have Hz : Hid (ws0.getD k 0 = z) := hz
          clear hz hc
          cases hub : unitB z with
          | false =>
            go_wp2_with (go_at_call 6; refine same (unit_any _ _) ?_)
            go_ret
            exact ⟨rfl, bel⟩
          | true =>
            go_wp2_with (go_at_call 6; refine same (unit_any _ _) ?_)
            go_round
            case rel => exact ⟨k + 1, by omega, by go_num, fun j hj => by
              by_cases hjk : j = k
              · rw [hjk, Hz.out]; exact hub
              · exact hu0 j (by omega)⟩
            case measure => simp [intOf]; omega
        · obtain rfl : k = l0 := by omega
          have HU0 : Hid (∀ j, j < k → unitB (ws0.getD j 0) = true) := hu0
          have HR0 : Hid (Reads wc a k ws0) := ⟨hq0, hr0⟩
          clear hu0 hr0 hlt hk hq0
          obtain ⟨hq1, hr1⟩ := hr1.out
          go_wp2_with fail
          go_loop [10] (fun i => ∃ m : Nat, m ≤ l1 ∧ i = .int .i64 m ∧ ∀ j, j < m → unitB (ws1.getD j 0) = true) (fun i => l1 - (intOf i).toNat)
          case atStart => exact ⟨0, Nat.zero_le _, rfl, fun j hj => by omega⟩
          case round =>
            obtain ⟨m, hm, rfl, hu1⟩ := hrel
            by_cases hlt : m < l1
            · rcases hr1 with rfl | ⟨b, off, rfl, hc⟩
              · omega
              have hcell := hc m hlt
              generalize hz : ws1.getD m 0 = z at hcell
              have Hz : Hid (ws1.getD m 0 = z) := hz
              clear hz hc
              cases hub : unitB z with
              | false =>
                go_wp2_with (go_at_call 6; refine same (unit_any _ _) ?_)
                go_ret
                exact ⟨rfl, bel⟩
              | true =>
                go_wp2_with (go_at_call 6; refine same (unit_any _ _) ?_)
                go_round
                case rel => exact ⟨m + 1, by omega, by go_num, fun j hj => by
                  by_cases hjk : j = m
                  · rw [hjk, Hz.out]; exact hub
                  · exact hu1 j (by omega)⟩
                case measure => simp [intOf]; omega
            · obtain rfl : m = l1 := by omega
              have HU1 : Hid (∀ j, j < m → unitB (ws1.getD j 0) = true) := hu1
              have HR1 : Hid (Reads wc a' m ws1) := ⟨hq1, hr1⟩
              clear hu1 hr1 hlt hm hq1
              go_wp2_with (at_make; refine wpList_make_full _ rfl _ _ 22 rfl wc.heap.size 23 i0 (.float .f64 0) 1 Try.underlying22 hi hz0 hz1 .i64 .i64 _ _ (k + m) rfl rfl (by omega) (by omega) (by rw [hz2]; omega) (by unfold maxLen; omega) (by simp) ?_; intro w1 own1 grow1; obtain ⟨cs, hrow, hlen⟩ := made_row own1; have bel1 : Below wc.heap.size wc w1 := (Below.refl _ _).grown grow1 (Nat.le_refl _) (by intro k hk; cases hk))
              have F0 : Hid (Filled wc w1 wc.heap.size (k + m) 0 fun t => ws0.getD t 0) := ⟨cs, hrow, hlen, fun t ht => by omega, bel1⟩
              have hst := stf
              clear own1 grow1 hrow hlen bel1 cs hi hz0 hz1 hz2
              go_loopw [13] (fun i wr => ∃ j : Nat, j ≤ k ∧ i = .int .i64 j ∧ Hid (Filled wc wr wc.heap.size (k + m) j fun t => ws0.getD t 0)) (fun i _ => k - (intOf i).toNat)
              case atStart => exact ⟨0, Nat.zero_le _, rfl, F0⟩
              case round =>
                obtain ⟨j, hj, rfl, hF⟩ := hrel
                clear F0
                by_cases hlt : j < k
                · obtain ⟨⟨x, hx⟩, hfr⟩ := hF.out.cell (show j < k + m by omega)
                  obtain ⟨_, hcr⟩ := HR0.out.below hF.out.choose_spec.2.2.2
                  rcases hcr with rfl | ⟨b, off, rfl, hc⟩
                  · omega
                  have hcell := hc j hlt
                  have hF2 := fun z hz => hF.out.step (z := z) (show j < k + m by omega) hz
                  generalize hz : ws0.getD j 0 = z at hcell
                  have HF : Hid (Filled wc (wr.setCell ⟨wc.heap.size, j, none⟩ (.float .f64 z)) wc.heap.size (k + m) (j + 1) fun t => ws0.getD t 0) := hF2 z hz
                  clear hz hc hF2 hF
                  go_wp2
                  go_roundw
                  case rel => exact ⟨j + 1, by omega, by go_num, HF⟩
                  case measure => simp [intOf]; omega
                · obtain rfl : j = k := by omega
                  go_wp2_with fail
                  have hl0 : ws0.length = j := HR0.out.1
                  have hl1 : ws1.length = m := HR1.out.1
                  have F0 : Hid (Filled wc wr wc.heap.size (j + m) (j + 0) fun t => (ws0 ++ ws1).getD t 0) := hF.out.congr fun t ht => getD_left _ _ _ (by omega)
                  have HG : ∀ t, Hid ((ws0 ++ ws1).getD (j + t) 0 = ws1.getD t 0) := fun t => hl0 ▸ getD_right ws0 ws1 t
                  have HL : Hid (ws0.length = j ∧ ws1.length = m) := ⟨hl0, hl1⟩
                  clear hF hl0 hl1 hlt hj
                  go_loopw [14] (fun i wr => ∃ t : Nat, t ≤ m ∧ i = .int .i64 t ∧ Hid (Filled wc wr wc.heap.size (j + m) (j + t) fun t => (ws0 ++ ws1).getD t 0)) (fun i _ => m - (intOf i).toNat)
                  case atStart => exact ⟨0, Nat.zero_le _, rfl, F0⟩
                  case round =>
                    clear F0
                    obtain ⟨t, ht, rfl, hF⟩ := hrel
                    by_cases hlt : t < m
                    · obtain ⟨⟨x, hx⟩, hfr⟩ := hF.out.cell (show j + t < j + m by omega)
                      obtain ⟨_, hcr⟩ := HR1.out.below hF.out.choose_spec.2.2.2
                      rcases hcr with rfl | ⟨b, off, rfl, hc⟩
                      · omega
                      have hcell := hc t hlt
                      have hF2 := fun z hz => hF.out.step (z := z) (show j + t < j + m by omega) hz
                      generalize hz : ws1.getD t 0 = z at hcell
                      have HF : Hid (Filled wc (wr.setCell ⟨wc.heap.size, j + t, none⟩ (.float .f64 z)) wc.heap.size (j + m) (j + (t + 1)) fun t => (ws0 ++ ws1).getD t 0) := hF2 z ((HG t).out.trans hz)
                      clear hz hc hF2 hF HG
                      go_wp2
                      go_roundw
                      case rel => exact ⟨t + 1, by omega, by go_num, HF⟩
                      case measure => simp [intOf]; omega
                    · obtain rfl : t = m := by omega
                      have R : Hid (Reads wr (some ⟨wc.heap.size, 0, none⟩) (j + t) (ws0 ++ ws1)) := hF.out.reads (by have := HL.out; simp; omega)
                      have bel2 := hF.out.choose_spec.2.2.2
                      have R0 : Hid (Reads wr a j ws0) := HR0.out.below bel2
                      have R1 : Hid (Reads wr a' t ws1) := HR1.out.below bel2
                      have B : Below w.heap.size w wr := bel.trans (bel2.mono bel.size)
                      have hV := unit_of hv
                      clear hF HG hlt ht bel2 HR0 HR1 bel hst hv
                      go_wp2_with fail
                      go_loop [15, 16] (fun c i => ∃ s c' : Nat, s ≤ j ∧ i = .int .i64 s ∧ c = .float .f64 c' ∧ Hid (Pw (val v) s c')) (fun _ i => j - (intOf i).toNat)
                      case atStart => exact ⟨0, _, Nat.zero_le _, rfl, rfl, pw_zero _⟩
                      case round =>
                        obtain ⟨s, c', hs, rfl, rfl, hP⟩ := hrel
                        by_cases hlt : s < j
                        · obtain ⟨c2, e3, hP2⟩ := pw_step hV (by omega) hP.out
                          have q3 := fmul _ _ _ e3
                          have HP : Hid (Pw (val v) (s + 1) c2) := hP2
                          clear e3 hP hP2
                          go_wp2_with (simp only [q3])
                          go_round
                          case rel => exact ⟨s + 1, c2, by omega, by go_num, rfl, HP⟩
                          case measure => simp [intOf]; omega
                        · obtain rfl : s = j := by omega
                          obtain ⟨hl0, hl1⟩ := HL.out
                          have U0 : Hid (∀ j, j < ws0.length → unitB (ws0.getD j 0) = true) := by rw [hl0]; exact HU0.out
                          have U1 : Hid (∀ j, j < ws1.length → unitB (ws1.getD j 0) = true) := by rw [hl1]; exact HU1.out
                          have U : Hid (∀ j, j < (ws0 ++ ws1).length → unitB ((ws0 ++ ws1).getD j 0) = true) := units_append U0.out U1.out
                          have X0 : Hid ((vals ws0).length = s) := by rw [vals_len]; exact hl0
                          have X1 : Hid ((vals ws1).length = t) := by rw [vals_len]; exact hl1
                          have X : Hid ((vals (ws0 ++ ws1)).length = s + t) := by show _ = _; rw [vals_len, List.length_append, hl0, hl1]
                          have EA : Hid (vals (ws0 ++ ws1) = vals ws0 ++ vals ws1) := List.map_append
                          have CE : Hid (E (val v) (vals (ws0 ++ ws1)) ≤ 524288) := by
                            have := (E_cap hV.lo hV.hi _ (vals_in2 _ U.out) (by rw [X.out]; exact hsum)).2
                            show _ ≤ _
                            grind
                          clear hl0 hl1 HL HU0 HU1
                          go_wp2_with fail
                          refine same_ex (ann_any _ _ _ (ws0 ++ ws1) (vals (ws0 ++ ws1)) v _ R.out hsum hV X.out (vals_in2 _ U.out) (fun j hj => (vals_wd _ U.out j hj).weak (by omega) Rat.le_refl)) ?_
                          intro r hr
                          rw [← X.out] at hr
                          have WR : Hid (Wd (2 * (s + t) + 6) (1000000000000000000 * eta) r (E (val v) (vals (ws0 ++ ws1)))) := Sm.fin hr (by rw [X.out]; exact Nat.le_refl _) (by rw [X.out]; exact hsum)
                          clear hr
                          go_wp2_with fail
                          refine same_ex (ann_any _ _ _ ws0 (vals ws0) v _ R0.out s1 hV X0.out (vals_in2 _ U0.out) (fun j hj => (vals_wd _ U0.out j hj).weak (by omega) Rat.le_refl)) ?_
                          intro r0 hr0
                          rw [← X0.out] at hr0
                          have S0 : Hid (Sm (val v) (vals ws0) (vals ws0).length r0) := hr0
                          clear hr0
                          go_wp2_with fail
                          refine same_ex (ann_any _ _ _ ws1 (vals ws1) v _ R1.out s2 hV X1.out (vals_in2 _ U1.out) (fun j hj => (vals_wd _ U1.out j hj).weak (by omega) Rat.le_refl)) ?_
                          intro r1 hr1
                          rw [← X1.out] at hr1
                          obtain ⟨tt, ss, e1, e2, hW⟩ := split_fin hV (vals_in2 _ U0.out) (vals_in2 _ U1.out) (by rw [X0.out, X1.out]; exact hsum) S0.out hr1 (by rw [X0.out]; exact hP.out)
                          have q1 := fmul _ _ _ e1
                          have q2 := fadd _ _ _ e2
                          have WS : Hid (Wd (2 * (s + t) + 6) (1000000000000000000 * eta) ss (E (val v) (vals (ws0 ++ ws1)))) := by rw [EA.out, ← X0.out, ← X1.out]; exact hW
                          clear hr1 hW e1 e2 S0 hP X0 X1 R0 R1 U0 U1 EA
                          go_wp2_with (first | simp only [q1] | simp only [q2])
                          refine same (close_int r ss (s + t) _ _ _ (by omega) WR.out WS.out (by omega) CE.out) ?_
                          go_wp2_with fail
                          refine same_ex (horner_any _ _ _ (ws0 ++ ws1) (vals (ws0 ++ ws1)) v _ R.out hsum hV X.out (vals_in2 _ U.out) (vals_wd _ U.out)) ?_
                          intro h hh
                          rw [← X.out] at hh
                          have WH : Hid (Wd (2 * (s + t) + 6) (1000000000000000000 * eta) h (E (val v) (vals (ws0 ++ ws1)))) := Hn.fin hh (by rw [X.out]; exact Nat.le_refl _) (by rw [X.out]; exact hsum)
                          clear hh
                          go_wp2_with fail
                          refine same (close_int r h (s + t) _ _ _ (by omega) WR.out WH.out (by omega) CE.out) ?_
                          go_wp2_with fail
                          go_ret
                          exact ⟨rfl, B⟩

theorem same_bool {f : FuncId} {args : Array Value} {w : World} {Q : Ending → World → Prop} (h : Calls Try.prog f args w fun e w' => (∃ x : Bool, e = .returned (.bool x)) ∧ w' = w) (hq : ∀ x, Q (.returned (.bool x)) w) : Calls Try.prog f args w Q :=
  h.mono fun e w' ⟨⟨r, he⟩, hw⟩ => by rw [he, hw]; exact hq r

set_option maxRecDepth 100000 in
set_option maxHeartbeats 1000000 in
theorem split_long (a0 a1 : Option Addr) (l0 c0 l1 c1 v : Nat) (w : World) (m0 : l0 ≤ maxLen) (m1 : l1 ≤ maxLen) (hsum : 131072 < l0 + l1) :
    Calls Try.prog 3 #[.slice a0 l0 c0, .slice a1 l1 c1, .float .f64 v] w fun e w' => e = .returned (.bool true) ∧ Below w.heap.size w w' := by
  have hb := fun w => bytes_any a0 a1 l0 c0 l1 c1 v w m0 m1
  unfold maxLen at m0 m1
  have HB : Hid (∀ w, Calls Try.prog 5 #[.slice a0 l0 c0, .slice a1 l1 c1, .float .f64 v] w fun e w' => (∃ x, e = .returned (.bool x)) ∧ w' = w) := hb
  clear hb
  go_enter Try.func3, Try.ntmps3
  go_wp2_with fail
  refine same_bool (HB.out _) ?_
  intro x
  cases x
  · go_wp2_with fail
    go_ret
    exact ⟨rfl, Below.refl _ _⟩
  · go_wp2_with fail
    all_goals (go_ret; exact ⟨rfl, Below.refl _ _⟩)

set_option maxRecDepth 100000 in
set_option maxHeartbeats 1000000 in
theorem split_out (a0 a1 : Option Addr) (l0 c0 l1 c1 v : Nat) (w : World) (hsum : l0 + l1 ≤ 131072) (hv : unitB v = false) :
    Calls Try.prog 3 #[.slice a0 l0 c0, .slice a1 l1 c1, .float .f64 v] w fun e w' => e = .returned (.bool true) ∧ Below w.heap.size w w' := by
  have s1 : l0 ≤ 131072 := by omega
  have s2 : l1 ≤ 131072 := by omega
  go_enter Try.func3, Try.ntmps3
  go_wp2_with (first | (go_at_call 5; refine same (bytes_yes _ _ _ _ _ _ _ _ hsum) ?_) | (go_at_call 6; refine same (unit_any _ _) ?_))
  go_ret
  exact ⟨rfl, Below.refl _ _⟩

theorem split_walk (a0 a1 : Option Addr) (l0 c0 l1 c1 v : Nat) (ws0 ws1 : List Nat) (w : World) (h0 : Reads w a0 l0 ws0) (h1 : Reads w a1 l1 ws1) (hn0 : a0 = none → l0 = 0) (hn1 : a1 = none → l1 = 0) (m0 : l0 ≤ maxLen) (m1 : l1 ≤ maxLen) :
    Calls Try.prog 3 #[.slice a0 l0 c0, .slice a1 l1 c1, .float .f64 v] w fun e w' => e = .returned (.bool true) ∧ Below w.heap.size w w' := by
  by_cases hsum : l0 + l1 ≤ 131072
  · cases hv : unitB v with
    | false => exact split_out a0 a1 l0 c0 l1 c1 v w hsum hv
    | true => exact split_good a0 a1 l0 c0 l1 c1 v ws0 ws1 w h0 h1 hn0 hn1 hsum hv
  · exact split_long a0 a1 l0 c0 l1 c1 v w m0 m1 (by omega)

end Go.Proofs.Qxb6627529a
