/-
  THE WALK of net/url.unescape at the two modes that a path meets.
-/
import Derived.Test.Qxb6627573aDoorHex
import Derived.Deep.DeepCutAuto
import Derived.Deep.RegionHeld3
namespace Go.Proofs.Qxb6627573aDoor
open Go.RowKit Pct

/-- What unescape ends in. -/
def Un (s : ByteArray) (e : Ending) : Prop :=
  (∃ t, dec s.data.toList = some t ∧ e = .returned (.tuple #[.string ⟨t.toArray⟩, .nilIface])) ∨
  (dec s.data.toList = none ∧ ∃ x, e = .returned (.tuple #[.string ByteArray.empty, .iface 45 x]))

theorem getElem_list (s : ByteArray) (k : Nat) (h : k < s.size) : s.data.toList[k]'(by simpa using h) = s[k] := rfl
theorem len_list (s : ByteArray) : s.data.toList.length = s.size := by simp

/-- What is known of the first loop's head. -/
def Head (l : List UInt8) (k m : Nat) : Prop := ∃ acc, Inv l k acc ∧ acc.length + 2 * m = k ∧ (m = 0 → acc = l.take k)
theorem Head.start (l : List UInt8) : Head l 0 0 := ⟨[], Inv.start l, rfl, fun _ => by simp⟩
theorem Head.step1 {s : ByteArray} {k m : Nat} (h : Head s.data.toList k m) (hk : k < s.size) {c : UInt8} (hc : s[k] = c) (hn : c ≠ 37) : Head s.data.toList (k + 1) m := by
  obtain ⟨acc, h1, h2, h3⟩ := h
  refine ⟨acc ++ [c], h1.step1 (by rw [len_list]; exact hk) hc hn, by simp; omega, fun hm => ?_⟩
  rw [List.take_succ_eq_append_getElem (by rw [len_list]; exact hk), h3 hm]
  rw [← hc]; rfl
theorem Head.step3 {s : ByteArray} {k m : Nat} (h : Head s.data.toList k m) (hk : k + 2 < s.size) (hc : s[k] = 37) {a b : UInt8} (ha : s[k + 1] = a) (hb : s[k + 2] = b) (hh : (isHexN a.toNat && isHexN b.toNat) = true) : Head s.data.toList (k + 3) (m + 1) := by
  obtain ⟨acc, h1, h2, h3⟩ := h
  exact ⟨acc ++ [pr a b], h1.step3 (by rw [len_list]; exact hk) hc ha hb hh, by simp; omega, fun hm => by omega⟩
theorem Head.bad {s : ByteArray} {k m : Nat} (h : Head s.data.toList k m) (hk : k + 2 < s.size) (hc : s[k] = 37) {a b : UInt8} (ha : s[k + 1] = a) (hb : s[k + 2] = b) (hh : (isHexN a.toNat && isHexN b.toNat) = false) : dec s.data.toList = none := by
  obtain ⟨acc, h1, _, _⟩ := h
  exact h1.bad (by rw [len_list]; exact hk) hc ha hb hh
theorem Head.short {s : ByteArray} {k m : Nat} (h : Head s.data.toList k m) (hk : k < s.size) (h2 : s.size ≤ k + 2) (hc : s[k] = 37) : dec s.data.toList = none := by
  obtain ⟨acc, h1, _, _⟩ := h
  exact h1.short (by rw [len_list]; exact hk) (by rw [len_list]; exact h2) hc
theorem u8_lt (c : UInt8) : c.toNat < 256 := by have := c.toNat_lt; omega
theorem u8_ne {c : UInt8} {n : Nat} (hn : n < 256) (h : c.toNat ≠ n) : c ≠ UInt8.ofNat n := by
  intro e; subst e; apply h; rw [UInt8.toNat_ofNat']; exact Nat.mod_eq_of_lt (by omega)
theorem u8_eq {c : UInt8} {n : Nat} (h : c.toNat = n) : c = UInt8.ofNat n := by
  apply UInt8.toNat_inj.1; rw [UInt8.toNat_ofNat', h]; have := u8_lt c; exact (Nat.mod_eq_of_lt (by omega)).symm

theorem pr_val (a b : UInt8) : bits .or .u8 (IntKind.u8.wrap (((hvN a.toNat : Nat) : Int) * 16)) ((hvN b.toNat : Nat) : Int) = (((pr a b).toNat : Nat) : Int) := by
  rw [pr_toNat]
  have h := List.all_eq_true.1 (show (List.range 16).all (fun x => (List.range 16).all fun y => bits .or .u8 (IntKind.u8.wrap ((x : Int) * 16)) (y : Int) == (((x * 16 + y : Nat) : Nat) : Int)) = true by decide +kernel) _ (List.mem_range.2 (hvN_lt a.toNat))
  have h2 := List.all_eq_true.1 h _ (List.mem_range.2 (hvN_lt b.toNat))
  simpa using h2

set_option maxHeartbeats 4000000 in
set_option maxRecDepth 100000 in
theorem unescape_any (s : ByteArray) (m : Int) (w : World) (hs : s.size ≤ 2097152) (hm : m = 1 ∨ m = 2) (hT : TabAt w) :
    Calls Tryd.prog 16 #[.string s, .int .u8 m] w fun e w' => Un s e ∧ Below w.heap.size w w' := by
  have m4 : (m == 4) = false := by rcases hm with rfl | rfl <;> rfl
  have m8 : (m == 8) = false := by rcases hm with rfl | rfl <;> rfl
  have m32 : (m == 32) = false := by rcases hm with rfl | rfl <;> rfl
  clear hm
  have HT : Hid (TabAt w) := hT
  clear hT
  go_enter Tryd.func16, Tryd.ntmps16
  go_wp2
  go_loop [0, 6, 7, 8] (fun t n hp i => ∃ k q : Nat, k ≤ s.size ∧ i = .int .i64 k ∧ n = .int .i64 q ∧ hp = .bool false ∧ t = .string s ∧ q ≤ k ∧ Hid (Head s.data.toList k q)) (fun _ _ _ i => s.size - (intOf i).toNat)
  case atStart => exact ⟨0, 0, Nat.zero_le _, rfl, rfl, rfl, rfl, Nat.le_refl _, Head.start _⟩
  case round =>
    obtain ⟨k, q, hk, rfl, rfl, rfl, rfl, hq, hH⟩ := hrel
    by_cases hlt : k < s.size
    · obtain ⟨c, hc⟩ : ∃ c, s[k] = c := ⟨_, rfl⟩
      have hcl := u8_lt c
      by_cases h37 : c.toNat = 37
      · obtain rfl : c = 37 := u8_eq h37
        clear h37 hcl
        by_cases hl2 : k + 2 < s.size
        · obtain ⟨a, ha⟩ : ∃ a, s[k + 1] = a := ⟨_, rfl⟩
          obtain ⟨b, hb⟩ : ∃ b, s[k + 2] = b := ⟨_, rfl⟩
          cases hx : (isHexN a.toNat && isHexN b.toNat) with
          | false =>
            have HN : Hid (dec s.data.toList = none) := hH.out.bad hl2 hc ha hb hx
            clear hH
            cases hxa : isHexN a.toNat with
            | false =>
              clear hx
              go_wp2_with (go_at_call 19; refine same (ishex_any _ _ (u8_lt _) HT.out) ?_)
              all_goals (go_ret2; exact ⟨.inr ⟨HN.out, _, rfl⟩, Below.refl _ _⟩)
            | true =>
              have hxb : isHexN b.toNat = false := by rw [hxa] at hx; simpa using hx
              clear hx
              go_wp2_with (go_at_call 19; refine same (ishex_any _ _ (u8_lt _) HT.out) ?_)
              all_goals (go_ret2; exact ⟨.inr ⟨HN.out, _, rfl⟩, Below.refl _ _⟩)
          | true =>
            have hxa : isHexN a.toNat = true := by simp at hx; exact hx.1
            have hxb : isHexN b.toNat = true := by simp at hx; exact hx.2
            have HH : Hid (Head s.data.toList (k + 3) (q + 1)) := hH.out.step3 hl2 hc ha hb hx
            clear hH hx
            go_wp2_with (go_at_call 19; refine same (ishex_any _ _ (u8_lt _) HT.out) ?_)
            go_round
            case rel => exact ⟨k + 3, q + 1, by omega, by go_num, by go_num, rfl, rfl, by omega, HH⟩
            case measure => simp [intOf]; omega
        · have HN : Hid (dec s.data.toList = none) := hH.out.short hlt (by omega) hc
          clear hH
          go_wp2
          all_goals (go_ret2; exact ⟨.inr ⟨HN.out, _, rfl⟩, Below.refl _ _⟩)
      · have HH : Hid (Head s.data.toList (k + 1) q) := hH.out.step1 hlt hc (u8_ne (by decide) h37)
        clear hH
        by_cases h43 : c.toNat = 43
        · go_wp2
          go_round
          case rel => exact ⟨k + 1, q, by omega, by go_num, rfl, rfl, rfl, by omega, HH⟩
          case measure => simp [intOf]; omega
        · go_wp2
          go_round
          case rel => exact ⟨k + 1, q, by omega, by go_num, rfl, rfl, rfl, by omega, HH⟩
          case measure => simp [intOf]; omega
    · obtain rfl : k = s.size := by omega
      obtain ⟨acc, hI, hl, h0⟩ := hH.out
      have hd := hI.done (by rw [len_list]; exact Nat.le_refl _)
      by_cases hq0 : q = 0
      · subst hq0
        have HD : Hid (dec s.data.toList = some s.data.toList) := by
          have e := h0 rfl
          rw [← len_list, List.take_length] at e
          rw [hd, e]; rfl
        clear hH hI hl h0 hd
        go_wp2
        go_ret2
        exact ⟨.inl ⟨_, HD.out, rfl⟩, Below.refl _ _⟩
      · have HD : Hid (dec s.data.toList = some acc) := hd
        clear hH hI h0 hd
        go_wp2_with fail
        rw [show ((s.size : Int) - 2 * (q : Int)) = ((acc.length : Nat) : Int) by omega]
        refine (Tryd.Builder_Grow_fresh w.heap.size w.heap.size acc.length _ (Nat.le_refl _) (heap_alloc_new _ _) (by simp) (by omega)).mono ?_
        rintro e w1 ⟨rfl, hb1, hbel1⟩
        have bel1 : Below w.heap.size w w1 := ((Below.refl _ w).alloc (Nat.le_refl _) _).trans hbel1
        have R0 : Hid (Inv s.data.toList 0 [] ∧ Lib.BuilderAt 51 5 w.heap.size w.heap.size (.pointer (some ⟨w.heap.size, 0, none⟩)) (Lib.byteCells []) w1 ∧ Below w.heap.size w w1 ∧ ([] : List UInt8).length ≤ 0) := ⟨Inv.start _, hb1, bel1, Nat.le_refl _⟩
        clear hb1 hbel1 bel1 hl hq hq0 hlt hk
        go_wp2_with fail
        go_loopw [12] (fun i wr => ∃ (j : Nat) (bs : List UInt8), j ≤ s.size ∧ i = .int .i64 j ∧ Hid (Inv s.data.toList j bs ∧ Lib.BuilderAt 51 5 w.heap.size w.heap.size (.pointer (some ⟨w.heap.size, 0, none⟩)) (Lib.byteCells bs) wr ∧ Below w.heap.size w wr ∧ bs.length ≤ j)) (fun i _ => s.size - (intOf i).toNat)
        case atStart => exact ⟨0, [], Nat.zero_le _, rfl, R0⟩
        case round =>
          clear R0
          obtain ⟨j, bs, hj, rfl, hR⟩ := hrel
          obtain ⟨hI, hB, hbel, hbl⟩ := hR.out
          clear hR
          by_cases hlt : j < s.size
          · obtain ⟨c, hc⟩ : ∃ c, s[j] = c := ⟨_, rfl⟩
            have hcl := u8_lt c
            by_cases h37 : c.toNat = 37
            · obtain rfl : c = 37 := u8_eq h37
              clear h37 hcl
              have hl2 : j + 2 < s.size := by
                refine Nat.lt_of_not_le fun h => ?_
                have := hI.short (by rw [len_list]; exact hlt) (by rw [len_list]; exact h) hc
                rw [HD.out] at this; cases this
              obtain ⟨a, ha⟩ : ∃ a, s[j + 1] = a := ⟨_, rfl⟩
              obtain ⟨b, hb⟩ : ∃ b, s[j + 2] = b := ⟨_, rfl⟩
              have hx : (isHexN a.toNat && isHexN b.toNat) = true := by
                cases hx : (isHexN a.toNat && isHexN b.toNat) with
                | true => rfl
                | false =>
                  have := hI.bad (by rw [len_list]; exact hl2) hc ha hb hx
                  rw [HD.out] at this; cases this
              have hxa : isHexN a.toNat = true := by simp at hx; exact hx.1
              have hxb : isHexN b.toNat = true := by simp at hx; exact hx.2
              have HI : Hid (Inv s.data.toList (j + 3) (bs ++ [pr a b])) := hI.step3 (by rw [len_list]; exact hl2) hc ha hb hx
              clear hI hx
              have z1 : (0 : Int) ≤ (j : Int) + 1 := by omega
              have z2 : (j : Int) + 1 < (s.size : Int) := by omega
              have z3 : (0 : Int) ≤ (j : Int) + 2 := by omega
              have z4 : (j : Int) + 2 < (s.size : Int) := by omega
              have HW : Hid (∀ v, v = (((pr a b).toNat : Nat) : Int) → Calls Tryd.prog 23 #[.pointer (some ⟨w.heap.size, 0, none⟩), .int .u8 v] wr.drew fun e w' => e = .returned .nilIface ∧ (Lib.BuilderAt 51 5 w.heap.size w.heap.size (.pointer (some ⟨w.heap.size, 0, none⟩)) (Lib.byteCells (bs ++ [pr a b])) w' ∧ Below w.heap.size w w')) := by
                intro v hv
                subst hv
                refine (writeByte w.heap.size w.heap.size (Lib.byteCells bs) _ wr.drew hB.drew (by simp [Lib.byteCells]; omega) hbel.size).mono ?_
                rintro e w' ⟨rfl, h1, h2⟩
                exact ⟨rfl, by simpa [Lib.byteCells] using h1, hbel.drew.trans h2⟩
              clear hB hbel
              go_upto_region 41 with fail
              have y1 : IntKind.i64.wrap ((j : Int) + 1) = (j : Int) + 1 := by rw [IntKind.wrap_i64]; omega
              have y2 : IntKind.i64.wrap ((j : Int) + 2) = (j : Int) + 2 := by rw [IntKind.wrap_i64]; omega
              have y3 : ((j : Int) + 2).toNat = j + 2 := by omega
              go_region_with (first
                  | (go_at_call 20; refine same (unhex_any _ _ (u8_lt _) (by assumption)) ?_)
                  | (go_at_call 23; refine (HW.out _ (pr_val a b)).mono ?_; rintro e w2 ⟨rfl, hB2, hbel2⟩))
              all_goals
                go_wp2_with fail
                go_roundw
                case rel => exact ⟨j + 3, bs ++ [pr a b], by omega, by go_num, HI.out, by assumption, by assumption, by simp; omega⟩
                case measure => simp [intOf]; omega
            · have HI : Hid (Inv s.data.toList (j + 1) (bs ++ [c])) := hI.step1 (by rw [len_list]; exact hlt) hc (u8_ne (by decide) h37)
              have HW : Hid (∀ v, v = ((c.toNat : Nat) : Int) → Calls Tryd.prog 23 #[.pointer (some ⟨w.heap.size, 0, none⟩), .int .u8 v] wr fun e w' => e = .returned .nilIface ∧ (Lib.BuilderAt 51 5 w.heap.size w.heap.size (.pointer (some ⟨w.heap.size, 0, none⟩)) (Lib.byteCells (bs ++ [c])) w' ∧ Below w.heap.size w w')) := by
                intro v hv
                subst hv
                refine (writeByte w.heap.size w.heap.size (Lib.byteCells bs) _ wr hB (by simp [Lib.byteCells]; omega) hbel.size).mono ?_
                rintro e w' ⟨rfl, h1, h2⟩
                exact ⟨rfl, by simpa [Lib.byteCells] using h1, hbel.trans h2⟩
              clear hI hB hbel
              by_cases h43 : c.toNat = 43
              · go_wp2_with (go_at_call 23; refine (HW.out _ (by omega)).mono ?_; rintro e w2 ⟨rfl, hB2, hbel2⟩)
                go_roundw
                case rel => exact ⟨j + 1, bs ++ [c], by omega, by go_num, HI.out, hB2, hbel2, by simp; omega⟩
                case measure => simp [intOf]; omega
              · go_wp2_with (go_at_call 23; refine (HW.out _ rfl).mono ?_; rintro e w2 ⟨rfl, hB2, hbel2⟩)
                go_roundw
                case rel => exact ⟨j + 1, bs ++ [c], by omega, by go_num, HI.out, hB2, hbel2, by simp; omega⟩
                case measure => simp [intOf]; omega
          · obtain rfl : j = s.size := by omega
            have e := hI.done (by rw [len_list]; exact Nat.le_refl _)
            rw [HD.out] at e
            obtain rfl : acc = bs := by simpa using e
            clear e hI
            have HB := hB
            clear hB
            go_wp2_with fail
            refine (Tryd.Builder_String_any w.heap.size w.heap.size acc _ (.inr HB) hbel.size).mono ?_
            rintro e w2 ⟨rfl, hb2⟩
            have B2 := hbel.trans hb2
            go_wp2_with fail
            go_ret2
            exact ⟨.inl ⟨_, HD.out, rfl⟩, B2⟩

end Go.Proofs.Qxb6627573aDoor
