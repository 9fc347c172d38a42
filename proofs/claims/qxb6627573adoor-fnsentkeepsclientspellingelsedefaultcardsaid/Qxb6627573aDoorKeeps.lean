/-
  THE WALK of zzIsDefaultPathSpelling and of the law FnSentKeepsClientSpellingElseDefault.
-/
import Derived.Test.Qxb6627573aDoorLaws
namespace Go.Proofs.Qxb6627573aDoor
open Go.RowKit Pct

theorem ok_short {s : ByteArray} {k : Nat} (hk : k < s.size) (h2 : s.size ≤ k + 2) (hc : s[k] = 37) : okSp (s.data.toList.drop k) = false := by
  rw [List.drop_eq_getElem_cons (by rw [len_list]; exact hk), show s.data.toList[k]'(by rw [len_list]; exact hk) = 37 from hc]
  by_cases h1 : k + 1 < s.size
  · rw [List.drop_eq_getElem_cons (by rw [len_list]; exact h1), List.drop_eq_nil_of_le (i := k + 1 + 1) (by rw [len_list]; omega)]
    rfl
  · rw [List.drop_eq_nil_of_le (i := k + 1) (by rw [len_list]; omega)]
    rfl
theorem ok_pct {s : ByteArray} {k : Nat} (hk : k + 2 < s.size) (hc : s[k] = 37) {a b : UInt8} (ha : s[k + 1] = a) (hb : s[k + 2] = b) (h : okSp (s.data.toList.drop k) = true) :
    upHexN a.toNat = true ∧ upHexN b.toNat = true ∧ keptN (pr a b).toNat = false ∧ okSp (s.data.toList.drop (k + 3)) = true := by
  rw [List.drop_eq_getElem_cons (by rw [len_list]; omega), List.drop_eq_getElem_cons (i := k + 1) (by rw [len_list]; omega), List.drop_eq_getElem_cons (i := k + 1 + 1) (by rw [len_list]; omega),
    show s.data.toList[k]'(by rw [len_list]; omega) = 37 from hc, show s.data.toList[k + 1]'(by rw [len_list]; omega) = a from ha, show s.data.toList[k + 1 + 1]'(by rw [len_list]; omega) = b from hb, okSp_pct] at h
  simp only [Bool.and_eq_true, Bool.not_eq_true'] at h
  exact ⟨h.1.1.1, h.1.1.2, h.1.2, h.2⟩
theorem ok_plain {s : ByteArray} {k : Nat} (hk : k < s.size) {c : UInt8} (hc : s[k] = c) (hn : c ≠ 37) (h : okSp (s.data.toList.drop k) = true) : keptN c.toNat = true ∧ okSp (s.data.toList.drop (k + 1)) = true := by
  rw [List.drop_eq_getElem_cons (by rw [len_list]; exact hk), show s.data.toList[k]'(by rw [len_list]; exact hk) = c from hc, okSp_plain _ _ hn] at h
  simpa using h

set_option maxHeartbeats 2000000 in
theorem spell_star (path : ByteArray) (w : World) (h : (path.toList == [42]) = true) :
    Calls Tryd.prog 7 #[.string ⟨#[42]⟩, .string path] w fun e w' => e = .returned (.bool true) ∧ w' = w := by
  go_enter Tryd.func7, Tryd.ntmps7
  go_wp2_with fail
  go_ret
  exact ⟨rfl, rfl⟩

set_option maxHeartbeats 4000000 in
set_option maxRecDepth 100000 in
theorem spell_else (d path : ByteArray) (w : World) (hs : d.size ≤ 2097152) (h : (path.toList == [42]) = false) (hd : dec d.data.toList = some path.data.toList) (hok : okSp d.data.toList = true) :
    Calls Tryd.prog 7 #[.string d, .string path] w fun e w' => e = .returned (.bool true) ∧ Below w.heap.size w w' := by
  have H2 : Hid (Calls Tryd.prog 8 #[.string d] w fun e w' => e = .returned (.tuple #[.string path, .bool true]) ∧ Below w.heap.size w w') := by
    refine (decode_any d w hs).mono ?_
    rintro e w' ⟨hde, h2⟩
    refine ⟨?_, h2⟩
    rcases hde with ⟨t, h, rfl⟩ | ⟨h, _⟩
    · have : t = path.data.toList := by rw [hd] at h; exact (Option.some.inj h).symm
      rw [this]
    · rw [hd] at h; cases h
  have R0 : Hid (okSp (d.data.toList.drop 0) = true) := hok
  clear hd hok
  go_enter Tryd.func7, Tryd.ntmps7
  go_wp2_with fail
  refine H2.out.mono ?_
  rintro e w1 ⟨rfl, hb1⟩
  go_wp2_with fail
  go_loop [7] (fun i => ∃ k : Nat, k ≤ d.size ∧ i = .int .i64 k ∧ Hid (okSp (d.data.toList.drop k) = true)) (fun i => d.size - (intOf i).toNat)
  case atStart => exact ⟨0, Nat.zero_le _, rfl, R0⟩
  case round =>
    clear R0
    obtain ⟨k, hk, rfl, hR⟩ := hrel
    by_cases hlt : k < d.size
    · obtain ⟨c, hc⟩ : ∃ c, d[k] = c := ⟨_, rfl⟩
      have hcl := u8_lt c
      by_cases h37 : c.toNat = 37
      · obtain rfl : c = 37 := u8_eq h37
        clear h37 hcl
        have hl2 : k + 2 < d.size := by
          refine Nat.lt_of_not_le fun h => ?_
          have := ok_short hlt h hc
          rw [hR.out] at this; cases this
        obtain ⟨a, ha⟩ : ∃ a, d[k + 1] = a := ⟨_, rfl⟩
        obtain ⟨b, hb⟩ : ∃ b, d[k + 2] = b := ⟨_, rfl⟩
        obtain ⟨u1, u2, u3, u4'⟩ := ok_pct hl2 hc ha hb hR.out
        have HR : Hid (okSp (d.data.toList.drop (k + 3)) = true) := u4'
        clear u4' hR
        go_wp2_with (first
          | (go_at_call 11; refine same (upper_any _ _ (u8_lt _)) ?_)
          | (go_at_call 12; refine same (unhex_zz _ _ (u8_lt _)) ?_)
          | (go_at_call 13; rw [pr_val']; refine same (kept_any _ _ (u8_lt _)) ?_))
        go_round
        case rel => exact ⟨k + 3, by omega, by go_num, HR⟩
        case measure => simp [intOf]; omega
      · obtain ⟨u1, u2'⟩ := ok_plain hlt hc (u8_ne (by decide) h37) hR.out
        have HR : Hid (okSp (d.data.toList.drop (k + 1)) = true) := u2'
        clear u2' hR
        go_wp2_with (go_at_call 13; refine same (kept_any _ _ (u8_lt _)) ?_)
        go_round
        case rel => exact ⟨k + 1, by omega, by go_num, HR⟩
        case measure => simp [intOf]; omega
    · obtain rfl : k = d.size := by omega
      go_wp2_with fail
      go_ret
      exact ⟨rfl, hb1⟩

theorem spell_any (path : ByteArray) (w : World) (hp : path.size ≤ 524288) :
    Calls Tryd.prog 7 #[.string ⟨(dflt path.data.toList).toArray⟩, .string path] w fun e w' => e = .returned (.bool true) ∧ Below w.heap.size w w' := by
  cases hst : (path.toList == [42]) with
  | true =>
    rw [dflt_star hst]
    refine (spell_star path w hst).mono ?_
    rintro e w' ⟨rfl, rfl⟩
    exact ⟨rfl, Below.refl _ _⟩
  | false =>
    rw [dflt_esc hst]
    refine spell_else _ path w ?_ hst (dec_esc _) (okSp_esc _)
    rw [size_mk]
    have h1 := len_list path
    have h3 := esc_len path.data.toList
    have h4 := cnt_le path.data.toList
    omega

set_option maxHeartbeats 2000000 in
theorem keeps_long (path raw : ByteArray) (w : World) (m0 : path.size ≤ maxLen) (m1 : raw.size ≤ maxLen) (h : 524288 < path.size ∨ 524288 < raw.size) :
    Calls Tryd.prog 3 #[.string path, .string raw] w fun e w' => e = .returned (.bool true) ∧ Below w.heap.size w w' := by
  have HB : Hid (Calls Tryd.prog 5 #[.string path, .string raw] w fun e w' => SomeB e ∧ w' = w) := bytes5_any path raw w m0 m1
  unfold maxLen at m0 m1
  rcases h with h | h
  all_goals
    go_enter Tryd.func3, Tryd.ntmps3
    go_wp2_with fail
    refine same_bool HB.out ?_
    intro x
    cases x
    · go_wp2_with fail
      go_ret
      exact ⟨rfl, Below.refl _ _⟩
    · go_wp2_with fail
      all_goals (go_ret; exact ⟨rfl, Below.refl _ _⟩)

set_option maxHeartbeats 4000000 in
theorem keeps_good (path raw : ByteArray) (w : World) (hp : path.size ≤ 524288) (hr : raw.size ≤ 524288) (hT : TabAt w) :
    Calls Tryd.prog 3 #[.string path, .string raw] w fun e w' => e = .returned (.bool true) ∧ Below w.heap.size w w' := by
  have H1 : Hid (Calls Tryd.prog 6 #[.string path, .string ⟨#[]⟩] w fun e w' => e = .returned (.string ⟨(dflt path.data.toList).toArray⟩) ∧ Below w.heap.size w w') := by
    refine (zzSent_any path ⟨#[]⟩ w hp (by simp [ByteArray.size]) hT).mono ?_
    rintro e w' ⟨rfl, h2⟩
    exact ⟨by rw [show (ByteArray.mk #[]).data.toList = [] from rfl, sent_empty], h2⟩
  have H2 : Hid (∀ w1, Below w.heap.size w w1 → Calls Tryd.prog 6 #[.string path, .string raw] w1 fun e w' => e = .returned (.string ⟨(sent path.data.toList raw.data.toList).toArray⟩) ∧ Below w.heap.size w w') := fun w1 hb => by
    refine (zzSent_any path raw w1 hp (by omega) (hT.below hb)).mono ?_
    rintro e w' ⟨rfl, h2⟩
    exact ⟨rfl, hb.trans (h2.mono hb.size)⟩
  have H3 : Hid (∀ w1, Below w.heap.size w w1 → Calls Tryd.prog 7 #[.string ⟨(dflt path.data.toList).toArray⟩, .string path] w1 fun e w' => e = .returned (.bool true) ∧ Below w.heap.size w w') := fun w1 hb => by
    refine (spell_any path w1 hp).mono ?_
    rintro e w' ⟨rfl, h2⟩
    exact ⟨rfl, hb.trans (h2.mono hb.size)⟩
  have H4 : Hid (∀ w1, Below w.heap.size w w1 → Calls Tryd.prog 8 #[.string raw] w1 fun e w' => De raw e ∧ Below w.heap.size w w') := fun w1 hb => by
    refine (decode_any raw w1 (by omega)).mono ?_
    rintro e w' ⟨hde, h2⟩
    exact ⟨hde, hb.trans (h2.mono hb.size)⟩
  have S0 : Hid (raw.data.toList = [] → sent path.data.toList raw.data.toList = dflt path.data.toList) := fun h => by rw [h]; exact sent_empty _
  have S1 : Hid (raw.data.toList ≠ [] → dec raw.data.toList = some path.data.toList → sent path.data.toList raw.data.toList = raw.data.toList) := sent_raw
  have S2 : Hid (dec raw.data.toList ≠ some path.data.toList → sent path.data.toList raw.data.toList = dflt path.data.toList) := sent_else
  generalize sent path.data.toList raw.data.toList = s at *
  generalize hdf : dflt path.data.toList = d at *
  clear hT hdf
  go_enter Tryd.func3, Tryd.ntmps3
  go_wp2_with (go_at_call 5; refine same (bytes5_yes _ _ _ hp hr) ?_)
  refine H1.out.mono ?_
  rintro e w1 ⟨rfl, hb1⟩
  have B1 : Hid (Below w.heap.size w w1) := hb1
  clear hb1
  go_wp2_with fail
  refine (H2.out _ B1.out).mono ?_
  rintro e w2 ⟨rfl, hb2⟩
  have B2 : Hid (Below w.heap.size w w2) := hb2
  clear hb2
  go_wp2_with fail
  refine (H3.out _ B2.out).mono ?_
  rintro e w3 ⟨rfl, hb3⟩
  have B3 : Hid (Below w.heap.size w w3) := hb3
  clear hb3
  cases h0 : (raw.toList == []) with
  | true =>
    have hs : s = d := S0.out (by rw [byl] at h0; simpa using h0)
    subst hs
    go_wp2_with fail
    go_ret
    exact ⟨rfl, B3.out⟩
  | false =>
    have hrn : raw.data.toList ≠ [] := by rw [byl] at h0; simpa using h0
    have HRN : Hid (raw.data.toList ≠ []) := hrn
    clear hrn
    go_wp2_with fail
    refine (H4.out _ B3.out).mono ?_
    rintro e w4 ⟨hde, hb4⟩
    have B4 : Hid (Below w.heap.size w w4) := hb4
    clear hb4
    rcases hde with ⟨t, hd, rfl⟩ | ⟨hd, rfl⟩
    · cases hq : (t == path.toList) with
      | true =>
        have e : t = path.data.toList := by rw [byl] at hq; simpa using hq
        have hs : s = raw.data.toList := S1.out HRN.out (by rw [hd, e])
        have hsq : (s == raw.toList) = true := by rw [hs, byl]; simp
        clear hd e hs
        go_wp2_with fail
        go_ret
        exact ⟨rfl, B4.out⟩
      | false =>
        have hs : s = d := S2.out (by
          rw [hd]
          rw [byl] at hq
          simpa using hq)
        subst hs
        clear hd
        go_wp2_with fail
        go_ret
        exact ⟨rfl, B4.out⟩
    · have hs : s = d := S2.out (by rw [hd]; simp)
      subst hs
      clear hd
      go_wp2_with fail
      go_ret
      exact ⟨rfl, B4.out⟩

theorem keeps_walk (path raw : ByteArray) (w : World) (m0 : path.size ≤ maxLen) (m1 : raw.size ≤ maxLen) (hT : TabAt w) :
    Calls Tryd.prog 3 #[.string path, .string raw] w fun e w' => e = .returned (.bool true) ∧ Below w.heap.size w w' := by
  by_cases hp : path.size ≤ 524288
  · by_cases hr : raw.size ≤ 524288
    · exact keeps_good path raw w hp hr hT
    · exact keeps_long path raw w m0 m1 (.inr (by omega))
  · exact keeps_long path raw w m0 m1 (.inl (by omega))
end Go.Proofs.Qxb6627573aDoor
