/-
  THE WALKS of PathUnescape, EscapedPath, Sent and ZZSent.
-/
import Derived.Test.Qxb6627573aDoorDec
import Derived.Test.Qxb6627573aDoorEsc
namespace Go.Proofs.Qxb6627573aDoor
open Go.RowKit Pct

theorem byl (b : ByteArray) : b.toList = b.data.toList := by
  obtain ⟨⟨l⟩⟩ := b; simp
theorem str_eq (a b : ByteArray) : (a.toList == b.toList) = decide (a.data.toList = b.data.toList) := by
  rw [byl, byl, Bool.eq_iff_iff]; simp

set_option maxHeartbeats 1000000 in
theorem pathUnescape_any (s : ByteArray) (w : World) (hs : s.size ≤ 2097152) (hT : TabAt w) :
    Calls Tryd.prog 14 #[.string s] w fun e w' => Un s e ∧ Below w.heap.size w w' := by
  have HU : Hid (Calls Tryd.prog 16 #[.string s, .int .u8 2] w fun e w' => Un s e ∧ Below w.heap.size w w') := unescape_any s 2 w hs (.inr rfl) hT
  clear hT
  go_enter Tryd.func14, Tryd.ntmps14
  go_wp2_with fail
  refine HU.out.mono ?_
  rintro e w' ⟨hu, hb⟩
  have HB : Hid (Below w.heap.size w w') := hb
  clear hb
  rcases hu with ⟨t, hd, rfl⟩ | ⟨hd, x, rfl⟩
  · have HD : Hid (dec s.data.toList = some t) := hd
    clear hd
    go_wp2_with fail
    go_ret2
    exact ⟨.inl ⟨t, HD.out, rfl⟩, HB.out⟩
  · have HD : Hid (dec s.data.toList = none) := hd
    clear hd
    go_wp2_with fail
    go_ret2
    exact ⟨.inr ⟨HD.out, x, rfl⟩, HB.out⟩

/-- The default spelling, '*' apart. -/
def dflt (path : List UInt8) : List UInt8 := if path = [42] then [42] else esc path
theorem dflt_star {path : ByteArray} (h : (path.toList == [42]) = true) : dflt path.data.toList = [42] := by
  rw [byl] at h; unfold dflt; rw [if_pos (by simpa using h)]
theorem dflt_esc {path : ByteArray} (h : (path.toList == [42]) = false) : dflt path.data.toList = esc path.data.toList := by
  rw [byl] at h; unfold dflt; rw [if_neg (by simpa using h)]
theorem ret_str {a b : ByteArray} (h : a = b) : Ending.returned (.string a) = .returned (.string b) := by rw [h]

set_option maxHeartbeats 2000000 in
theorem escapedPath_empty (path : ByteArray) (b : Nat) (w : World) (hp : path.size ≤ 524288) (hT : TabAt w) (h4 : w.cell? ⟨b, 4, none⟩ = some (.string path)) (h7 : w.cell? ⟨b, 7, none⟩ = some (.string ⟨#[]⟩)) :
    Calls Tryd.prog 15 #[.pointer (some ⟨b, 0, none⟩)] w fun e w' => e = .returned (.string ⟨(dflt path.data.toList).toArray⟩) ∧ Below w.heap.size w w' := by
  have HE : Hid (Calls Tryd.prog 18 #[.string path, .int .u8 1] w fun e w' => e = .returned (.string ⟨(esc path.data.toList).toArray⟩) ∧ Below w.heap.size w w') := escape_any path w hp hT
  clear hT
  cases hst : (path.toList == [42]) with
  | true =>
    have HS : Hid (dflt path.data.toList = [42]) := dflt_star hst
    go_enter Tryd.func15, Tryd.ntmps15
    go_wp2_with fail
    go_ret
    exact ⟨ret_str (by rw [HS.out]), Below.refl _ _⟩
  | false =>
    have HS : Hid (dflt path.data.toList = esc path.data.toList) := dflt_esc hst
    go_enter Tryd.func15, Tryd.ntmps15
    go_wp2_with fail
    refine HE.out.mono ?_
    rintro e w' ⟨rfl, hb⟩
    go_wp2_with fail
    go_ret
    exact ⟨ret_str (by rw [HS.out]), hb⟩

theorem below_cells {w w1 : World} {b : Nat} {x y : Value} (hb : Below w.heap.size w w1) (hbl : b < w.heap.size) (h4 : w.cell? ⟨b, 4, none⟩ = some x) (h7 : w.cell? ⟨b, 7, none⟩ = some y) : w1.cell? ⟨b, 4, none⟩ = some x ∧ w1.cell? ⟨b, 7, none⟩ = some y :=
  ⟨by rw [hb.cell (by exact hbl)]; exact h4, by rw [hb.cell (by exact hbl)]; exact h7⟩

set_option maxHeartbeats 4000000 in
theorem escapedPath_raw (path raw : ByteArray) (b : Nat) (w : World) (hp : path.size ≤ 524288) (hr : raw.size ≤ 2097152) (hT : TabAt w) (hbl : b < w.heap.size) (h4 : w.cell? ⟨b, 4, none⟩ = some (.string path)) (h7 : w.cell? ⟨b, 7, none⟩ = some (.string raw))
    (h0 : (raw.toList == []) = false) (hne : dec raw.data.toList ≠ some path.data.toList) :
    Calls Tryd.prog 15 #[.pointer (some ⟨b, 0, none⟩)] w fun e w' => e = .returned (.string ⟨(dflt path.data.toList).toArray⟩) ∧ Below w.heap.size w w' := by
  have HE : Hid (∀ w1, Below w.heap.size w w1 → Calls Tryd.prog 18 #[.string path, .int .u8 1] w1 fun e w' => e = .returned (.string ⟨(esc path.data.toList).toArray⟩) ∧ Below w.heap.size w w') := fun w1 hb => by
    refine (escape_any path w1 hp (hT.below hb)).mono ?_
    rintro e w' ⟨rfl, h2⟩
    exact ⟨rfl, hb.trans (h2.mono hb.size)⟩
  have HV : Hid (Calls Tryd.prog 17 #[.string raw, .int .u8 1] w fun e w' => SomeB e ∧ w' = w) := valid_any raw w hr hT
  have HU : Hid (Calls Tryd.prog 16 #[.string raw, .int .u8 1] w fun e w' => Un raw e ∧ Below w.heap.size w w') := unescape_any raw 1 w hr (.inl rfl) hT
  have HN : Hid (dec raw.data.toList ≠ some path.data.toList) := hne
  clear hT hne
  go_enter Tryd.func15, Tryd.ntmps15
  go_wp2_with fail
  refine HV.out.mono ?_
  rintro e w' ⟨⟨vb, rfl⟩, hw⟩
  obtain rfl := hw.symm
  cases vb with
  | false =>
    cases hst : (path.toList == [42]) with
    | true =>
      have HS : Hid (dflt path.data.toList = [42]) := dflt_star hst
      go_wp2_with fail
      go_ret
      exact ⟨ret_str (by rw [HS.out]), Below.refl _ _⟩
    | false =>
      have HS : Hid (dflt path.data.toList = esc path.data.toList) := dflt_esc hst
      go_wp2_with fail
      refine (HE.out _ (Below.refl _ _)).mono ?_
      rintro e w' ⟨rfl, hb⟩
      go_wp2_with fail
      go_ret
      exact ⟨ret_str (by rw [HS.out]), hb⟩
  | true =>
    go_wp2_with fail
    refine HU.out.mono ?_
    rintro e w1 ⟨hu, hb1⟩
    obtain ⟨g4, g7⟩ := below_cells hb1 hbl h4 h7
    have HB : Hid (Below w.heap.size w w1) := hb1
    clear hb1 h4 h7
    rcases hu with ⟨t, hd, rfl⟩ | ⟨hd, x, rfl⟩
    · have hq : (t == path.toList) = false := by
        rw [byl]
        have := HN.out
        rw [hd] at this
        simpa using this
      clear hd
      cases hst : (path.toList == [42]) with
      | true =>
        have HS : Hid (dflt path.data.toList = [42]) := dflt_star hst
        go_wp2_with fail
        go_ret
        exact ⟨ret_str (by rw [HS.out]), HB.out⟩
      | false =>
        have HS : Hid (dflt path.data.toList = esc path.data.toList) := dflt_esc hst
        go_wp2_with fail
        refine (HE.out _ HB.out).mono ?_
        rintro e w' ⟨rfl, hb⟩
        go_wp2_with fail
        go_ret
        exact ⟨ret_str (by rw [HS.out]), hb⟩
    · clear hd
      cases hst : (path.toList == [42]) with
      | true =>
        have HS : Hid (dflt path.data.toList = [42]) := dflt_star hst
        go_wp2_with fail
        go_ret
        exact ⟨ret_str (by rw [HS.out]), HB.out⟩
      | false =>
        have HS : Hid (dflt path.data.toList = esc path.data.toList) := dflt_esc hst
        go_wp2_with fail
        refine (HE.out _ HB.out).mono ?_
        rintro e w' ⟨rfl, hb⟩
        go_wp2_with fail
        go_ret
        exact ⟨ret_str (by rw [HS.out]), hb⟩
theorem sent_empty (path : List UInt8) : sent path [] = dflt path := by simp [sent, dflt]
theorem sent_raw {path raw : List UInt8} (h : raw ≠ []) (hd : dec raw = some path) : sent path raw = raw := by simp [sent, h, hd]
theorem sent_else {path raw : List UInt8} (hd : dec raw ≠ some path) : sent path raw = dflt path := by simp [sent, hd, dflt]

set_option maxHeartbeats 4000000 in
theorem sent_any (path raw : ByteArray) (b : Nat) (w : World) (hp : path.size ≤ 524288) (hr : raw.size ≤ 2097152) (hT : TabAt w) (hbl : b < w.heap.size) (h4 : w.cell? ⟨b, 4, none⟩ = some (.string path)) (h7 : w.cell? ⟨b, 7, none⟩ = some (.string raw)) :
    Calls Tryd.prog 10 #[.pointer (some ⟨b, 0, none⟩)] w fun e w' => e = .returned (.string ⟨(sent path.data.toList raw.data.toList).toArray⟩) ∧ Below w.heap.size w w' := by
  cases h0 : (raw.toList == []) with
  | true =>
    obtain rfl : raw = ⟨#[]⟩ := by
      obtain ⟨⟨l⟩⟩ := raw
      simpa using h0
    have HE : Hid (Calls Tryd.prog 15 #[.pointer (some ⟨b, 0, none⟩)] w fun e w' => e = .returned (.string ⟨(dflt path.data.toList).toArray⟩) ∧ Below w.heap.size w w') := escapedPath_empty path b w hp hT h4 h7
    rw [show sent path.data.toList (ByteArray.mk #[]).data.toList = dflt path.data.toList from sent_empty _]
    clear h0 hT
    go_enter Tryd.func10, Tryd.ntmps10
    go_wp2_with fail
    refine HE.out.mono ?_
    rintro e w' ⟨rfl, hb⟩
    go_wp2_with fail
    go_ret
    exact ⟨rfl, hb⟩
  | false =>
    have hrn : raw.data.toList ≠ [] := by rw [byl] at h0; simpa using h0
    have HU : Hid (Calls Tryd.prog 14 #[.string raw] w fun e w' => Un raw e ∧ Below w.heap.size w w') := pathUnescape_any raw w hr hT
    have HX : Hid (∀ w1, Below w.heap.size w w1 → dec raw.data.toList ≠ some path.data.toList → Calls Tryd.prog 15 #[.pointer (some ⟨b, 0, none⟩)] w1 fun e w' => e = .returned (.string ⟨(sent path.data.toList raw.data.toList).toArray⟩) ∧ Below w.heap.size w w') := fun w1 hb hne => by
      obtain ⟨g4, g7⟩ := below_cells hb hbl h4 h7
      rw [sent_else hne]
      refine (escapedPath_raw path raw b w1 hp hr (hT.below hb) (Nat.lt_of_lt_of_le hbl hb.size) g4 g7 h0 hne).mono ?_
      rintro e w' ⟨rfl, h2⟩
      exact ⟨rfl, hb.trans (h2.mono hb.size)⟩
    have HS : Hid (dec raw.data.toList = some path.data.toList → sent path.data.toList raw.data.toList = raw.data.toList) := sent_raw hrn
    generalize sent path.data.toList raw.data.toList = res at *
    clear hT hrn
    go_enter Tryd.func10, Tryd.ntmps10
    go_wp2_with fail
    refine HU.out.mono ?_
    rintro e w1 ⟨hu, hb1⟩
    obtain ⟨g4, g7⟩ := below_cells hb1 hbl h4 h7
    have HB : Hid (Below w.heap.size w w1) := hb1
    clear hb1 h4 h7
    rcases hu with ⟨t, hd, rfl⟩ | ⟨hd, x, rfl⟩
    · cases hq : (t == path.toList) with
      | true =>
        have e : t = path.data.toList := by rw [byl] at hq; simpa using hq
        have HR : Hid (res = raw.data.toList) := HS.out (by rw [hd, e])
        clear hd e
        go_wp2_with fail
        go_ret
        exact ⟨ret_str (by rw [HR.out]), HB.out⟩
      | false =>
        have hne : dec raw.data.toList ≠ some path.data.toList := by
          rw [hd]
          rw [byl] at hq
          simpa using hq
        have HN : Hid (dec raw.data.toList ≠ some path.data.toList) := hne
        clear hd hne
        go_wp2_with fail
        refine (HX.out _ HB.out HN.out).mono ?_
        rintro e w' ⟨rfl, hb⟩
        go_wp2_with fail
        go_ret
        exact ⟨rfl, hb⟩
    · have HN : Hid (dec raw.data.toList ≠ some path.data.toList) := by show _ ≠ _; rw [hd]; simp
      clear hd
      go_wp2_with fail
      refine (HX.out _ HB.out HN.out).mono ?_
      rintro e w' ⟨rfl, hb⟩
      go_wp2_with fail
      go_ret
      exact ⟨rfl, hb⟩

set_option maxHeartbeats 2000000 in
theorem zzSent_any (path raw : ByteArray) (w : World) (hp : path.size ≤ 524288) (hr : raw.size ≤ 2097152) (hT : TabAt w) :
    Calls Tryd.prog 6 #[.string path, .string raw] w fun e w' => e = .returned (.string ⟨(sent path.data.toList raw.data.toList).toArray⟩) ∧ Below w.heap.size w w' := by
  have HS : Hid (∀ w1 b, Below w.heap.size w w1 → b < w1.heap.size → w1.cell? ⟨b, 4, none⟩ = some (.string path) → w1.cell? ⟨b, 7, none⟩ = some (.string raw) → Calls Tryd.prog 10 #[.pointer (some ⟨b, 0, none⟩)] w1 fun e w' => e = .returned (.string ⟨(sent path.data.toList raw.data.toList).toArray⟩) ∧ Below w.heap.size w w') := fun w1 b hb h h4 h7 => by
    refine (sent_any path raw b w1 hp hr (hT.below hb) h h4 h7).mono ?_
    rintro e w' ⟨rfl, h2⟩
    exact ⟨rfl, hb.trans (h2.mono hb.size)⟩
  generalize sent path.data.toList raw.data.toList = res at *
  clear hT
  go_enter Tryd.func6, Tryd.ntmps6
  go_wp2_with fail
  refine (HS.out _ _ ((Below.refl _ w).alloc (Nat.le_refl _) _) (by simp) (by simp) (by simp)).mono ?_
  rintro e w' ⟨rfl, hb⟩
  go_wp2_with fail
  go_ret
  exact ⟨rfl, hb⟩
end Go.Proofs.Qxb6627573aDoor
