/-
  THE WALKS of the two laws.
-/
import Derived.Test.Qxb6627573aDoorSent
namespace Go.Proofs.Qxb6627573aDoor
open Go.RowKit Pct

set_option maxHeartbeats 1000000 in
theorem bytes9_yes (a b : ByteArray) (w : World) (ha : a.size ≤ 524288) (hb : b.size ≤ 524288) :
    Calls Tryd.prog 9 #[.string a, .string b] w fun e w' => e = .returned (.bool true) ∧ w' = w := by
  go_enter Tryd.func9, Tryd.ntmps9
  go_wp2
  go_ret
  exact ⟨rfl, rfl⟩
set_option maxHeartbeats 1000000 in
theorem bytes5_yes (a b : ByteArray) (w : World) (ha : a.size ≤ 524288) (hb : b.size ≤ 524288) :
    Calls Tryd.prog 5 #[.string a, .string b] w fun e w' => e = .returned (.bool true) ∧ w' = w := by
  go_enter Tryd.func5, Tryd.ntmps5
  go_wp2
  go_ret
  exact ⟨rfl, rfl⟩
set_option maxHeartbeats 1000000 in
theorem bytes9_any (a b : ByteArray) (w : World) (ha : a.size ≤ maxLen) (hb : b.size ≤ maxLen) :
    Calls Tryd.prog 9 #[.string a, .string b] w fun e w' => SomeB e ∧ w' = w := by
  unfold maxLen at ha hb
  go_enter Tryd.func9, Tryd.ntmps9
  go_wp2
  all_goals (go_ret; exact ⟨⟨_, rfl⟩, rfl⟩)
set_option maxHeartbeats 1000000 in
theorem bytes5_any (a b : ByteArray) (w : World) (ha : a.size ≤ maxLen) (hb : b.size ≤ maxLen) :
    Calls Tryd.prog 5 #[.string a, .string b] w fun e w' => SomeB e ∧ w' = w := by
  unfold maxLen at ha hb
  go_enter Tryd.func5, Tryd.ntmps5
  go_wp2
  all_goals (go_ret; exact ⟨⟨_, rfl⟩, rfl⟩)
theorem same_bool {f : FuncId} {args : Array Value} {w : World} {Q : Ending → World → Prop} (h : Calls Tryd.prog f args w fun e w' => SomeB e ∧ w' = w) (hq : ∀ x, Q (.returned (.bool x)) w) : Calls Tryd.prog f args w Q :=
  h.mono fun e w' ⟨⟨r, he⟩, hw⟩ => by rw [he, hw]; exact hq r

theorem size_mk (l : List UInt8) : (ByteArray.mk l.toArray).size = l.length := by simp [ByteArray.size]
theorem sent_size (path raw : ByteArray) (hp : path.size ≤ 524288) (hr : raw.size ≤ 524288) : (ByteArray.mk (sent path.data.toList raw.data.toList).toArray).size ≤ 2097152 := by
  rw [size_mk]
  have h1 := len_list path
  have h2 := len_list raw
  have h3 := esc_len path.data.toList
  have h4 := cnt_le path.data.toList
  unfold sent
  split
  · omega
  · split
    · simp
    · omega

set_option maxHeartbeats 2000000 in
theorem fixed_long (path raw : ByteArray) (w : World) (m0 : path.size ≤ maxLen) (m1 : raw.size ≤ maxLen) (h : 524288 < path.size ∨ 524288 < raw.size) :
    Calls Tryd.prog 4 #[.string path, .string raw] w fun e w' => e = .returned (.bool true) ∧ Below w.heap.size w w' := by
  have HB : Hid (Calls Tryd.prog 9 #[.string path, .string raw] w fun e w' => SomeB e ∧ w' = w) := bytes9_any path raw w m0 m1
  unfold maxLen at m0 m1
  rcases h with h | h
  all_goals
    go_enter Tryd.func4, Tryd.ntmps4
    go_wp2_with fail
    refine same_bool HB.out ?_
    intro x
    cases x
    · go_wp2_with fail
      go_ret
      exact ⟨rfl, Below.refl _ _⟩
    · go_wp2_with fail
      all_goals (go_ret; exact ⟨rfl, Below.refl _ _⟩)

set_option maxHeartbeats 2000000 in
theorem fixed_good (path raw : ByteArray) (w : World) (hp : path.size ≤ 524288) (hr : raw.size ≤ 524288) (hT : TabAt w) :
    Calls Tryd.prog 4 #[.string path, .string raw] w fun e w' => e = .returned (.bool true) ∧ Below w.heap.size w w' := by
  have hsz := sent_size path raw hp hr
  have hd : dec (sent path.data.toList raw.data.toList) = some path.data.toList := dec_sent _ _
  have hf : sent path.data.toList (sent path.data.toList raw.data.toList) = sent path.data.toList raw.data.toList := sent_fixed _ _
  have H1 : Hid (Calls Tryd.prog 6 #[.string path, .string raw] w fun e w' => e = .returned (.string ⟨(sent path.data.toList raw.data.toList).toArray⟩) ∧ Below w.heap.size w w') := zzSent_any path raw w hp (by omega) hT
  generalize sent path.data.toList raw.data.toList = s at *
  have H2 : Hid (∀ w1, Below w.heap.size w w1 → Calls Tryd.prog 8 #[.string ⟨s.toArray⟩] w1 fun e w' => e = .returned (.tuple #[.string path, .bool true]) ∧ Below w.heap.size w w') := fun w1 hb => by
    refine (decode_any ⟨s.toArray⟩ w1 hsz).mono ?_
    rintro e w' ⟨hde, h2⟩
    refine ⟨?_, hb.trans (h2.mono hb.size)⟩
    rcases hde with ⟨t, h, rfl⟩ | ⟨h, _⟩
    · have : t = path.data.toList := by rw [show (ByteArray.mk s.toArray).data.toList = s from rfl, hd] at h; exact (Option.some.inj h).symm
      rw [this]
    · rw [show (ByteArray.mk s.toArray).data.toList = s from rfl, hd] at h; cases h
  have H3 : Hid (∀ w1, Below w.heap.size w w1 → Calls Tryd.prog 6 #[.string path, .string ⟨s.toArray⟩] w1 fun e w' => e = .returned (.string ⟨s.toArray⟩) ∧ Below w.heap.size w w') := fun w1 hb => by
    refine (zzSent_any path ⟨s.toArray⟩ w1 hp hsz (hT.below hb)).mono ?_
    rintro e w' ⟨rfl, h2⟩
    exact ⟨by rw [show (ByteArray.mk s.toArray).data.toList = s from rfl, hf], hb.trans (h2.mono hb.size)⟩
  clear hT hd hf hsz
  go_enter Tryd.func4, Tryd.ntmps4
  go_wp2_with (go_at_call 9; refine same (bytes9_yes _ _ _ hp hr) ?_)
  refine H1.out.mono ?_
  rintro e w1 ⟨rfl, hb1⟩
  have B1 : Hid (Below w.heap.size w w1) := hb1
  clear hb1
  go_wp2_with fail
  refine (H2.out _ B1.out).mono ?_
  rintro e w2 ⟨rfl, hb2⟩
  have B2 : Hid (Below w.heap.size w w2) := hb2
  clear hb2
  go_wp2_with fail
  refine (H3.out _ B2.out).mono ?_
  rintro e w3 ⟨rfl, hb3⟩
  go_wp2_with fail
  go_ret
  exact ⟨rfl, hb3⟩

theorem fixed_walk (path raw : ByteArray) (w : World) (m0 : path.size ≤ maxLen) (m1 : raw.size ≤ maxLen) (hT : TabAt w) :
    Calls Tryd.prog 4 #[.string path, .string raw] w fun e w' => e = .returned (.bool true) ∧ Below w.heap.size w w' := by
  by_cases hp : path.size ≤ 524288
  · by_cases hr : raw.size ≤ 524288
    · exact fixed_good path raw w hp hr hT
    · exact fixed_long path raw w m0 m1 (.inr (by omega))
  · exact fixed_long path raw w m0 m1 (.inl (by omega))
end Go.Proofs.Qxb6627573aDoor
