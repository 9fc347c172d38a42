/-
  THE WALK of FnCheckNameJoin, and its plain law.
-/
import Derived.Test.Qxb6627622aFmtChk
namespace Go.Proofs.Qxb6627622aFmt
open Go.RowKit Go.Extern.Stop Go.Stop Go.Extern

/-- The result's comparison with nil. -/
def IsNil (b : Bool) (v : Value) : Prop := (∀ w, (binOp .eql 24 v .nilIface).run Tryf.prog w = .ok (.bool b) w) ∧ ∀ k w, (eqGuard .eql 24 (.tmp k) (.const .nilIface) v .nilIface).run Tryf.prog w = .ok () w
theorem isNil_nil : IsNil true .nilIface := ⟨by intro w; go_simp, by intro k w; go_simp⟩
theorem isNil_err (p : Addr) : IsNil false (.iface 31 (.pointer (some p))) := ⟨by intro w; go_simp, by intro k w; go_simp⟩

theorem check_v (F : Interp) (s : ByteArray) (w0 w : World) (hB : Below w0.heap.size w0 w) (hF : F.answers w0.tape) (hs : s.size ≤ 2097152) {Q : Ending → World → Prop}
    (hq : ∀ v w', IsNil (acc s.data.toList) v → Below w0.heap.size w0 w' → Q (.returned v) w') : Calls Tryf.prog 6 #[.string s] w Q := by
  refine (check_any F s w (by rw [hB.tape]; exact hF) hs).mono ?_
  rintro e w' ⟨h, hb⟩
  have hB' : Below w0.heap.size w0 w' := hB.trans (hb.mono hB.size)
  rcases h with ⟨h, rfl⟩ | ⟨h, p, rfl⟩
  · exact hq _ _ (by rw [h]; exact isNil_nil) hB'
  · exact hq _ _ (by rw [h]; exact isNil_err p) hB'

theorem okL_append (a b : List UInt8) : okL (a ++ b) = (okL a && okL b) := List.all_append
theorem fits_le {n m : Nat} (h : fits n = true) (hm : m ≤ n) (hp : m ≠ 0) : fits m = true := by
  unfold fits at *; simp at *; omega
/-- 'a part': empty, or taken on its own -/
def part (l : List UInt8) : Bool := l.isEmpty || acc l
theorem part_eq {l : List UInt8} {n : Nat} (h : fits n = true) (hm : l.length ≤ n) : part l = okL l := by
  unfold part acc
  cases l with
  | nil => rfl
  | cons x t => rw [fits_le h hm (by simp)]; rfl
theorem acc_join (a b : List UInt8) : acc (a ++ b) = (fits (a.length + b.length) && part a && part b) := by
  unfold acc
  rw [List.length_append]
  cases h : fits (a.length + b.length) with
  | false => rfl
  | true => rw [part_eq h (Nat.le_add_right _ _), part_eq h (Nat.le_add_left _ _), okL_append]; simp

theorem bytes5_any (a b : ByteArray) (w : World) (ha : a.size ≤ maxLen) (hb : b.size ≤ maxLen) :
    Calls Tryf.prog 5 #[.string a, .string b] w fun e w' => e = .returned (.bool (decide (a.size + b.size ≤ 1048576))) ∧ w' = w := by
  unfold maxLen at ha hb
  generalize hd : decide (a.size + b.size ≤ 1048576) = d
  have hd' : Hid (decide (a.size + b.size ≤ 1048576) = d) := hd
  clear hd
  go_enter Tryf.func5, Tryf.ntmps5
  go_wp2
  all_goals
    go_ret
    refine ⟨?_, rfl⟩
    rw [← hd'.out]
    refine congrArg _ (congrArg Value.bool ?_)
    rw [Bool.eq_iff_iff]
    simp
    omega
theorem same {f : FuncId} {args : Array Value} {w : World} {v : Ending} {Q : Ending → World → Prop} (h : Calls Tryf.prog f args w fun e w' => e = v ∧ w' = w) (hq : Q v w) : Calls Tryf.prog f args w Q :=
  h.mono fun e w' ⟨he, hw⟩ => by rw [he, hw]; exact hq

set_option maxHeartbeats 2000000 in
theorem join_long (a b : ByteArray) (w : World) (ha : a.size ≤ maxLen) (hb : b.size ≤ maxLen) (h : 1048576 < a.size + b.size) :
    Calls Tryf.prog 3 #[.string a, .string b] w fun e w' => e = .returned (.bool true) ∧ Below w.heap.size w w' := by
  have H := bytes5_any a b w ha hb
  rw [show decide (a.size + b.size ≤ 1048576) = false by simp; omega] at H
  have HB : Hid (Calls Tryf.prog 5 #[.string a, .string b] w fun e w' => e = .returned (.bool false) ∧ w' = w) := H
  clear H
  go_enter Tryf.func3, Tryf.ntmps3
  go_wp2_with (go_at_call 5; refine same HB.out ?_)
  go_ret
  exact ⟨rfl, Below.refl _ _⟩

theorem ret_true {x : Bool} (h : x = true) : Ending.returned (.bool x) = .returned (.bool true) := by rw [h]
theorem fits_yes {n : Nat} (h : 1 ≤ n ∧ n ≤ 64) : fits n = true := by unfold fits; simp; omega
theorem fits_no {n : Nat} (h : n < 1 ∨ 64 < n) : fits n = false := by unfold fits; simp; omega
theorem toList_nil (a : ByteArray) : a.toList.isEmpty = a.data.toList.isEmpty := by rw [ByteArray.toList_eq]

set_option maxHeartbeats 4000000 in
set_option maxRecDepth 100000 in
theorem join_good (F : Interp) (a b : ByteArray) (w : World) (hF : F.answers w.tape) (h : a.size + b.size ≤ 1048576) :
    Calls Tryf.prog 3 #[.string a, .string b] w fun e w' => e = .returned (.bool true) ∧ Below w.heap.size w w' := by
  have H := bytes5_any a b w (by unfold maxLen; omega) (by unfold maxLen; omega)
  rw [show decide (a.size + b.size ≤ 1048576) = true by simp; omega] at H
  have HB : Hid (Calls Tryf.prog 5 #[.string a, .string b] w fun e w' => e = .returned (.bool true) ∧ w' = w) := H
  clear H
  have HF : Hid (F.answers w.tape) := hF
  clear hF
  have HJ : Hid (acc (a ++ b).data.toList = (fits (a.size + b.size) && part a.data.toList && part b.data.toList)) := by
    show acc (a ++ b).data.toList = _
    rw [show (a ++ b).data.toList = a.data.toList ++ b.data.toList by simp, acc_join, len_list, len_list]
  have hab : (a ++ b).size = a.size + b.size := by simp
  have CAB : Hid (∀ w1 Q, Below w.heap.size w w1 → (∀ v w', IsNil (acc (a ++ b).data.toList) v → Below w.heap.size w w' → Q (.returned v) w') → Calls Tryf.prog 6 #[.string (a ++ b)] w1 Q) := fun w1 Q hB hq => check_v F _ w w1 hB HF.out (by omega) hq
  have CA : Hid (∀ w1 Q, Below w.heap.size w w1 → (∀ v w', IsNil (acc a.data.toList) v → Below w.heap.size w w' → Q (.returned v) w') → Calls Tryf.prog 6 #[.string a] w1 Q) := fun w1 Q hB hq => check_v F _ w w1 hB HF.out (by omega) hq
  have CB : Hid (∀ w1 Q, Below w.heap.size w w1 → (∀ v w', IsNil (acc b.data.toList) v → Below w.heap.size w w' → Q (.returned v) w') → Calls Tryf.prog 6 #[.string b] w1 Q) := fun w1 Q hB hq => check_v F _ w w1 hB HF.out (by omega) hq
  clear HF hab
  generalize acc (a ++ b).data.toList = A at *
  have hpa : part a.data.toList = (a.toList.isEmpty || acc a.data.toList) := by rw [toList_nil]; rfl
  have hpb : part b.data.toList = (b.toList.isEmpty || acc b.data.toList) := by rw [toList_nil]; rfl
  generalize acc a.data.toList = PA at *
  generalize acc b.data.toList = PB at *
  rw [hpa, hpb] at HJ
  clear hpa hpb
  generalize ea : a.toList.isEmpty = ta at *
  generalize eb : b.toList.isEmpty = tb at *
  go_enter Tryf.func3, Tryf.ntmps3
  go_wp2_with (go_at_call 5; refine same HB.out ?_)
  refine CAB.out _ _ (Below.refl _ _) ?_
  intro v1 w1 q1 B1
  obtain ⟨q1, g1⟩ := q1
  have HB1 : Hid (Below w.heap.size w w1) := B1
  clear B1
  cases ta
  · cases tb
    · go_wp2_with fail
      refine CA.out _ _ HB1.out ?_
      intro v2 w2 q2 B2
      obtain ⟨q2, g2⟩ := q2
      have HB2 : Hid (Below w.heap.size w w2) := B2
      clear B2
      go_wp2_with fail
      refine CB.out _ _ HB2.out ?_
      intro v3 w3 q3 B3
      obtain ⟨q3, g3⟩ := q3
      have HB3 : Hid (Below w.heap.size w w3) := B3
      clear B3
      go_wp2_with fail
      all_goals (go_ret; refine ⟨ret_true ?_, HB3.out⟩; have hj := HJ.out; (first | rw [fits_yes (by omega)] at hj | rw [fits_no (by omega)] at hj); cases A <;> cases PA <;> cases PB <;> first | rfl | contradiction | exact absurd hj (by decide))
    · go_wp2_with fail
      refine CA.out _ _ HB1.out ?_
      intro v2 w2 q2 B2
      obtain ⟨q2, g2⟩ := q2
      have HB2 : Hid (Below w.heap.size w w2) := B2
      clear B2
      go_wp2_with fail
      all_goals (go_ret; refine ⟨ret_true ?_, HB2.out⟩; have hj := HJ.out; (first | rw [fits_yes (by omega)] at hj | rw [fits_no (by omega)] at hj); cases A <;> cases PA <;> cases PB <;> first | rfl | contradiction | exact absurd hj (by decide))
  · cases tb
    · go_wp2_with fail
      refine CB.out _ _ HB1.out ?_
      intro v2 w2 q2 B2
      obtain ⟨q2, g2⟩ := q2
      have HB2 : Hid (Below w.heap.size w w2) := B2
      clear B2
      go_wp2_with fail
      all_goals (go_ret; refine ⟨ret_true ?_, HB2.out⟩; have hj := HJ.out; (first | rw [fits_yes (by omega)] at hj | rw [fits_no (by omega)] at hj); cases A <;> cases PA <;> cases PB <;> first | rfl | contradiction | exact absurd hj (by decide))
    · go_wp2_with fail
      all_goals (go_ret; refine ⟨ret_true ?_, HB1.out⟩; have hj := HJ.out; (first | rw [fits_yes (by omega)] at hj | rw [fits_no (by omega)] at hj); cases A <;> cases PA <;> cases PB <;> first | rfl | contradiction | exact absurd hj (by decide))

theorem join_walk (F : Interp) (a b : ByteArray) (w : World) (hF : F.answers w.tape) (ha : a.size ≤ maxLen) (hb : b.size ≤ maxLen) :
    Calls Tryf.prog 3 #[.string a, .string b] w fun e w' => e = .returned (.bool true) ∧ Below w.heap.size w w' := by
  by_cases h : a.size + b.size ≤ 1048576
  · exact join_good F a b w hF h
  · exact join_long a b w ha hb (by omega)
end Go.Proofs.Qxb6627622aFmt
