/-
  THE WALK of FnCheckNameInsertOneByte, and its plain law.
-/
import Derived.Test.Qxb6627622aFmtJoin
import Derived.Deep.DeepCutAuto
import Derived.Deep.RegionHeld3
namespace Go.Proofs.Qxb6627622aFmt
open Go.RowKit Go.Extern.Stop Go.Stop Go.Extern

theorem bytes7_any (s : ByteArray) (i c : Int) (w : World) (hs : s.size ≤ maxLen) :
    Calls Tryf.prog 7 #[.string s, .int .i64 i, .int .u8 c] w fun e w' => e = .returned (.bool (decide (s.size ≤ 1048576))) ∧ w' = w := by
  unfold maxLen at hs
  generalize hd : decide (s.size ≤ 1048576) = d
  have hd' : Hid (decide (s.size ≤ 1048576) = d) := hd
  clear hd
  go_enter Tryf.func7, Tryf.ntmps7
  go_wp2
  all_goals
    go_ret
    refine ⟨?_, rfl⟩
    rw [← hd'.out]
    refine congrArg _ (congrArg Value.bool ?_)
    rw [Bool.eq_iff_iff]
    simp
    try omega

set_option maxHeartbeats 2000000 in
theorem ins_long (s : ByteArray) (i c : Int) (w : World) (hs : s.size ≤ maxLen) (h : 1048576 < s.size) :
    Calls Tryf.prog 4 #[.string s, .int .i64 i, .int .u8 c] w fun e w' => e = .returned (.bool true) ∧ Below w.heap.size w w' := by
  have H := bytes7_any s i c w hs
  rw [show decide (s.size ≤ 1048576) = false by simp; omega] at H
  have HB : Hid (Calls Tryf.prog 7 #[.string s, .int .i64 i, .int .u8 c] w fun e w' => e = .returned (.bool false) ∧ w' = w) := H
  clear H
  go_enter Tryf.func4, Tryf.ntmps4
  go_wp2_with (go_at_call 7; refine same HB.out ?_)
  go_ret
  exact ⟨rfl, Below.refl _ _⟩

set_option maxHeartbeats 2000000 in
theorem ins_out (s : ByteArray) (i c : Int) (w : World) (hs : s.size ≤ 1048576) (h : i < 0 ∨ (s.size : Int) < i) :
    Calls Tryf.prog 4 #[.string s, .int .i64 i, .int .u8 c] w fun e w' => e = .returned (.bool true) ∧ Below w.heap.size w w' := by
  have H := bytes7_any s i c w (by unfold maxLen; omega)
  rw [show decide (s.size ≤ 1048576) = true by simp; omega] at H
  have HB : Hid (Calls Tryf.prog 7 #[.string s, .int .i64 i, .int .u8 c] w fun e w' => e = .returned (.bool true) ∧ w' = w) := H
  clear H
  rcases h with h | h
  all_goals
    go_enter Tryf.func4, Tryf.ntmps4
    go_wp2_with (go_at_call 7; refine same HB.out ?_)
    all_goals (go_ret; exact ⟨rfl, Below.refl _ _⟩)

/-- the one-byte name -/
def one (c : UInt8) : ByteArray := ⟨[c].toArray⟩
theorem conv_one (w : World) (c : UInt8) (n cap : Nat) (h : w.cell? ⟨n, 0, none⟩ = some (.int .u8 (c.toNat : Int))) : (convert 27 9 (.slice (some ⟨n, 0, none⟩) 1 cap)).run Tryf.prog w = .ok (.string (one c)) w := by
  refine run_convert_bytes_back (P := Tryf.prog) w 27 9 5 ⟨n, 0, none⟩ cap [c] Tryf.underlying27 Tryf.underlying5 Tryf.underlying9 (fun j hj => ?_)
  obtain rfl : j = 0 := by simp at hj; exact hj
  simpa [Addr.add] using h

theorem conv_new (c : UInt8) (W : World) : (convert 27 9 (.slice (some ⟨W.heap.size, 0, none⟩) 1 1)).run Tryf.prog (W.alloc (Obj.cells #[.int .u8 (c.toNat : Int)] 5)) = .ok (.string (one c)) (W.alloc (Obj.cells #[.int .u8 (c.toNat : Int)] 5)) :=
  conv_one _ c _ 1 (by go_simp)
theorem acc_one (c : UInt8) : acc (one c).data.toList = okN c.toNat := by
  show (fits 1 && okL [c]) = _
  simp [fits, okL]
/-- how many of the one-byte names below k are taken -/
def cntN : Nat → Nat
  | 0 => 0
  | k + 1 => cntN k + if okN k then 1 else 0
theorem cntN_256 : cntN 256 = 65 := by decide +kernel
theorem cntN_le (k : Nat) : cntN k ≤ k := by
  induction k with
  | zero => exact Nat.le_refl _
  | succ k ih => unfold cntN; split <;> omega
/-- what stands between -/
theorem acc_ins (l : List UInt8) (i : Nat) (c : UInt8) : acc (l.take i ++ [c] ++ l.drop i) = (part l && decide (l.length < 64) && okN c.toNat) := by
  unfold acc part acc
  have e1 : (l.take i ++ [c] ++ l.drop i).length = l.length + 1 := by
    have := congrArg List.length (List.take_append_drop i l)
    simp only [List.length_append, List.length_singleton] at *
    omega
  have e2 : okL (l.take i ++ [c] ++ l.drop i) = (okL l && okN c.toNat) := by
    rw [okL_append, okL_append]
    have : okL l = (okL (l.take i) && okL (l.drop i)) := by rw [← okL_append, List.take_append_drop]
    rw [this]
    have h1 : okL [c] = okN c.toNat := by simp [okL]
    rw [h1]
    cases okL (l.take i) <;> cases okL (l.drop i) <;> cases okN c.toNat <;> rfl
  rw [e1, e2]
  cases l with
  | nil => simp [fits, okL]
  | cons x t =>
    have h1 : fits ((x :: t).length + 1) = decide ((x :: t).length < 64) := by unfold fits; rw [Bool.eq_iff_iff]; simp; omega
    have h2 : decide ((x :: t).length < 64) = true → fits (x :: t).length = true := by intro h; unfold fits; simp at *; omega
    rw [h1]
    cases h3 : decide ((x :: t).length < 64) with
    | false => simp
    | true => rw [h2 h3]; simp

theorem ins_list (s : ByteArray) (i : Nat) (c : UInt8) : (s.extract 0 i ++ one c ++ s.extract i s.size).data.toList = s.data.toList.take i ++ [c] ++ s.data.toList.drop i := by
  have h : (s.data.toList.drop i).length = s.size - i := by rw [List.length_drop, len_list]
  rw [ByteArray.data_append, ByteArray.data_append, ByteArray.data_extract, ByteArray.data_extract, Array.toList_append, Array.toList_append, Array.toList_extract, Array.toList_extract]
  simp only [List.extract_eq_take_drop, List.drop_zero, Nat.sub_zero]
  rw [List.take_of_length_le (i := s.size - i) (by omega)]
  rfl

set_option maxHeartbeats 4000000 in
set_option maxRecDepth 100000 in
theorem ins_in (F : Interp) (s : ByteArray) (i : Nat) (c : UInt8) (w : World) (hF : F.answers w.tape) (hs : s.size ≤ 1048576) (hi : i ≤ s.size) :
    Calls Tryf.prog 4 #[.string s, .int .i64 (i : Int), .int .u8 (c.toNat : Int)] w fun e w' => e = .returned (.bool true) ∧ Below w.heap.size w w' := by
  have H := bytes7_any s i c.toNat w (by unfold maxLen; omega)
  rw [show decide (s.size ≤ 1048576) = true by simp; omega] at H
  have HB : Hid (Calls Tryf.prog 7 #[.string s, .int .i64 i, .int .u8 c.toNat] w fun e w' => e = .returned (.bool true) ∧ w' = w) := H
  clear H
  have HF : Hid (F.answers w.tape) := hF
  clear hF
  have hc := u8_lt c
  have HT : Hid (acc (s.extract 0 i ++ one c ++ s.extract i s.size).data.toList = (part s.data.toList && decide (s.size < 64) && okN c.toNat)) := by
    show acc (s.extract 0 i ++ one c ++ s.extract i s.size).data.toList = _
    rw [← len_list, ← acc_ins s.data.toList i c]
    congr 1
    exact ins_list s i c
  have HZ : Hid ((s.extract 0 i ++ one c ++ s.extract i s.size).size ≤ 2097152) := by
    show (s.extract 0 i ++ one c ++ s.extract i s.size).size ≤ 2097152
    have z2 : (one c).size = 1 := rfl
    simp only [ByteArray.size_append, ByteArray.size_extract, z2]
    omega
  go_enter Tryf.func4, Tryf.ntmps4
  go_upto_region 7 with (go_at_call 7; refine same HB.out ?_)
  have e1 := conv_one (w.alloc (Obj.cells #[.int .u8 (c.toNat : Int)] 5)).drew c w.heap.size 1 (by go_simp)
  have z1 : (s.extract 0 i).size = i := by simp; omega
  have z2 : (one c).size = 1 := rfl
  have z3 : (s.extract i s.size).size = s.size - i := by simp
  have k1 : ∀ w, (Op.stringOp .add (s.extract 0 i) (one c)).run Tryf.prog w = .ok (.string (s.extract 0 i ++ one c)) w := fun w => run_string_add_sum w _ _ (by omega)
  have k2 : ∀ w, (Op.stringOp .add (s.extract 0 i ++ one c) (s.extract i s.size)).run Tryf.prog w = .ok (.string (s.extract 0 i ++ one c ++ s.extract i s.size)) w := fun w => run_string_add_sum w _ _ (by rw [ByteArray.size_append]; omega)
  clear z1 z2 z3
  go_region
  clear e1 k1 k2
  generalize s.extract 0 i ++ one c ++ s.extract i s.size = t at *
  have CC : Hid (∀ (t : ByteArray) w1 Q, t.size ≤ 2097152 → Below w.heap.size w w1 → (∀ v w', IsNil (acc t.data.toList) v → Below w.heap.size w w' → Q (.returned v) w') → Calls Tryf.prog 6 #[.string t] w1 Q) := fun t w1 Q hz hB hq => check_v F t w w1 hB HF.out hz hq
  clear HF HB
  have HL : Hid (Below w.heap.size w (w.alloc (Obj.cells #[.int .u8 (c.toNat : Int)] 5)).drew) := ((Below.refl _ _).alloc (Nat.le_refl _) _).drew
  have hcn := conv_new c
  go_wp2_with fail
  refine CC.out t _ _ HZ.out HL.out ?_
  intro v1 w1 q1 B1
  obtain ⟨q1, g1⟩ := q1
  have HB1 : Hid (Below w.heap.size w w1) := B1
  clear B1 HL
  have hp : part s.data.toList = (s.toList.isEmpty || acc s.data.toList) := by rw [toList_nil]; rfl
  rw [hp] at HT
  clear hp
  generalize acc t.data.toList = A at *
  generalize hPS : acc s.data.toList = PS at *
  have HPS : Hid (acc s.data.toList = PS) := hPS
  clear hPS
  generalize ea : s.toList.isEmpty = ta at *
  have CO : Hid (∀ w1 Q, Below w.heap.size w w1 → (∀ v w', IsNil (okN c.toNat) v → Below w.heap.size w w' → Q (.returned v) w') → Calls Tryf.prog 6 #[.string (one c)] w1 Q) := fun w1 Q hB hq => CC.out (one c) w1 Q (by show 1 ≤ 2097152; omega) hB (by rw [acc_one]; exact hq)
  generalize okN c.toNat = O at *
  generalize hlt : decide (s.size < 64) = lt at *
  cases ta
  rotate_left
  · -- s is empty
    go_upto_region 11 with (go_at_call 6; refine CO.out _ _ (HB1.out.alloc HB1.out.size _) ?_; intro v2 w2 q2 B2; obtain ⟨q2, g2⟩ := q2; have HB2 : Hid (Below w.heap.size w w2) := B2; clear B2)
    have hl : s.size < 64 := by
      have := List.isEmpty_iff.1 ea
      rw [← len_list, ← ByteArray.toList_eq, this]; decide
    obtain rfl : A = O := by have h := HT.out; rw [← hlt] at h; rw [h]; simp [hl]
    clear HT hlt
    go_wp2_with fail
    go_loopw [12, 13] (fun cn b wr => ∃ k : Nat, k ≤ 256 ∧ b = .int .i64 k ∧ cn = .int .i64 (cntN k : Nat) ∧ Hid (Below w.heap.size w wr)) (fun _ b _ => 256 - (intOf b).toNat)
    case atStart => exact ⟨0, by omega, rfl, rfl, HB2⟩
    case round =>
      obtain ⟨k, hk, rfl, rfl, hB⟩ := hrel
      by_cases hlt : k < 256
      · have hu : (UInt8.ofNat k).toNat = k := by rw [UInt8.toNat_ofNat']; exact Nat.mod_eq_of_lt (by omega)
        have hcn := conv_new (UInt8.ofNat k)
        have hle := cntN_le k
        have CK : Hid (∀ w1 Q, Below w.heap.size w w1 → (∀ v w', IsNil (okN k) v → Below w.heap.size w w' → Q (.returned v) w') → Calls Tryf.prog 6 #[.string (one (UInt8.ofNat k))] w1 Q) := fun w1 Q hB hq => CC.out (one (UInt8.ofNat k)) w1 Q (by show 1 ≤ 2097152; omega) hB (by rw [acc_one, hu]; exact hq)
        rw [hu] at hcn
        clear hu CC
        have HS : Hid (cntN (k + 1) = cntN k + if okN k then 1 else 0) := rfl
        cases hok : okN k with
        | false =>
          rw [hok] at CK HS
          clear hok
          go_wp2_with (go_at_call 6; refine CK.out _ _ (hB.out.alloc hB.out.size _) ?_; intro v9 w9 q9 B9; obtain ⟨q9, g9⟩ := q9; have HB9 : Hid (Below w.heap.size w w9) := B9; clear B9)
          go_roundw
          case rel => exact ⟨k + 1, by omega, by go_num, by rw [HS.out]; rfl, HB9⟩
          case measure => simp [intOf]; omega
        | true =>
          rw [hok] at CK HS
          clear hok
          go_wp2_with (go_at_call 6; refine CK.out _ _ (hB.out.alloc hB.out.size _) ?_; intro v9 w9 q9 B9; obtain ⟨q9, g9⟩ := q9; have HB9 : Hid (Below w.heap.size w w9) := B9; clear B9)
          go_roundw
          case rel => exact ⟨k + 1, by omega, by go_num, by rw [HS.out]; go_num, HB9⟩
          case measure => simp [intOf]; omega
      · obtain rfl : k = 256 := by omega
        rw [cntN_256]
        go_wp2
        go_ret
        exact ⟨rfl, hB.out⟩
  · go_upto_region 10 with fail
    refine CC.out s _ _ (by omega) HB1.out ?_
    intro v2 w2 q2 B2
    rw [HPS.out] at q2
    obtain ⟨q2, g2⟩ := q2
    have HB2 : Hid (Below w.heap.size w w2) := B2
    clear B2
    go_upto_region 11 with (go_at_call 6; refine CO.out _ _ (HB2.out.alloc HB2.out.size _) ?_; intro v3 w3 q3 B3; obtain ⟨q3, g3⟩ := q3; have HB3 : Hid (Below w.heap.size w w3) := B3; clear B3)
    have hj := HT.out
    clear HT
    cases PS
    · obtain rfl : A = false := by rw [hj]; rfl
      clear hj hlt
      go_wp2_with fail
      go_loopw [12, 13] (fun cn b wr => ∃ k : Nat, k ≤ 256 ∧ b = .int .i64 k ∧ cn = .int .i64 (cntN k : Nat) ∧ Hid (Below w.heap.size w wr)) (fun _ b _ => 256 - (intOf b).toNat)
      case atStart => exact ⟨0, by omega, rfl, rfl, HB3⟩
      case round =>
        obtain ⟨k, hk, rfl, rfl, hB⟩ := hrel
        by_cases hlt : k < 256
        · have hu : (UInt8.ofNat k).toNat = k := by rw [UInt8.toNat_ofNat']; exact Nat.mod_eq_of_lt (by omega)
          have hcn := conv_new (UInt8.ofNat k)
          have hle := cntN_le k
          have CK : Hid (∀ w1 Q, Below w.heap.size w w1 → (∀ v w', IsNil (okN k) v → Below w.heap.size w w' → Q (.returned v) w') → Calls Tryf.prog 6 #[.string (one (UInt8.ofNat k))] w1 Q) := fun w1 Q hB hq => CC.out (one (UInt8.ofNat k)) w1 Q (by show 1 ≤ 2097152; omega) hB (by rw [acc_one, hu]; exact hq)
          rw [hu] at hcn
          clear hu CC
          have HS : Hid (cntN (k + 1) = cntN k + if okN k then 1 else 0) := rfl
          cases hok : okN k with
          | false =>
            rw [hok] at CK HS
            clear hok
            go_wp2_with (go_at_call 6; refine CK.out _ _ (hB.out.alloc hB.out.size _) ?_; intro v9 w9 q9 B9; obtain ⟨q9, g9⟩ := q9; have HB9 : Hid (Below w.heap.size w w9) := B9; clear B9)
            go_roundw
            case rel => exact ⟨k + 1, by omega, by go_num, by rw [HS.out]; rfl, HB9⟩
            case measure => simp [intOf]; omega
          | true =>
            rw [hok] at CK HS
            clear hok
            go_wp2_with (go_at_call 6; refine CK.out _ _ (hB.out.alloc hB.out.size _) ?_; intro v9 w9 q9 B9; obtain ⟨q9, g9⟩ := q9; have HB9 : Hid (Below w.heap.size w w9) := B9; clear B9)
            go_roundw
            case rel => exact ⟨k + 1, by omega, by go_num, by rw [HS.out]; go_num, HB9⟩
            case measure => simp [intOf]; omega
        · obtain rfl : k = 256 := by omega
          rw [cntN_256]
          go_wp2
          go_ret
          exact ⟨rfl, hB.out⟩
    · by_cases hl : s.size < 64
      · obtain rfl : A = O := by rw [hj, ← hlt]; simp [hl]
        clear hj hlt
        go_wp2_with fail
        go_loopw [12, 13] (fun cn b wr => ∃ k : Nat, k ≤ 256 ∧ b = .int .i64 k ∧ cn = .int .i64 (cntN k : Nat) ∧ Hid (Below w.heap.size w wr)) (fun _ b _ => 256 - (intOf b).toNat)
        case atStart => exact ⟨0, by omega, rfl, rfl, HB3⟩
        case round =>
          obtain ⟨k, hk, rfl, rfl, hB⟩ := hrel
          by_cases hlt : k < 256
          · have hu : (UInt8.ofNat k).toNat = k := by rw [UInt8.toNat_ofNat']; exact Nat.mod_eq_of_lt (by omega)
            have hcn := conv_new (UInt8.ofNat k)
            have hle := cntN_le k
            have CK : Hid (∀ w1 Q, Below w.heap.size w w1 → (∀ v w', IsNil (okN k) v → Below w.heap.size w w' → Q (.returned v) w') → Calls Tryf.prog 6 #[.string (one (UInt8.ofNat k))] w1 Q) := fun w1 Q hB hq => CC.out (one (UInt8.ofNat k)) w1 Q (by show 1 ≤ 2097152; omega) hB (by rw [acc_one, hu]; exact hq)
            rw [hu] at hcn
            clear hu CC
            have HS : Hid (cntN (k + 1) = cntN k + if okN k then 1 else 0) := rfl
            cases hok : okN k with
            | false =>
              rw [hok] at CK HS
              clear hok
              go_wp2_with (go_at_call 6; refine CK.out _ _ (hB.out.alloc hB.out.size _) ?_; intro v9 w9 q9 B9; obtain ⟨q9, g9⟩ := q9; have HB9 : Hid (Below w.heap.size w w9) := B9; clear B9)
              go_roundw
              case rel => exact ⟨k + 1, by omega, by go_num, by rw [HS.out]; rfl, HB9⟩
              case measure => simp [intOf]; omega
            | true =>
              rw [hok] at CK HS
              clear hok
              go_wp2_with (go_at_call 6; refine CK.out _ _ (hB.out.alloc hB.out.size _) ?_; intro v9 w9 q9 B9; obtain ⟨q9, g9⟩ := q9; have HB9 : Hid (Below w.heap.size w w9) := B9; clear B9)
              go_roundw
              case rel => exact ⟨k + 1, by omega, by go_num, by rw [HS.out]; go_num, HB9⟩
              case measure => simp [intOf]; omega
          · obtain rfl : k = 256 := by omega
            rw [cntN_256]
            go_wp2
            go_ret
            exact ⟨rfl, hB.out⟩
      · obtain rfl : A = false := by rw [hj, ← hlt]; simp [hl]
        clear hj hlt
        go_wp2_with fail
        go_loopw [12, 13] (fun cn b wr => ∃ k : Nat, k ≤ 256 ∧ b = .int .i64 k ∧ cn = .int .i64 (cntN k : Nat) ∧ Hid (Below w.heap.size w wr)) (fun _ b _ => 256 - (intOf b).toNat)
        case atStart => exact ⟨0, by omega, rfl, rfl, HB3⟩
        case round =>
          obtain ⟨k, hk, rfl, rfl, hB⟩ := hrel
          by_cases hlt : k < 256
          · have hu : (UInt8.ofNat k).toNat = k := by rw [UInt8.toNat_ofNat']; exact Nat.mod_eq_of_lt (by omega)
            have hcn := conv_new (UInt8.ofNat k)
            have hle := cntN_le k
            have CK : Hid (∀ w1 Q, Below w.heap.size w w1 → (∀ v w', IsNil (okN k) v → Below w.heap.size w w' → Q (.returned v) w') → Calls Tryf.prog 6 #[.string (one (UInt8.ofNat k))] w1 Q) := fun w1 Q hB hq => CC.out (one (UInt8.ofNat k)) w1 Q (by show 1 ≤ 2097152; omega) hB (by rw [acc_one, hu]; exact hq)
            rw [hu] at hcn
            clear hu CC
            have HS : Hid (cntN (k + 1) = cntN k + if okN k then 1 else 0) := rfl
            cases hok : okN k with
            | false =>
              rw [hok] at CK HS
              clear hok
              go_wp2_with (go_at_call 6; refine CK.out _ _ (hB.out.alloc hB.out.size _) ?_; intro v9 w9 q9 B9; obtain ⟨q9, g9⟩ := q9; have HB9 : Hid (Below w.heap.size w w9) := B9; clear B9)
              go_roundw
              case rel => exact ⟨k + 1, by omega, by go_num, by rw [HS.out]; rfl, HB9⟩
              case measure => simp [intOf]; omega
            | true =>
              rw [hok] at CK HS
              clear hok
              go_wp2_with (go_at_call 6; refine CK.out _ _ (hB.out.alloc hB.out.size _) ?_; intro v9 w9 q9 B9; obtain ⟨q9, g9⟩ := q9; have HB9 : Hid (Below w.heap.size w w9) := B9; clear B9)
              go_roundw
              case rel => exact ⟨k + 1, by omega, by go_num, by rw [HS.out]; go_num, HB9⟩
              case measure => simp [intOf]; omega
          · obtain rfl : k = 256 := by omega
            rw [cntN_256]
            go_wp2
            go_ret
            exact ⟨rfl, hB.out⟩

theorem ins_walk (F : Interp) (s : ByteArray) (i : Int) (c : UInt8) (w : World) (hF : F.answers w.tape) (hs : s.size ≤ maxLen) :
    Calls Tryf.prog 4 #[.string s, .int .i64 i, .int .u8 (c.toNat : Int)] w fun e w' => e = .returned (.bool true) ∧ Below w.heap.size w w' := by
  by_cases h : s.size ≤ 1048576
  · by_cases hi : i < 0 ∨ (s.size : Int) < i
    · exact ins_out s i _ w h hi
    · obtain ⟨n, rfl⟩ : ∃ n : Nat, i = n := ⟨i.toNat, by omega⟩
      exact ins_in F s n c w hF h (by omega)
  · exact ins_long s i _ w hs (by omega)
end Go.Proofs.Qxb6627622aFmt
