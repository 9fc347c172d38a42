/-
  THE WALKS of zzPercentDecode and of net/url.validEncoded.
-/
import Derived.Test.Qxb6627573aDoorUn
namespace Go.Proofs.Qxb6627573aDoor
open Go.RowKit Pct

def SomeB (e : Ending) : Prop := ∃ b, e = .returned (.bool b)

set_option maxHeartbeats 4000000 in
set_option maxRecDepth 100000 in
theorem valid_any (s : ByteArray) (w : World) (hs : s.size ≤ 2097152) (hT : TabAt w) :
    Calls Tryd.prog 17 #[.string s, .int .u8 1] w fun e w' => SomeB e ∧ w' = w := by
  have HT : Hid (TabAt w) := hT
  clear hT
  go_enter Tryd.func17, Tryd.ntmps17
  go_wp2
  go_loop [5] (fun i => ∃ k : Nat, k ≤ s.size ∧ i = .int .i64 k) (fun i => s.size - (intOf i).toNat)
  case atStart => exact ⟨0, Nat.zero_le _, rfl⟩
  case round =>
    obtain ⟨k, hk, rfl⟩ := hrel
    by_cases hlt : k < s.size
    · obtain ⟨c, hc⟩ : ∃ c, s[k] = c := ⟨_, rfl⟩
      have hcl := u8_lt c
      go_wp2_with (go_at_call 21; refine same (should_any _ _ hcl HT.out) ?_)
      all_goals first
        | (go_ret; exact ⟨⟨_, rfl⟩, rfl⟩)
        | (go_round
           case rel => exact ⟨k + 1, by omega, by go_num⟩
           case measure => simp [intOf]; omega)
    · go_wp2
      go_ret
      exact ⟨⟨_, rfl⟩, rfl⟩

theorem conv_own {w : World} {base : Nat} {v : Value} {bs : List UInt8} (h : w.ownsRow base 5 1 v bs.length (Lib.byteCells bs)) : (convert 35 9 v).run Tryd.prog w = .ok (.string ⟨bs.toArray⟩) w := by
  obtain ⟨_, h⟩ := h
  rcases h with ⟨rfl, h0⟩ | ⟨g, cap, cur, rfl, _, hh, _, _, hs, ht⟩
  · obtain rfl : bs = [] := List.eq_nil_of_length_eq_zero h0
    rw [run_convert_bytes_string w 35 9 5 none 0 0 Tryd.underlying35 Tryd.underlying5 Tryd.underlying9]
    simp [Conv.bytesToString]
    rfl
  · refine run_convert_bytes_back (P := Tryd.prog) w 35 9 5 ⟨g, 0, none⟩ cap bs Tryd.underlying35 Tryd.underlying5 Tryd.underlying9 (fun j hj => ?_)
    have e : (⟨g, 0, none⟩ : Addr).add j = ⟨g, j, none⟩ := by unfold Addr.add; split <;> simp_all
    rw [e]
    have h2 : (cur.toList.take (bs.length * 1))[j]? = some (.int .u8 (bs[j].toNat : Int)) := by rw [ht]; simp [Lib.byteCells, hj]
    rw [List.getElem?_take] at h2
    simp only [Nat.mul_one, hj, if_true] at h2
    simp only [World.cell?, hh]
    simpa using h2

theorem pr_val' (a b : UInt8) : bits .or .u8 (((hvN a.toNat : Nat) : Int) * 16 % 256) ((hvN b.toNat : Nat) : Int) = (((pr a b).toNat : Nat) : Int) := by
  rw [← pr_val, IntKind.wrap_u8]
/-- What zzPercentDecode ends in. -/
def De (s : ByteArray) (e : Ending) : Prop :=
  (∃ t, dec s.data.toList = some t ∧ e = .returned (.tuple #[.string ⟨t.toArray⟩, .bool true])) ∨
  (dec s.data.toList = none ∧ e = .returned (.tuple #[.string ByteArray.empty, .bool false]))

set_option maxHeartbeats 4000000 in
set_option maxRecDepth 100000 in
theorem decode_any (s : ByteArray) (w : World) (hs : s.size ≤ 2097152) :
    Calls Tryd.prog 8 #[.string s] w fun e w' => De s e ∧ Below w.heap.size w w' := by
  obtain ⟨i0, hi, hz0, hz1, hz2⟩ := info_parts Tryd.info5
  go_enter Tryd.func8, Tryd.ntmps8
  go_wp2_with (at_make; refine wpList_make_own _ rfl _ _ 35 rfl w.heap.size 5 i0 (.int .u8 0) 1 Tryd.underlying35 hi hz0 hz1 .i64 .i64 _ s.size rfl rfl rfl (by rw [hz2]; omega) (by unfold maxLen; omega) (Nat.le_refl _) ?_; intro w1 own1 grow1)
  have R0 : Hid (Inv s.data.toList 0 [] ∧ w1.ownsRow w.heap.size 5 1 (.slice (some ⟨w.heap.size, 0, none⟩) 0 s.size) ([] : List UInt8).length (Lib.byteCells []) ∧ Below w.heap.size w w1) := ⟨Inv.start _, own1, (Below.refl _ _).grown grow1 (Nat.le_refl _) (by intro k hk; cases hk)⟩
  clear own1 grow1
  go_loopw [4, 5] (fun b i wr => ∃ (k : Nat) (acc : List UInt8), k ≤ s.size ∧ i = .int .i64 k ∧ acc.length ≤ k ∧ Hid (Inv s.data.toList k acc ∧ wr.ownsRow w.heap.size 5 1 b acc.length (Lib.byteCells acc) ∧ Below w.heap.size w wr)) (fun _ i _ => s.size - (intOf i).toNat)
  case atStart => exact ⟨0, [], Nat.zero_le _, rfl, Nat.le_refl _, R0⟩
  case round =>
    clear R0
    obtain ⟨k, acc, hk, rfl, hal, hR⟩ := hrel
    obtain ⟨hI, hown, hbel⟩ := hR.out
    clear hR
    by_cases hlt : k < s.size
    · obtain ⟨c, hc⟩ : ∃ c, s[k] = c := ⟨_, rfl⟩
      have hcl := u8_lt c
      by_cases h37 : c.toNat = 37
      · obtain rfl : c = 37 := u8_eq h37
        clear h37 hcl
        by_cases hl2 : k + 2 < s.size
        · obtain ⟨a, ha⟩ : ∃ a, s[k + 1] = a := ⟨_, rfl⟩
          obtain ⟨b, hb⟩ : ∃ b, s[k + 2] = b := ⟨_, rfl⟩
          cases hx : (isHexN a.toNat && isHexN b.toNat) with
          | false =>
            have HN : Hid (dec s.data.toList = none) := hI.bad (by rw [len_list]; exact hl2) hc ha hb hx
            clear hI
            cases hxa : isHexN a.toNat with
            | false =>
              clear hx
              go_wp2_with (go_at_call 12; refine same (unhex_zz _ _ (u8_lt _)) ?_)
              all_goals (go_ret2; exact ⟨.inr ⟨HN.out, rfl⟩, hbel⟩)
            | true =>
              have hxb : isHexN b.toNat = false := by rw [hxa] at hx; simpa using hx
              clear hx
              go_wp2_with (go_at_call 12; refine same (unhex_zz _ _ (u8_lt _)) ?_)
              all_goals (go_ret2; exact ⟨.inr ⟨HN.out, rfl⟩, hbel⟩)
          | true =>
            have hxa : isHexN a.toNat = true := by simp at hx; exact hx.1
            have hxb : isHexN b.toNat = true := by simp at hx; exact hx.2
            have HI : Hid (Inv s.data.toList (k + 3) (acc ++ [pr a b])) := hI.step3 (by rw [len_list]; exact hl2) hc ha hb hx
            clear hI hx
            go_wp2_with (first
              | (go_at_call 12; refine same (unhex_zz _ _ (u8_lt _)) ?_)
              | (at_builtin; refine wpList_append_own _ rfl _ _ 35 rfl w.heap.size 5 i0 (.int .u8 0) 1 1 Tryd.underlying35 hi hz0 hz1 hz2 rfl (by decide) _ _ _ rfl (hown.alloc _) ⟨wr.heap.size, 0, none⟩ 1 1 [.int .u8 (((pr a b).toNat : Nat) : Int)] rfl rfl ?c1 ?c2 ?c3 ?c4 ?c5 ?_))
            case c1 =>
              intro j u hj
              match j, hj with
              | 0, hj =>
                simp at hj; subst hj
                rw [← pr_val']
                simp [Addr.add]
            case c2 => intro u hu; simp at hu; subst hu; rfl
            case c3 => unfold maxLen; omega
            case c4 => omega
            case c5 => have := hbel.size; simp; omega
            intro v' w2 hown' hgrow _
            have own2 : w2.ownsRow w.heap.size 5 1 v' (acc ++ [pr a b]).length (Lib.byteCells (acc ++ [pr a b])) := by simpa [Lib.byteCells] using hown'
            have bel2 : Below w.heap.size w w2 := (hbel.alloc hbel.size _).grown hgrow (by have := hbel.size; simp; omega) (fun k hk => (hown.lt k hk).1)
            clear hown' hgrow hown
            go_wp2
            go_roundw
            case rel => exact ⟨k + 3, acc ++ [pr a b], by omega, by go_num, by simp; omega, HI.out, own2, bel2⟩
            case measure => simp [intOf]; omega
        · have HN : Hid (dec s.data.toList = none) := hI.short (by rw [len_list]; exact hlt) (by rw [len_list]; omega) hc
          clear hI
          go_wp2
          all_goals (go_ret2; exact ⟨.inr ⟨HN.out, rfl⟩, hbel⟩)
      · have HI : Hid (Inv s.data.toList (k + 1) (acc ++ [c])) := hI.step1 (by rw [len_list]; exact hlt) hc (u8_ne (by decide) h37)
        clear hI
        go_wp2_with (at_builtin; refine wpList_append_own _ rfl _ _ 35 rfl w.heap.size 5 i0 (.int .u8 0) 1 1 Tryd.underlying35 hi hz0 hz1 hz2 rfl (by decide) _ _ _ rfl (hown.alloc _) ⟨wr.heap.size, 0, none⟩ 1 1 [.int .u8 ((c.toNat : Nat) : Int)] rfl rfl ?d1 ?d2 ?d3 ?d4 ?d5 ?_)
        case d1 =>
          intro j u hj
          match j, hj with
          | 0, hj => simp at hj; subst hj; simp [Addr.add]
        case d2 => intro u hu; simp at hu; subst hu; rfl
        case d3 => unfold maxLen; omega
        case d4 => omega
        case d5 => have := hbel.size; simp; omega
        intro v' w2 hown' hgrow _
        have own2 : w2.ownsRow w.heap.size 5 1 v' (acc ++ [c]).length (Lib.byteCells (acc ++ [c])) := by simpa [Lib.byteCells] using hown'
        have bel2 : Below w.heap.size w w2 := (hbel.alloc hbel.size _).grown hgrow (by have := hbel.size; simp; omega) (fun k hk => (hown.lt k hk).1)
        clear hown' hgrow hown
        go_wp2
        go_roundw
        case rel => exact ⟨k + 1, acc ++ [c], by omega, by go_num, by simp; omega, HI.out, own2, bel2⟩
        case measure => simp [intOf]; omega
    · obtain rfl : k = s.size := by omega
      have HD : Hid (dec s.data.toList = some acc) := hI.done (by rw [len_list]; exact Nat.le_refl _)
      have hcv := conv_own hown
      clear hI hown
      go_wp2_with (simp only [hcv])
      go_ret2
      exact ⟨.inl ⟨_, HD.out, rfl⟩, hbel⟩
end Go.Proofs.Qxb6627573aDoor
