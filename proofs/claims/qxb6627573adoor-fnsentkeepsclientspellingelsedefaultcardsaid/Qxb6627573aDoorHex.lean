/-
  THE WALKS of the functions on one byte, and of the Builder's WriteByte.
-/
import Derived.Test.Qxb6627573aDoorRows
import Derived.Test.Qxb6627573aDoorPct
import Derived.Test.Qxb6627573aDoorShelf
import Derived.WalkKit
import Derived.WalkSpells
import Derived.WalkLawsBesides
import Derived.Deep.QuietTactic
import Derived.BigQuiet
namespace Go.Proofs.Qxb6627573aDoor
open Go.RowKit Pct

theorem ret2 {a b : Int} {x y : Bool} (h : a = b) (g : x = y) : Ending.returned (.tuple #[.int .u8 a, .bool x]) = .returned (.tuple #[.int .u8 b, .bool y]) := by rw [h, g]
theorem ret_bool {a b : Bool} (h : a = b) : Ending.returned (.bool a) = .returned (.bool b) := by rw [h]
theorem ret_u8 {a b : Int} (h : a = b) : Ending.returned (.int .u8 a) = .returned (.int .u8 b) := by rw [h]
theorem same {f : FuncId} {args : Array Value} {w : World} {v : Ending} {Q : Ending → World → Prop} (h : Calls Tryd.prog f args w fun e w' => e = v ∧ w' = w) (hq : Q v w) : Calls Tryd.prog f args w Q :=
  h.mono fun e w' ⟨he, hw⟩ => by rw [he, hw]; exact hq

set_option maxHeartbeats 400000 in
theorem unhex_zz (n : Nat) (w : World) (hn : n < 256) :
    Calls Tryd.prog 12 #[.int .u8 (n : Int)] w fun e w' => e = .returned (.tuple #[.int .u8 (hvN n : Nat), .bool (isHexN n)]) ∧ w' = w := by
  rcases (show (48 ≤ n ∧ n ≤ 57) ∨ (97 ≤ n ∧ n ≤ 102) ∨ (65 ≤ n ∧ n ≤ 70) ∨ (n < 48 ∨ (57 < n ∧ n < 65) ∨ (70 < n ∧ n < 97) ∨ 102 < n) by omega) with ⟨h1, h2⟩ | ⟨h1, h2⟩ | ⟨h1, h2⟩ | h
  · go_enter Tryd.func12, Tryd.ntmps12
    go_wp2
    go_ret2
    exact ⟨ret2 (by unfold hvN; rw [if_pos (by omega)]; omega) (by simp [isHexN, h1, h2]), rfl⟩
  · go_enter Tryd.func12, Tryd.ntmps12
    go_wp2
    go_ret2
    exact ⟨ret2 (by unfold hvN; rw [if_neg (by omega), if_pos (by omega)]; omega) (by simp [isHexN, h1, h2]), rfl⟩
  · go_enter Tryd.func12, Tryd.ntmps12
    go_wp2
    go_ret2
    exact ⟨ret2 (by unfold hvN; rw [if_neg (by omega), if_neg (by omega), if_pos (by omega)]; omega) (by simp [isHexN, h1, h2]), rfl⟩
  · have e1 : hvN n = 0 := by unfold hvN; rw [if_neg (by omega), if_neg (by omega), if_neg (by omega)]
    have e2 : isHexN n = false := by unfold isHexN; simp; omega
    rw [e1, e2]
    clear e1 e2
    rcases h with h | ⟨h1, h2⟩ | ⟨h1, h2⟩ | h
    all_goals
      go_enter Tryd.func12, Tryd.ntmps12
      go_wp2
      go_ret2
      exact ⟨rfl, rfl⟩

set_option maxHeartbeats 400000 in
theorem upper_any (n : Nat) (w : World) (hn : n < 256) :
    Calls Tryd.prog 11 #[.int .u8 (n : Int)] w fun e w' => e = .returned (.bool (upHexN n)) ∧ w' = w := by
  rcases (show (48 ≤ n ∧ n ≤ 57) ∨ (65 ≤ n ∧ n ≤ 70) ∨ (n < 48 ∨ (57 < n ∧ n < 65) ∨ 70 < n) by omega) with ⟨h1, h2⟩ | ⟨h1, h2⟩ | h
  · have e : upHexN n = true := by simp [upHexN, h1, h2]
    rw [e]; clear e
    go_enter Tryd.func11, Tryd.ntmps11
    go_wp2
    go_ret
    exact ⟨ret_bool (by first | rfl | (simp; omega)), rfl⟩
  · have e : upHexN n = true := by simp [upHexN, h1, h2]
    rw [e]; clear e
    go_enter Tryd.func11, Tryd.ntmps11
    go_wp2
    go_ret
    exact ⟨ret_bool (by first | rfl | (simp; omega)), rfl⟩
  · have e2 : upHexN n = false := by unfold upHexN; simp; omega
    rw [e2]; clear e2
    rcases h with h | ⟨h1, h2⟩ | h
    all_goals
      go_enter Tryd.func11, Tryd.ntmps11
      go_wp2
      go_ret
      exact ⟨ret_bool (by first | rfl | (simp; omega)), rfl⟩

set_option maxHeartbeats 1000000 in
theorem kept_any (n : Nat) (w : World) (hn : n < 256) :
    Calls Tryd.prog 13 #[.int .u8 (n : Int)] w fun e w' => e = .returned (.bool (keptN n)) ∧ w' = w := by
  generalize hk : keptN n = k
  have hk' : Hid (keptN n = k) := hk
  clear hk
  go_enter Tryd.func13, Tryd.ntmps13
  go_wp2
  all_goals
    go_ret
    refine ⟨ret_bool ?_, rfl⟩
    rw [← hk'.out]
    unfold keptN
    simp only [List.contains_eq_mem, List.mem_cons, List.not_mem_nil, or_false]
    simp at *
    omega
/-! ### The table -/
def tab : List Int := [0, 0, 0, 0, 0, 0, 0, 0, 0, 0, 0, 0, 0, 0, 0, 0, 0, 0, 0, 0, 0, 0, 0, 0, 0, 0, 0, 0, 0, 0, 0, 0, 0, 76, 12, 0, 95, 0, 95, 12, 76, 76, 76, 95, 93, 127, 127, 65, 255, 255, 255, 255, 255, 255, 255, 255, 255, 255, 79, 93, 12, 95, 12, 64, 67, 255, 255, 255, 255, 255, 255, 127, 127, 127, 127, 127, 127, 127, 127, 127, 127, 127, 127, 127, 127, 127, 127, 127, 127, 127, 127, 12, 0, 12, 0, 127, 0, 255, 255, 255, 255, 255, 255, 127, 127, 127, 127, 127, 127, 127, 127, 127, 127, 127, 127, 127, 127, 127, 127, 127, 127, 127, 127, 0, 0, 0, 127, 0] ++ List.replicate 128 0
/-- Package-level variable 0, net/url.table, holds just these. -/
def TabAt (w : World) : Prop := ∀ i, i < 256 → w.cell? ⟨0, i, none⟩ = some (.int .u8 (tab.getD i 0))
theorem TabAt.below {w w' : World} (h : TabAt w) (hb : Below w.heap.size w w') : TabAt w' := by
  intro i hi
  have hlt : 0 < w.heap.size := by
    have := h 0 (by decide)
    unfold World.cell? at this
    simp only at this
    split at this
    · rename_i h; exact (Array.getElem?_eq_some_iff.1 h).1
    · cases this
  rw [hb.cell (by exact hlt)]
  exact h i hi
theorem TabAt.drewN {w : World} (h : TabAt w) (n : Nat) : TabAt (w.drewN n) := fun i hi => by rw [World.cell?_drewN]; exact h i hi

theorem tab_hex (n : Nat) (h : n < 256) : (bits .and .u8 (tab.getD n 0) 128 != 0) = isHexN n := by
  have := List.all_eq_true.1 (show (List.range 256).all (fun n => (bits .and .u8 (tab.getD n 0) 128 != 0) == isHexN n) = true by decide +kernel) n (List.mem_range.2 h)
  simpa using this
theorem tab_kept (n : Nat) (h : n < 256) : (bits .and .u8 (tab.getD n 0) 1 == 0) = !keptN n := by
  have := List.all_eq_true.1 (show (List.range 256).all (fun n => (bits .and .u8 (tab.getD n 0) 1 == 0) == !keptN n) = true by decide +kernel) n (List.mem_range.2 h)
  simpa using this

set_option maxHeartbeats 400000 in
theorem ishex_any (n : Nat) (w : World) (hn : n < 256) (hT : TabAt w) :
    Calls Tryd.prog 19 #[.int .u8 (n : Int)] w fun e w' => e = .returned (.bool (isHexN n)) ∧ w' = w := by
  have hc := hT n hn
  have ht := tab_hex n hn
  generalize isHexN n = b at ht
  generalize tab.getD n 0 = t at hc ht
  clear hT
  go_enter Tryd.func19, Tryd.ntmps19
  go_wp2
  go_ret
  exact ⟨rfl, rfl⟩

set_option maxHeartbeats 400000 in
theorem should_any (n : Nat) (w : World) (hn : n < 256) (hT : TabAt w) :
    Calls Tryd.prog 21 #[.int .u8 (n : Int), .int .u8 1] w fun e w' => e = .returned (.bool (!keptN n)) ∧ w' = w := by
  have hc := hT n hn
  have ht := tab_kept n hn
  generalize (!keptN n) = b at ht
  generalize tab.getD n 0 = t at hc ht
  clear hT
  go_enter Tryd.func21, Tryd.ntmps21
  go_wp2
  go_ret
  exact ⟨rfl, rfl⟩

theorem unhex_val (n : Nat) (hh : isHexN n = true) : 9 * ((n : Int) / 64) + (n : Int) % 16 = (hvN n : Nat) := by
  unfold isHexN at hh
  simp only [Bool.or_eq_true, Bool.and_eq_true, decide_eq_true_eq] at hh
  unfold hvN
  split
  · omega
  · split
    · omega
    · split <;> omega

set_option maxHeartbeats 400000 in
theorem unhex_any (n : Nat) (w : World) (hn : n < 256) (hh : isHexN n = true) :
    Calls Tryd.prog 20 #[.int .u8 (n : Int)] w fun e w' => e = .returned (.int .u8 (hvN n : Nat)) ∧ w' = w := by
  have HV : Hid (9 * ((n : Int) / 64) + (n : Int) % 16 = (hvN n : Nat)) := unhex_val n hh
  clear hh
  go_enter Tryd.func20, Tryd.ntmps20
  go_wp2
  go_ret
  refine ⟨ret_u8 ?_, rfl⟩
  exact HV.out

/-! ### The Builder -/
theorem Tryd.info5 : (Tryd.prog.info? 5).map (fun i => (i.zero, i.size, i.bytes)) = some (some (.int .u8 0), 1, 1) := by kernel_rfl
theorem Tryd.info51 : (Tryd.prog.info? 51).isSome = true := by kernel_rfl
set_option maxHeartbeats 1000000 in
theorem copyCheck_used (b : Nat) (w : World) (h0 : w.cell? ⟨b, 0, none⟩ = some (.pointer (some ⟨b, 0, none⟩))) :
    Calls Tryd.prog 25 #[.pointer (some ⟨b, 0, none⟩)] w fun e w' => e = .returned (.tuple #[]) ∧ w' = w := by
  obtain ⟨j, hj⟩ := Option.isSome_iff_exists.1 Tryd.info51
  go_enter Tryd.func25, Tryd.ntmps25
  go_wp2
  rw [Lib.run_neq_ptr_same w _ Tryd.underlying49 hj]
  go_wp2
  go_end0
  exact ⟨rfl, rfl⟩

set_option maxHeartbeats 2000000 in
set_option maxRecDepth 100000 in
theorem writeByte (B b : Nat) (bs : List Value) (c : Int) (w : World) (h : Lib.BuilderAt 51 5 B b (.pointer (some ⟨b, 0, none⟩)) bs w) (hlen : bs.length + 1 ≤ 140737488355328) (hBw : B ≤ w.heap.size) :
    Calls Tryd.prog 23 #[.pointer (some ⟨b, 0, none⟩), .int .u8 c] w fun e w' => e = .returned .nilIface ∧ Lib.BuilderAt 51 5 B b (.pointer (some ⟨b, 0, none⟩)) (bs ++ [.int .u8 c]) w' ∧ Below B w w' := by
  obtain ⟨i0, hi, hz0, hz1, hz2⟩ := info_parts Tryd.info5
  have hcell0 := h.cell0
  have hblt := h.lt
  obtain ⟨hB, v, hbk, hown, hne⟩ := h
  have c1 : w.cell? ⟨b, 1, none⟩ = some v := by rw [Lib.cell_of_heap hbk]; rfl
  go_enter Tryd.func23, Tryd.ntmps23
  go_wp2_with (first
    | (go_at_call 25; refine same (copyCheck_used b _ hcell0) ?_)
    | (at_builtin; refine wpList_append_own _ rfl _ _ 35 rfl B 5 i0 (.int .u8 0) 1 1 Tryd.underlying35 hi hz0 hz1 hz2 rfl (by decide) _ _ _ rfl (hown.alloc _) ⟨w.heap.size, 0, none⟩ 1 1 [.int .u8 c] rfl rfl ?c1 ?c2 ?c3 ?c4 ?c5 ?_))
  case c1 =>
    intro j u hj
    match j, hj with
    | 0, hj => simp at hj; subst hj; simp [Addr.add]
  case c2 => intro u hu; simp at hu; subst hu; rfl
  case c3 => unfold maxLen; omega
  case c4 => omega
  case c5 => simp; omega
  intro v' w2 hown' hgrow _
  have hb2 : w2.heap[b]? = some (.cells #[.pointer (some ⟨b, 0, none⟩), v] 51 (0, 0)) := by
    rw [hgrow.block b (by simp; omega) (fun e => hne e.symm), Lib.alloc_old w _ b hblt]
    exact hbk
  have d0 : w2.cell? ⟨b, 0, none⟩ = some (.pointer (some ⟨b, 0, none⟩)) := by rw [Lib.cell_of_heap hb2]; rfl
  have d1 : w2.cell? ⟨b, 1, none⟩ = some v := by rw [Lib.cell_of_heap hb2]; rfl
  have f1 : w2.frozen? ⟨b, 1, none⟩ = false := Lib.frozen_of_heap hb2 1
  obtain ⟨g, cap, rfl⟩ : ∃ g cap, v' = .slice (some ⟨g, 0, none⟩) (bs.length + 1) cap := by
    rcases hown'.2 with ⟨_, h0⟩ | ⟨g, cap, cur, hv, _⟩
    · omega
    · exact ⟨g, cap, hv⟩
  go_wp2
  go_ret
  refine ⟨rfl, ?_, ?_⟩
  · exact Lib.BuilderAt.put (T := 51) (e := 5) hB hb2 (bs' := bs ++ [.int .u8 c]) (by simpa using hown') (by decide)
  · exact (((Below.refl B w).alloc hBw _).grown hgrow (by simp; omega) (fun k hk => (hown.lt k hk).1)).setCell (p := ⟨b, 1, none⟩) hB _

end Go.Proofs.Qxb6627573aDoor
