/-
  HOW A SLICE OF FLOATS THAT CAME IN IS READ.
-/
import Derived.Test.Qxb6627529aLeaf
import Derived.ProofKit
import Derived.ChangeOld
import Derived.Below
import Derived.Deep.Slices
namespace Go.Proofs.Qxb6627529a
open Go.ChangeShapes Go.WideShapes Go.ChangeAt Go.RowKit

theorem trod_float {H : Type} {enc : TypeId × Value → H} {P : Program} {w : World} {base : Nat} {spare : Nat → Bool} {held : Bool} {k : FloatKind} {t : TypeId} {fuel : Nat} {cs : List Value} {x : DataW H × List MemPlace} (ht : P.underlying t = some (.float k)) (h : DataW.trod enc P w base spare held fuel t cs = some x) : ∃ n, cs = [.float k n] := by
  cases fuel with
  | zero => simp [DataW.trod] at h
  | succ n =>
    unfold DataW.trod at h
    rw [ht] at h
    split at h <;> simp_all

theorem view_floats {H : Type} {enc : TypeId × Value → H} {W : World} {a : Option Addr} {len cap : Nat} {d : DataW H} {p : List MemPlace} (h : DataW.Trod enc Try.prog W 0 (fun _ => true) true 22 (.slice a len cap) d p) :
    (a = none → len = 0) ∧ len ≤ maxLen ∧ ∃ ws, Reads W a len ws := by
  obtain ⟨fuel, hf⟩ := h
  rcases Deep.open_slice1 Try.underlying22 (by kernel_rfl) hf with ⟨hcs, _⟩ | ⟨x, l, c, m, n, V, D, Pl, hcs, _, hl, hm, hmm, _, hV⟩
  · simp [Value.cells] at hcs
    obtain ⟨rfl, rfl, rfl⟩ := hcs
    exact ⟨fun _ => rfl, Nat.zero_le _, [], rfl, .inl rfl⟩
  · simp [Value.cells] at hcs
    obtain ⟨rfl, rfl, rfl⟩ := hcs
    refine ⟨(by intro h; cases h), Nat.le_trans hl hm, ?_⟩
    have hmc : m = cap := by simpa using hmm
    have hbits : ∀ i, i < len → ∃ b, V i = .float .f64 b := by
      intro i hi
      obtain ⟨_, h2⟩ := hV i (by omega)
      obtain ⟨b, hb⟩ := trod_float Try.underlying23 h2
      exact ⟨b, by simpa using hb⟩
    obtain ⟨F, hF⟩ := Deep.choose_lt hbits
    refine ⟨(List.range len).map F, by simp, ?_⟩
    by_cases h0 : len = 0
    · exact .inl h0
    · obtain ⟨b, off, spot⟩ := x
      have hc0 := (hV 0 (by omega)).1
      have hspot : spot = none := by simpa [Addr.add] using World.cell?_spot hc0
      subst hspot
      refine .inr ⟨b, off, rfl, fun j hj => ?_⟩
      have hc := (hV j (by omega)).1
      rw [hF j hj] at hc
      have e : (⟨b, off, none⟩ : Addr).add j = ⟨b, off + j, none⟩ := by
        unfold Addr.add
        split
        · rename_i h; subst h; rfl
        · rfl
      rw [e] at hc
      rw [hc]
      simp [List.getD, hj]

theorem own : ownKnob Try.prog.godebug = none := by kernel_rfl
theorem laidOut : laidOutB Try.prog = true := by kernel_rfl
end Go.Proofs.Qxb6627529a
