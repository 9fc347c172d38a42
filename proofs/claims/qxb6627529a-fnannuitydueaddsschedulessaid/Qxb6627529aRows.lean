/-
  No cell of these rows narrows 'for every input' (looked for: loops, veiled, ifaces, maps, wideKeys, modest, calm, conditions, laid).
  DERIVED. THE GIVEN ROWS OF THIS SEAT. 2 by the template 'for every input the law returns true; each argument reads behind the call as it read before'; 0 by the template 'total and deterministic' (their statements: Qxb6627529aTotals.lean).
  GIVEN WITH THE SEED: the statements are not yours to turn. If you find one false, say at which input.
  Laid BY PROGRAM, IN A SANDBOX (cutbox-rows.mjs): the forced cells as the released guide's own fill.sh prints them over the translation 69337d4e1af04877… (all of the seat's roots in one cut). By AI agents, Wed Nov 11 2026. No macro, syntax, notation, axiom, sorry.
-/
import Derived.Test.Qxb6627529aChecked
import GoSem.Claim
import GoSem.ClaimJoined
import GoSem.ClaimMapViews
import Derived.JoinedTies
import Derived.KernelRfl
namespace Go.Proofs.Qxb6627529a
/- THE CELL 'sum', in the pinned program and in every row, IS THE sha256 OF THE DUMP (.gsa) THAT Qxb6627529aProg.lean LOADS. Nothing in Lean hashes anything: it is a label: what it is worth is what the hold of that sum in a sandbox is worth. -/
noncomputable def Try.pinned : Pinned := { name := "qxb6627529a", sum := "69337d4e1af0487730071f0b99a8148b3947225d37c8cb44949b2147a9859e1e", checked := Try.checked }
namespace Rows
def none {H : Type} : Left H := { results := [], args := [] }

/-- 'zzlaws_pkg_actuarial_b1.FnAnnuityDueSplitsAtAnyCut': WHATEVER THE INPUT: true; the input reads as it did. -/
def fnAnnuityDueSplitsAtAnyCutSpec : ChangeSpec := { name := "fnAnnuityDueSplitsAtAnyCut", fn := fun _ => fun
  | [d1, d2, d3] => { results := [.lit (.bool true)], args := [d1, d2, d3] }
  | _ => none }
def fnAnnuityDueSplitsAtAnyCutRow : OpenClaim := { program := "qxb6627529a", sum := "69337d4e1af0487730071f0b99a8148b3947225d37c8cb44949b2147a9859e1e", func := "example.com/ballast/ballast/zzlaws_pkg_actuarial_b1.FnAnnuityDueSplitsAtAnyCut", spec := "fnAnnuityDueSplitsAtAnyCut", apart := false }
def FnAnnuityDueSplitsAtAnyCutSaid : Prop := fnAnnuityDueSplitsAtAnyCutRow.holds Try.pinned (OpenSpec.ofChange fnAnnuityDueSplitsAtAnyCutSpec)

/-- ITS FALSE NEIGHBOUR: 'it returns false'. Refute it at one input. -/
def fnAnnuityDueSplitsAtAnyCutWrong : ChangeSpec := { name := "fnAnnuityDueSplitsAtAnyCut", fn := fun _ => fun
  | [d1, d2, d3] => { results := [.lit (.bool false)], args := [d1, d2, d3] }
  | _ => none }
def FnAnnuityDueSplitsAtAnyCutWrongFalsely : Prop := fnAnnuityDueSplitsAtAnyCutRow.holds Try.pinned (OpenSpec.ofChange fnAnnuityDueSplitsAtAnyCutWrong)

/-- 'zzlaws_pkg_actuarial_b1.FnAnnuityDueAddsSchedules': WHATEVER THE INPUT: true; the input reads as it did. -/
def fnAnnuityDueAddsSchedulesSpec : ChangeSpec := { name := "fnAnnuityDueAddsSchedules", fn := fun _ => fun
  | [d1, d2, d3] => { results := [.lit (.bool true)], args := [d1, d2, d3] }
  | _ => none }
def fnAnnuityDueAddsSchedulesRow : OpenClaim := { program := "qxb6627529a", sum := "69337d4e1af0487730071f0b99a8148b3947225d37c8cb44949b2147a9859e1e", func := "example.com/ballast/ballast/zzlaws_pkg_actuarial_b1.FnAnnuityDueAddsSchedules", spec := "fnAnnuityDueAddsSchedules", apart := false }
def FnAnnuityDueAddsSchedulesSaid : Prop := fnAnnuityDueAddsSchedulesRow.holds Try.pinned (OpenSpec.ofChange fnAnnuityDueAddsSchedulesSpec)

/-- ITS FALSE NEIGHBOUR: 'it returns false'. Refute it at one input. -/
def fnAnnuityDueAddsSchedulesWrong : ChangeSpec := { name := "fnAnnuityDueAddsSchedules", fn := fun _ => fun
  | [d1, d2, d3] => { results := [.lit (.bool false)], args := [d1, d2, d3] }
  | _ => none }
def FnAnnuityDueAddsSchedulesWrongFalsely : Prop := fnAnnuityDueAddsSchedulesRow.holds Try.pinned (OpenSpec.ofChange fnAnnuityDueAddsSchedulesWrong)

end Rows
end Go.Proofs.Qxb6627529a
