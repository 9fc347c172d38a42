/-
  No cell of these rows narrows 'for every input' (looked for: loops, veiled, ifaces, maps, wideKeys, modest, calm, conditions, laid).
  DERIVED. THE GIVEN ROWS OF THIS SEAT. 2 by the template 'for every input the law returns true; each argument reads behind the call as it read before'; 0 by the template 'total and deterministic' (their statements: Qxb6627658aTotals.lean).
  GIVEN WITH THE SEED: the statements are not yours to turn. If you find one false, say at which input.
  Laid BY PROGRAM, IN A SANDBOX (cutbox-rows.mjs): the forced cells as the released guide's own fill.sh prints them over the translation 3bb7d8a2745a3a6e… (all of the seat's roots in one cut). By AI agents, Wed Nov 11 2026. No macro, syntax, notation, axiom, sorry.
-/
import Derived.Test.Qxb6627658aChecked
import GoSem.Claim
import GoSem.ClaimJoined
import GoSem.ClaimMapViews
import Derived.JoinedTies
import Derived.KernelRfl
namespace Go.Proofs.Qxb6627658a
/- THE CELL 'sum', in the pinned program and in every row, IS THE sha256 OF THE DUMP (.gsa) THAT Qxb6627658aProg.lean LOADS. Nothing in Lean hashes anything: it is a label: what it is worth is what the hold of that sum in a sandbox is worth. -/
noncomputable def Try.pinned : Pinned := { name := "qxb6627658a", sum := "3bb7d8a2745a3a6e96411727f1bb3666586e8027e94618f102e3304062c8c5de", checked := Try.checked }
namespace Rows
def none {H : Type} : Left H := { results := [], args := [] }

/-- 'zzlaws_flow_b1.FnDurationNearestNanosecond': WHATEVER THE INPUT: true; the input reads as it did. -/
def fnDurationNearestNanosecondSpec : ChangeSpec := { name := "fnDurationNearestNanosecond", fn := fun _ => fun
  | [d] => { results := [.lit (.bool true)], args := [d] }
  | _ => none }
def fnDurationNearestNanosecondRow : OpenClaim := { program := "qxb6627658a", sum := "3bb7d8a2745a3a6e96411727f1bb3666586e8027e94618f102e3304062c8c5de", func := "example.com/mayfly/mayfly/zzlaws_flow_b1.FnDurationNearestNanosecond", spec := "fnDurationNearestNanosecond", inPlace := ["math.Float64bits", "math.Float64frombits"], apart := false }
def FnDurationNearestNanosecondSaid : Prop := fnDurationNearestNanosecondRow.holds Try.pinned (OpenSpec.ofChange fnDurationNearestNanosecondSpec)

/-- ITS FALSE NEIGHBOUR: 'it returns false'. Refute it at one input. -/
def fnDurationNearestNanosecondWrong : ChangeSpec := { name := "fnDurationNearestNanosecond", fn := fun _ => fun
  | [d] => { results := [.lit (.bool false)], args := [d] }
  | _ => none }
def FnDurationNearestNanosecondWrongFalsely : Prop := fnDurationNearestNanosecondRow.holds Try.pinned (OpenSpec.ofChange fnDurationNearestNanosecondWrong)

/-- 'zzlaws_flow_b1.FnDurationMonotoneAndSeparating': WHATEVER THE INPUT: true; the input reads as it did. -/
def fnDurationMonotoneAndSeparatingSpec : ChangeSpec := { name := "fnDurationMonotoneAndSeparating", fn := fun _ => fun
  | [d1, d2] => { results := [.lit (.bool true)], args := [d1, d2] }
  | _ => none }
def fnDurationMonotoneAndSeparatingRow : OpenClaim := { program := "qxb6627658a", sum := "3bb7d8a2745a3a6e96411727f1bb3666586e8027e94618f102e3304062c8c5de", func := "example.com/mayfly/mayfly/zzlaws_flow_b1.FnDurationMonotoneAndSeparating", spec := "fnDurationMonotoneAndSeparating", inPlace := ["math.Float64bits", "math.Float64frombits"], apart := false }
def FnDurationMonotoneAndSeparatingSaid : Prop := fnDurationMonotoneAndSeparatingRow.holds Try.pinned (OpenSpec.ofChange fnDurationMonotoneAndSeparatingSpec)

/-- ITS FALSE NEIGHBOUR: 'it returns false'. Refute it at one input. -/
def fnDurationMonotoneAndSeparatingWrong : ChangeSpec := { name := "fnDurationMonotoneAndSeparating", fn := fun _ => fun
  | [d1, d2] => { results := [.lit (.bool false)], args := [d1, d2] }
  | _ => none }
def FnDurationMonotoneAndSeparatingWrongFalsely : Prop := fnDurationMonotoneAndSeparatingRow.holds Try.pinned (OpenSpec.ofChange fnDurationMonotoneAndSeparatingWrong)

end Rows
end Go.Proofs.Qxb6627658a
