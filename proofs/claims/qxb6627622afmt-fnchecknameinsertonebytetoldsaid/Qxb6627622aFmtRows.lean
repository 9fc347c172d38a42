/-
  No cell of these rows narrows 'for every input' (looked for: loops, veiled, ifaces, maps, wideKeys, modest, calm, conditions, laid).
  DERIVED. THE GIVEN ROWS OF THIS SEAT. 2 by the template 'for every input the law returns true; each argument reads behind the call as it read before'; 0 by the template 'total and deterministic' (their statements: Qxb6627622aFmtTotals.lean).
  GIVEN WITH THE SEED: the statements are not yours to turn. If you find one false, say at which input.
  Laid BY PROGRAM, IN A SANDBOX (cutbox-rows.mjs): the forced cells as the released guide's own fill.sh prints them over the translation ec42d068327d4d6b… (all of the seat's roots in one cut). By AI agents, Wed Nov 11 2026. No macro, syntax, notation, axiom, sorry.
-/
import Derived.Test.Qxb6627622aFmtChecked
import GoSem.Claim
import GoSem.ClaimJoined
import GoSem.ClaimMapViews
import Derived.JoinedTies
import Derived.KernelRfl
namespace Go.Proofs.Qxb6627622aFmt
/- THE CELL 'sum', in the pinned program and in every row, IS THE sha256 OF THE DUMP (.gsa) THAT Qxb6627622aFmtProg.lean LOADS. Nothing in Lean hashes anything: it is a label: what it is worth is what the hold of that sum in a sandbox is worth. -/
noncomputable def Tryf.pinned : Pinned := { name := "qxb6627622afmt", sum := "ec42d068327d4d6b57ed2ab14f4ae52ca12b594ebbb0f9aad0f74fd20d3ad597", checked := Tryf.checked }
namespace Rows
def none {H : Type} : Left H := { results := [], args := [] }

/-- 'zzlaws_internal_pricing_b1.FnCheckNameJoin': WHATEVER THE INPUT: true; the input reads as it did. -/
def fnCheckNameJoinSpec : ChangeSpec := { name := "fnCheckNameJoin", fn := fun _ => fun
  | [d1, d2] => { results := [.lit (.bool true)], args := [d1, d2] }
  | _ => none }
def fnCheckNameJoinRow : OpenClaim := { program := "qxb6627622afmt", sum := "ec42d068327d4d6b57ed2ab14f4ae52ca12b594ebbb0f9aad0f74fd20d3ad597", func := "example.com/settlement/settlement/zzlaws_internal_pricing_b1.FnCheckNameJoin", spec := "fnCheckNameJoin", stops := ["fmt.errorf"], inPlace := ["fmt.errorf"], apart := false }
/-- NO THEOREM (fmt's text is open here; it may be false): for the released tool's asking of the row's closed facts alone. THE STATEMENT IS 'FnCheckNameJoinToldSaid' (Qxb6627622aFmtCards.lean). -/
def FnCheckNameJoinFormAsk : Prop := fnCheckNameJoinRow.holds Tryf.pinned (OpenSpec.ofChange fnCheckNameJoinSpec)

/-- ITS FALSE NEIGHBOUR: 'it returns false'. Refute it at one input. -/
def fnCheckNameJoinWrong : ChangeSpec := { name := "fnCheckNameJoin", fn := fun _ => fun
  | [d1, d2] => { results := [.lit (.bool false)], args := [d1, d2] }
  | _ => none }
def FnCheckNameJoinWrongFormAsk : Prop := fnCheckNameJoinRow.holds Tryf.pinned (OpenSpec.ofChange fnCheckNameJoinWrong)

/-- 'zzlaws_internal_pricing_b1.FnCheckNameInsertOneByte': WHATEVER THE INPUT: true; the input reads as it did. -/
def fnCheckNameInsertOneByteSpec : ChangeSpec := { name := "fnCheckNameInsertOneByte", fn := fun _ => fun
  | [d1, d2, d3] => { results := [.lit (.bool true)], args := [d1, d2, d3] }
  | _ => none }
def fnCheckNameInsertOneByteRow : OpenClaim := { program := "qxb6627622afmt", sum := "ec42d068327d4d6b57ed2ab14f4ae52ca12b594ebbb0f9aad0f74fd20d3ad597", func := "example.com/settlement/settlement/zzlaws_internal_pricing_b1.FnCheckNameInsertOneByte", spec := "fnCheckNameInsertOneByte", stops := ["fmt.errorf"], inPlace := ["fmt.errorf"], apart := false }
/-- NO THEOREM (fmt's text is open here; it may be false): for the released tool's asking of the row's closed facts alone. THE STATEMENT IS 'FnCheckNameInsertOneByteToldSaid' (Qxb6627622aFmtCards.lean). -/
def FnCheckNameInsertOneByteFormAsk : Prop := fnCheckNameInsertOneByteRow.holds Tryf.pinned (OpenSpec.ofChange fnCheckNameInsertOneByteSpec)

/-- ITS FALSE NEIGHBOUR: 'it returns false'. Refute it at one input. -/
def fnCheckNameInsertOneByteWrong : ChangeSpec := { name := "fnCheckNameInsertOneByte", fn := fun _ => fun
  | [d1, d2, d3] => { results := [.lit (.bool false)], args := [d1, d2, d3] }
  | _ => none }
def FnCheckNameInsertOneByteWrongFormAsk : Prop := fnCheckNameInsertOneByteRow.holds Tryf.pinned (OpenSpec.ofChange fnCheckNameInsertOneByteWrong)

end Rows
end Go.Proofs.Qxb6627622aFmt
