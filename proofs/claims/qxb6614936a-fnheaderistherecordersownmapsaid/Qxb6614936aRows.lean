/-
  No cell of these rows narrows 'for every input' (looked for: loops, veiled, ifaces, maps, wideKeys, modest, calm, conditions, laid).
  DERIVED. THE GIVEN ROWS OF THIS SEAT. 4 by the template 'for every input the law returns true; each argument reads behind the call as it read before'; 0 by the template 'total and deterministic' (their statements: Qxb6614936aTotals.lean).
  GIVEN WITH THE SEED: the statements are not yours to turn. If you find one false, say at which input.
  Laid BY PROGRAM, IN A SANDBOX (cutbox-rows.mjs): the forced cells as the released guide's own fill.sh prints them over the translation 74f07c7578e3802b… (all of the seat's roots in one cut). By AI agents, Wed Nov 11 2026. No macro, syntax, notation, axiom, sorry.
-/
import Derived.Test.Qxb6614936aChecked
import GoSem.Claim
import GoSem.ClaimJoined
import GoSem.ClaimMapViews
import Derived.JoinedTies
import Derived.KernelRfl
namespace Go.Proofs.Qxb6614936a
/- THE CELL 'sum', in the pinned program and in every row, IS THE sha256 OF THE DUMP (.gsa) THAT Qxb6614936aProg.lean LOADS. Nothing in Lean hashes anything: it is a label: what it is worth is what the hold of that sum in a sandbox is worth. -/
noncomputable def Try.pinned : Pinned := { name := "qxb6614936a", sum := "74f07c7578e3802b92d82ccd67c0998a35882f01d58d7c0e1ebfe5ba0df05dc2", checked := Try.checked }
namespace Rows
def none {H : Type} : Left H := { results := [], args := [] }

/-- 'zzlaws_internal_api_b1.FnHeaderIsTheRecordersOwnMap': WHATEVER THE INPUT: true; the input reads as it did. -/
def fnHeaderIsTheRecordersOwnMapSpec : ChangeSpec := { name := "fnHeaderIsTheRecordersOwnMap", fn := fun _ => fun
  | [d1, d2, d3, d4, d5] => { results := [.lit (.bool true)], args := [d1, d2, d3, d4, d5] }
  | _ => none }
def fnHeaderIsTheRecordersOwnMapRow : OpenClaim := { program := "qxb6614936a", sum := "74f07c7578e3802b92d82ccd67c0998a35882f01d58d7c0e1ebfe5ba0df05dc2", func := "example.com/hedgerow/hedgerow/zzlaws_internal_api_b1.FnHeaderIsTheRecordersOwnMap", spec := "fnHeaderIsTheRecordersOwnMap", apart := false }
def FnHeaderIsTheRecordersOwnMapSaid : Prop := fnHeaderIsTheRecordersOwnMapRow.holds Try.pinned (OpenSpec.ofChange fnHeaderIsTheRecordersOwnMapSpec)

/-- ITS FALSE NEIGHBOUR: 'it returns false'. Refute it at one input. -/
def fnHeaderIsTheRecordersOwnMapWrong : ChangeSpec := { name := "fnHeaderIsTheRecordersOwnMap", fn := fun _ => fun
  | [d1, d2, d3, d4, d5] => { results := [.lit (.bool false)], args := [d1, d2, d3, d4, d5] }
  | _ => none }
def FnHeaderIsTheRecordersOwnMapWrongFalsely : Prop := fnHeaderIsTheRecordersOwnMapRow.holds Try.pinned (OpenSpec.ofChange fnHeaderIsTheRecordersOwnMapWrong)

/-- 'zzlaws_internal_api_b1.FnWriteCountsAddAtAnyCut': WHATEVER THE INPUT: true; the input reads as it did. -/
def fnWriteCountsAddAtAnyCutSpec : ChangeSpec := { name := "fnWriteCountsAddAtAnyCut", fn := fun _ => fun
  | [d1, d2, d3] => { results := [.lit (.bool true)], args := [d1, d2, d3] }
  | _ => none }
def fnWriteCountsAddAtAnyCutRow : OpenClaim := { program := "qxb6614936a", sum := "74f07c7578e3802b92d82ccd67c0998a35882f01d58d7c0e1ebfe5ba0df05dc2", func := "example.com/hedgerow/hedgerow/zzlaws_internal_api_b1.FnWriteCountsAddAtAnyCut", spec := "fnWriteCountsAddAtAnyCut", apart := false }
def FnWriteCountsAddAtAnyCutSaid : Prop := fnWriteCountsAddAtAnyCutRow.holds Try.pinned (OpenSpec.ofChange fnWriteCountsAddAtAnyCutSpec)

/-- ITS FALSE NEIGHBOUR: 'it returns false'. Refute it at one input. -/
def fnWriteCountsAddAtAnyCutWrong : ChangeSpec := { name := "fnWriteCountsAddAtAnyCut", fn := fun _ => fun
  | [d1, d2, d3] => { results := [.lit (.bool false)], args := [d1, d2, d3] }
  | _ => none }
def FnWriteCountsAddAtAnyCutWrongFalsely : Prop := fnWriteCountsAddAtAnyCutRow.holds Try.pinned (OpenSpec.ofChange fnWriteCountsAddAtAnyCutWrong)

/-- 'zzlaws_internal_api_b1.FnWriteKeepsStatusAndHeader': WHATEVER THE INPUT: true; the input reads as it did. -/
def fnWriteKeepsStatusAndHeaderSpec : ChangeSpec := { name := "fnWriteKeepsStatusAndHeader", fn := fun _ => fun
  | [d1, d2, d3, d4] => { results := [.lit (.bool true)], args := [d1, d2, d3, d4] }
  | _ => none }
def fnWriteKeepsStatusAndHeaderRow : OpenClaim := { program := "qxb6614936a", sum := "74f07c7578e3802b92d82ccd67c0998a35882f01d58d7c0e1ebfe5ba0df05dc2", func := "example.com/hedgerow/hedgerow/zzlaws_internal_api_b1.FnWriteKeepsStatusAndHeader", spec := "fnWriteKeepsStatusAndHeader", apart := false }
def FnWriteKeepsStatusAndHeaderSaid : Prop := fnWriteKeepsStatusAndHeaderRow.holds Try.pinned (OpenSpec.ofChange fnWriteKeepsStatusAndHeaderSpec)

/-- ITS FALSE NEIGHBOUR: 'it returns false'. Refute it at one input. -/
def fnWriteKeepsStatusAndHeaderWrong : ChangeSpec := { name := "fnWriteKeepsStatusAndHeader", fn := fun _ => fun
  | [d1, d2, d3, d4] => { results := [.lit (.bool false)], args := [d1, d2, d3, d4] }
  | _ => none }
def FnWriteKeepsStatusAndHeaderWrongFalsely : Prop := fnWriteKeepsStatusAndHeaderRow.holds Try.pinned (OpenSpec.ofChange fnWriteKeepsStatusAndHeaderWrong)

/-- 'zzlaws_internal_api_b1.FnCorrelationLatestIdWins': WHATEVER THE INPUT: true; the input reads as it did. -/
def fnCorrelationLatestIdWinsSpec : ChangeSpec := { name := "fnCorrelationLatestIdWins", fn := fun _ => fun
  | [d1, d2] => { results := [.lit (.bool true)], args := [d1, d2] }
  | _ => none }
def fnCorrelationLatestIdWinsRow : OpenClaim := { program := "qxb6614936a", sum := "74f07c7578e3802b92d82ccd67c0998a35882f01d58d7c0e1ebfe5ba0df05dc2", func := "example.com/hedgerow/hedgerow/zzlaws_internal_api_b1.FnCorrelationLatestIdWins", spec := "fnCorrelationLatestIdWins", inPlace := ["internal/reflectlite.TypeOf"], unfollowed := true, recurses := true, apart := false }
def FnCorrelationLatestIdWinsSaid : Prop := fnCorrelationLatestIdWinsRow.holds Try.pinned (OpenSpec.ofChange fnCorrelationLatestIdWinsSpec)

/-- ITS FALSE NEIGHBOUR: 'it returns false'. Refute it at one input. -/
def fnCorrelationLatestIdWinsWrong : ChangeSpec := { name := "fnCorrelationLatestIdWins", fn := fun _ => fun
  | [d1, d2] => { results := [.lit (.bool false)], args := [d1, d2] }
  | _ => none }
def FnCorrelationLatestIdWinsWrongFalsely : Prop := fnCorrelationLatestIdWinsRow.holds Try.pinned (OpenSpec.ofChange fnCorrelationLatestIdWinsWrong)

end Rows
end Go.Proofs.Qxb6614936a
