/-
  No cell of these rows narrows 'for every input' (looked for: loops, veiled, ifaces, maps, wideKeys, modest, calm, conditions, laid).
  DERIVED. THE GIVEN ROWS OF THIS SEAT. 4 by the template 'for every input the law returns true; each argument reads behind the call as it read before'; 0 by the template 'total and deterministic' (their statements: Qxb6616078aTotals.lean).
  GIVEN WITH THE SEED: the statements are not yours to turn. If you find one false, say at which input.
  Laid BY PROGRAM, IN A SANDBOX (cutbox-rows.mjs): the forced cells as the released guide's own fill.sh prints them over the translation 4ee0c45a949d0a63… (all of the seat's roots in one cut). By AI agents, Wed Nov 11 2026. No macro, syntax, notation, axiom, sorry.
-/
import Derived.Test.Qxb6616078aChecked
import GoSem.Claim
import GoSem.ClaimJoined
import GoSem.ClaimMapViews
import Derived.JoinedTies
import Derived.KernelRfl
namespace Go.Proofs.Qxb6616078a
/- THE CELL 'sum', in the pinned program and in every row, IS THE sha256 OF THE DUMP (.gsa) THAT Qxb6616078aProg.lean LOADS. Nothing in Lean hashes anything: it is a label: what it is worth is what the hold of that sum in a sandbox is worth. -/
noncomputable def Try.pinned : Pinned := { name := "qxb6616078a", sum := "4ee0c45a949d0a634b3356bd30603d1209f5a7ba7b9371f5466a869f3440182d", checked := Try.checked }
namespace Rows
def none {H : Type} : Left H := { results := [], args := [] }

/-- 'zzlaws_pkg_dag_b1.FnCyclesAreMutualReach': WHATEVER THE INPUT: true; the input reads as it did. -/
def fnCyclesAreMutualReachSpec : ChangeSpec := { name := "fnCyclesAreMutualReach", fn := fun _ => fun
  | [d1, d2] => { results := [.lit (.bool true)], args := [d1, d2] }
  | _ => none }
def fnCyclesAreMutualReachRow : OpenClaim := { program := "qxb6616078a", sum := "4ee0c45a949d0a634b3356bd30603d1209f5a7ba7b9371f5466a869f3440182d", func := "example.com/ridgeline/ridgeline/zzlaws_pkg_dag_b1.FnCyclesAreMutualReach", spec := "fnCyclesAreMutualReach", inPlace := ["internal/bytealg.abigen_runtime_cmpstring"], unfollowed := true, recurses := true, plainKeys := false, apart := false }
def FnCyclesAreMutualReachSaid : Prop := fnCyclesAreMutualReachRow.holds Try.pinned (OpenSpec.ofChange fnCyclesAreMutualReachSpec)

/-- ITS FALSE NEIGHBOUR: 'it returns false'. Refute it at one input. -/
def fnCyclesAreMutualReachWrong : ChangeSpec := { name := "fnCyclesAreMutualReach", fn := fun _ => fun
  | [d1, d2] => { results := [.lit (.bool false)], args := [d1, d2] }
  | _ => none }
def FnCyclesAreMutualReachWrongFalsely : Prop := fnCyclesAreMutualReachRow.holds Try.pinned (OpenSpec.ofChange fnCyclesAreMutualReachWrong)

/-- 'zzlaws_pkg_dag_b1.FnCyclesSameOnReverseAndMatchPeeling': WHATEVER THE INPUT: true; the input reads as it did. -/
def fnCyclesSameOnReverseAndMatchPeelingSpec : ChangeSpec := { name := "fnCyclesSameOnReverseAndMatchPeeling", fn := fun _ => fun
  | [d1, d2] => { results := [.lit (.bool true)], args := [d1, d2] }
  | _ => none }
def fnCyclesSameOnReverseAndMatchPeelingRow : OpenClaim := { program := "qxb6616078a", sum := "4ee0c45a949d0a634b3356bd30603d1209f5a7ba7b9371f5466a869f3440182d", func := "example.com/ridgeline/ridgeline/zzlaws_pkg_dag_b1.FnCyclesSameOnReverseAndMatchPeeling", spec := "fnCyclesSameOnReverseAndMatchPeeling", inPlace := ["internal/bytealg.abigen_runtime_cmpstring"], unfollowed := true, recurses := true, plainKeys := false, apart := false }
def FnCyclesSameOnReverseAndMatchPeelingSaid : Prop := fnCyclesSameOnReverseAndMatchPeelingRow.holds Try.pinned (OpenSpec.ofChange fnCyclesSameOnReverseAndMatchPeelingSpec)

/-- ITS FALSE NEIGHBOUR: 'it returns false'. Refute it at one input. -/
def fnCyclesSameOnReverseAndMatchPeelingWrong : ChangeSpec := { name := "fnCyclesSameOnReverseAndMatchPeeling", fn := fun _ => fun
  | [d1, d2] => { results := [.lit (.bool false)], args := [d1, d2] }
  | _ => none }
def FnCyclesSameOnReverseAndMatchPeelingWrongFalsely : Prop := fnCyclesSameOnReverseAndMatchPeelingRow.holds Try.pinned (OpenSpec.ofChange fnCyclesSameOnReverseAndMatchPeelingWrong)

/-- 'zzlaws_pkg_dag_b1.FnShortestPathIsLeastOfTheShortest': WHATEVER THE INPUT: true; the input reads as it did. -/
def fnShortestPathIsLeastOfTheShortestSpec : ChangeSpec := { name := "fnShortestPathIsLeastOfTheShortest", fn := fun _ => fun
  | [d1, d2, d3, d4, d5] => { results := [.lit (.bool true)], args := [d1, d2, d3, d4, d5] }
  | _ => none }
def fnShortestPathIsLeastOfTheShortestRow : OpenClaim := { program := "qxb6616078a", sum := "4ee0c45a949d0a634b3356bd30603d1209f5a7ba7b9371f5466a869f3440182d", func := "example.com/ridgeline/ridgeline/zzlaws_pkg_dag_b1.FnShortestPathIsLeastOfTheShortest", spec := "fnShortestPathIsLeastOfTheShortest", inPlace := ["internal/bytealg.abigen_runtime_cmpstring"], unfollowed := true, recurses := true, plainKeys := false, apart := false }
def FnShortestPathIsLeastOfTheShortestSaid : Prop := fnShortestPathIsLeastOfTheShortestRow.holds Try.pinned (OpenSpec.ofChange fnShortestPathIsLeastOfTheShortestSpec)

/-- ITS FALSE NEIGHBOUR: 'it returns false'. Refute it at one input. -/
def fnShortestPathIsLeastOfTheShortestWrong : ChangeSpec := { name := "fnShortestPathIsLeastOfTheShortest", fn := fun _ => fun
  | [d1, d2, d3, d4, d5] => { results := [.lit (.bool false)], args := [d1, d2, d3, d4, d5] }
  | _ => none }
def FnShortestPathIsLeastOfTheShortestWrongFalsely : Prop := fnShortestPathIsLeastOfTheShortestRow.holds Try.pinned (OpenSpec.ofChange fnShortestPathIsLeastOfTheShortestWrong)

/-- 'zzlaws_pkg_dag_b1.FnShortestPathAgreesWithItsReverse': WHATEVER THE INPUT: true; the input reads as it did. -/
def fnShortestPathAgreesWithItsReverseSpec : ChangeSpec := { name := "fnShortestPathAgreesWithItsReverse", fn := fun _ => fun
  | [d1, d2, d3, d4, d5] => { results := [.lit (.bool true)], args := [d1, d2, d3, d4, d5] }
  | _ => none }
def fnShortestPathAgreesWithItsReverseRow : OpenClaim := { program := "qxb6616078a", sum := "4ee0c45a949d0a634b3356bd30603d1209f5a7ba7b9371f5466a869f3440182d", func := "example.com/ridgeline/ridgeline/zzlaws_pkg_dag_b1.FnShortestPathAgreesWithItsReverse", spec := "fnShortestPathAgreesWithItsReverse", inPlace := ["internal/bytealg.abigen_runtime_cmpstring"], unfollowed := true, recurses := true, plainKeys := false, apart := false }
def FnShortestPathAgreesWithItsReverseSaid : Prop := fnShortestPathAgreesWithItsReverseRow.holds Try.pinned (OpenSpec.ofChange fnShortestPathAgreesWithItsReverseSpec)

/-- ITS FALSE NEIGHBOUR: 'it returns false'. Refute it at one input. -/
def fnShortestPathAgreesWithItsReverseWrong : ChangeSpec := { name := "fnShortestPathAgreesWithItsReverse", fn := fun _ => fun
  | [d1, d2, d3, d4, d5] => { results := [.lit (.bool false)], args := [d1, d2, d3, d4, d5] }
  | _ => none }
def FnShortestPathAgreesWithItsReverseWrongFalsely : Prop := fnShortestPathAgreesWithItsReverseRow.holds Try.pinned (OpenSpec.ofChange fnShortestPathAgreesWithItsReverseWrong)

end Rows
end Go.Proofs.Qxb6616078a
