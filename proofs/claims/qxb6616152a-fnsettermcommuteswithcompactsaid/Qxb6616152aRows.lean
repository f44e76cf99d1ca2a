/-
  No cell of these rows narrows 'for every input' (looked for: loops, veiled, ifaces, maps, wideKeys, modest, calm, conditions, laid).
  DERIVED. THE GIVEN ROWS OF THIS SEAT. 1 by the template 'for every input the law returns true; each argument reads behind the call as it read before'; 0 by the template 'total and deterministic' (their statements: Qxb6616152aTotals.lean).
  GIVEN WITH THE SEED: the statements are not yours to turn. If you find one false, say at which input.
  Laid BY PROGRAM, IN A SANDBOX (cutbox-rows.mjs): the forced cells as the released guide's own fill.sh prints them over the translation b884321c5b38790e… (all of the seat's roots in one cut). By AI agents, Wed Nov 11 2026. No macro, syntax, notation, axiom, sorry.
-/
import Derived.Test.Qxb6616152aChecked
import GoSem.Claim
import GoSem.ClaimJoined
import GoSem.ClaimMapViews
import Derived.JoinedTies
import Derived.KernelRfl
namespace Go.Proofs.Qxb6616152a
/- THE CELL 'sum', in the pinned program and in every row, IS THE sha256 OF THE DUMP (.gsa) THAT Qxb6616152aProg.lean LOADS. Nothing in Lean hashes anything: it is a label: what it is worth is what the hold of that sum in a sandbox is worth. -/
noncomputable def Try.pinned : Pinned := { name := "qxb6616152a", sum := "b884321c5b38790e55653affbe4f64e499e55d0eacd3a7c163107e9cce0e321f", checked := Try.checked }
namespace Rows
def none {H : Type} : Left H := { results := [], args := [] }

/-- 'zzlaws_internal_raft_b1.FnSetTermCommutesWithCompact': WHATEVER THE INPUT: true; the input reads as it did. -/
def fnSetTermCommutesWithCompactSpec : ChangeSpec := { name := "fnSetTermCommutesWithCompact", fn := fun _ => fun
  | [d1, d2, d3, d4, d5, d6, d7, d8, d9, d10] => { results := [.lit (.bool true)], args := [d1, d2, d3, d4, d5, d6, d7, d8, d9, d10] }
  | _ => none }
def fnSetTermCommutesWithCompactRow : OpenClaim := { program := "qxb6616152a", sum := "b884321c5b38790e55653affbe4f64e499e55d0eacd3a7c163107e9cce0e321f", func := "example.com/tidemark/tidemark/zzlaws_internal_raft_b1.FnSetTermCommutesWithCompact", spec := "fnSetTermCommutesWithCompact", apart := false }
def FnSetTermCommutesWithCompactSaid : Prop := fnSetTermCommutesWithCompactRow.holds Try.pinned (OpenSpec.ofChange fnSetTermCommutesWithCompactSpec)

/-- ITS FALSE NEIGHBOUR: 'it returns false'. Refute it at one input. -/
def fnSetTermCommutesWithCompactWrong : ChangeSpec := { name := "fnSetTermCommutesWithCompact", fn := fun _ => fun
  | [d1, d2, d3, d4, d5, d6, d7, d8, d9, d10] => { results := [.lit (.bool false)], args := [d1, d2, d3, d4, d5, d6, d7, d8, d9, d10] }
  | _ => none }
def FnSetTermCommutesWithCompactWrongFalsely : Prop := fnSetTermCommutesWithCompactRow.holds Try.pinned (OpenSpec.ofChange fnSetTermCommutesWithCompactWrong)

end Rows
end Go.Proofs.Qxb6616152a
