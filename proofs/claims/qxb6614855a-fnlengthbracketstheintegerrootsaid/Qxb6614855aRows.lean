/-
  No cell of these rows narrows 'for every input' (looked for: loops, veiled, ifaces, maps, wideKeys, modest, calm, conditions, laid).
  DERIVED. THE GIVEN ROWS OF THIS SEAT. 2 by the template 'for every input the law returns true; each argument reads behind the call as it read before'; 0 by the template 'total and deterministic' (their statements: Qxb6614855aTotals.lean).
  GIVEN WITH THE SEED: the statements are not yours to turn. If you find one false, say at which input.
  Laid BY PROGRAM, IN A SANDBOX (cutbox-rows.mjs): the forced cells as the released guide's own fill.sh prints them over the translation 826b1d03feabf3f1… (all of the seat's roots in one cut). By AI agents, Wed Nov 11 2026. No macro, syntax, notation, axiom, sorry.
-/
import Derived.Test.Qxb6614855aChecked
import GoSem.Claim
import GoSem.ClaimJoined
import GoSem.ClaimMapViews
import Derived.JoinedTies
import Derived.KernelRfl
namespace Go.Proofs.Qxb6614855a
/- THE CELL 'sum', in the pinned program and in every row, IS THE sha256 OF THE DUMP (.gsa) THAT Qxb6614855aProg.lean LOADS. Nothing in Lean hashes anything: it is a label: what it is worth is what the hold of that sum in a sandbox is worth. -/
noncomputable def Try.pinned : Pinned := { name := "qxb6614855a", sum := "826b1d03feabf3f1da23dbdee4c5a2972ddb040276bda1fbbf3a4a1df23f98cb", checked := Try.checked }
namespace Rows
def none {H : Type} : Left H := { results := [], args := [] }

/-- 'zzlaws_root_b1.FnLengthBracketsTheIntegerRoot': WHATEVER THE INPUT: true; the input reads as it did. -/
def fnLengthBracketsTheIntegerRootSpec : ChangeSpec := { name := "fnLengthBracketsTheIntegerRoot", fn := fun _ => fun
  | [d1, d2] => { results := [.lit (.bool true)], args := [d1, d2] }
  | _ => none }
def fnLengthBracketsTheIntegerRootRow : OpenClaim := { program := "qxb6614855a", sum := "826b1d03feabf3f1da23dbdee4c5a2972ddb040276bda1fbbf3a4a1df23f98cb", func := "example.com/orthant/orthant/zzlaws_root_b1.FnLengthBracketsTheIntegerRoot", spec := "fnLengthBracketsTheIntegerRoot", inPlace := ["math.Float64bits", "math.Float64frombits", "math.sqrt"], apart := false }
def FnLengthBracketsTheIntegerRootSaid : Prop := fnLengthBracketsTheIntegerRootRow.holds Try.pinned (OpenSpec.ofChange fnLengthBracketsTheIntegerRootSpec)

/-- ITS FALSE NEIGHBOUR: 'it returns false'. Refute it at one input. -/
def fnLengthBracketsTheIntegerRootWrong : ChangeSpec := { name := "fnLengthBracketsTheIntegerRoot", fn := fun _ => fun
  | [d1, d2] => { results := [.lit (.bool false)], args := [d1, d2] }
  | _ => none }
def FnLengthBracketsTheIntegerRootWrongFalsely : Prop := fnLengthBracketsTheIntegerRootRow.holds Try.pinned (OpenSpec.ofChange fnLengthBracketsTheIntegerRootWrong)

/-- 'zzlaws_root_b1.FnLengthGrowsWithTheSquare': WHATEVER THE INPUT: true; the input reads as it did. -/
def fnLengthGrowsWithTheSquareSpec : ChangeSpec := { name := "fnLengthGrowsWithTheSquare", fn := fun _ => fun
  | [d1, d2, d3, d4] => { results := [.lit (.bool true)], args := [d1, d2, d3, d4] }
  | _ => none }
def fnLengthGrowsWithTheSquareRow : OpenClaim := { program := "qxb6614855a", sum := "826b1d03feabf3f1da23dbdee4c5a2972ddb040276bda1fbbf3a4a1df23f98cb", func := "example.com/orthant/orthant/zzlaws_root_b1.FnLengthGrowsWithTheSquare", spec := "fnLengthGrowsWithTheSquare", inPlace := ["math.Float64bits", "math.Float64frombits", "math.sqrt"], apart := false }
def FnLengthGrowsWithTheSquareSaid : Prop := fnLengthGrowsWithTheSquareRow.holds Try.pinned (OpenSpec.ofChange fnLengthGrowsWithTheSquareSpec)

/-- ITS FALSE NEIGHBOUR: 'it returns false'. Refute it at one input. -/
def fnLengthGrowsWithTheSquareWrong : ChangeSpec := { name := "fnLengthGrowsWithTheSquare", fn := fun _ => fun
  | [d1, d2, d3, d4] => { results := [.lit (.bool false)], args := [d1, d2, d3, d4] }
  | _ => none }
def FnLengthGrowsWithTheSquareWrongFalsely : Prop := fnLengthGrowsWithTheSquareRow.holds Try.pinned (OpenSpec.ofChange fnLengthGrowsWithTheSquareWrong)

end Rows
end Go.Proofs.Qxb6614855a
