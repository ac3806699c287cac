/-
  No cell of these rows narrows 'for every input' (looked for: loops, veiled, ifaces, maps, wideKeys, modest, calm, conditions, laid).
  DERIVED. THE GIVEN ROWS OF THIS SEAT. 2 by the template 'for every input the law returns true; each argument reads behind the call as it read before'; 0 by the template 'total and deterministic' (their statements: Qxb6614849aTotals.lean).
  GIVEN WITH THE SEED: the statements are not yours to turn. If you find one false, say at which input.
  Laid BY PROGRAM, IN A SANDBOX (cutbox-rows.mjs): the forced cells as the released guide's own fill.sh prints them over the translation 99cb13f76e230871… (all of the seat's roots in one cut). By AI agents, Wed Nov 11 2026. No macro, syntax, notation, axiom, sorry.
-/
import Derived.Test.Qxb6614849aChecked
import GoSem.Claim
import GoSem.ClaimJoined
import GoSem.ClaimMapViews
import Derived.JoinedTies
import Derived.KernelRfl
namespace Go.Proofs.Qxb6614849a
/- THE CELL 'sum', in the pinned program and in every row, IS THE sha256 OF THE DUMP (.gsa) THAT Qxb6614849aProg.lean LOADS. Nothing in Lean hashes anything: it is a label: what it is worth is what the hold of that sum in a sandbox is worth. -/
noncomputable def Try.pinned : Pinned := { name := "qxb6614849a", sum := "99cb13f76e230871c87cf24d2502633af919fa5cbc3b662b62c758cd7d39dd7d", checked := Try.checked }
namespace Rows
def none {H : Type} : Left H := { results := [], args := [] }

/-- 'zzlaws_root_b1.FnLooksNumericSplitsAtTheExponent': WHATEVER THE INPUT: true; the input reads as it did. -/
def fnLooksNumericSplitsAtTheExponentSpec : ChangeSpec := { name := "fnLooksNumericSplitsAtTheExponent", fn := fun _ => fun
  | [d1, d2] => { results := [.lit (.bool true)], args := [d1, d2] }
  | _ => none }
def fnLooksNumericSplitsAtTheExponentRow : OpenClaim := { program := "qxb6614849a", sum := "99cb13f76e230871c87cf24d2502633af919fa5cbc3b662b62c758cd7d39dd7d", func := "example.com/lineform/lineform/zzlaws_root_b1.FnLooksNumericSplitsAtTheExponent", spec := "fnLooksNumericSplitsAtTheExponent", apart := false }
def FnLooksNumericSplitsAtTheExponentSaid : Prop := fnLooksNumericSplitsAtTheExponentRow.holds Try.pinned (OpenSpec.ofChange fnLooksNumericSplitsAtTheExponentSpec)

/-- ITS FALSE NEIGHBOUR: 'it returns false'. Refute it at one input. -/
def fnLooksNumericSplitsAtTheExponentWrong : ChangeSpec := { name := "fnLooksNumericSplitsAtTheExponent", fn := fun _ => fun
  | [d1, d2] => { results := [.lit (.bool false)], args := [d1, d2] }
  | _ => none }
def FnLooksNumericSplitsAtTheExponentWrongFalsely : Prop := fnLooksNumericSplitsAtTheExponentRow.holds Try.pinned (OpenSpec.ofChange fnLooksNumericSplitsAtTheExponentWrong)

/-- 'zzlaws_root_b1.FnLooksNumericSplitsAtThePoint': WHATEVER THE INPUT: true; the input reads as it did. -/
def fnLooksNumericSplitsAtThePointSpec : ChangeSpec := { name := "fnLooksNumericSplitsAtThePoint", fn := fun _ => fun
  | [d1, d2] => { results := [.lit (.bool true)], args := [d1, d2] }
  | _ => none }
def fnLooksNumericSplitsAtThePointRow : OpenClaim := { program := "qxb6614849a", sum := "99cb13f76e230871c87cf24d2502633af919fa5cbc3b662b62c758cd7d39dd7d", func := "example.com/lineform/lineform/zzlaws_root_b1.FnLooksNumericSplitsAtThePoint", spec := "fnLooksNumericSplitsAtThePoint", apart := false }
def FnLooksNumericSplitsAtThePointSaid : Prop := fnLooksNumericSplitsAtThePointRow.holds Try.pinned (OpenSpec.ofChange fnLooksNumericSplitsAtThePointSpec)

/-- ITS FALSE NEIGHBOUR: 'it returns false'. Refute it at one input. -/
def fnLooksNumericSplitsAtThePointWrong : ChangeSpec := { name := "fnLooksNumericSplitsAtThePoint", fn := fun _ => fun
  | [d1, d2] => { results := [.lit (.bool false)], args := [d1, d2] }
  | _ => none }
def FnLooksNumericSplitsAtThePointWrongFalsely : Prop := fnLooksNumericSplitsAtThePointRow.holds Try.pinned (OpenSpec.ofChange fnLooksNumericSplitsAtThePointWrong)

end Rows
end Go.Proofs.Qxb6614849a
