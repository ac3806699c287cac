/-
  No cell of these rows narrows 'for every input' (looked for: loops, veiled, ifaces, maps, wideKeys, modest, calm, conditions, laid).
  DERIVED. THE GIVEN ROWS OF THIS SEAT. 2 by the template 'for every input the law returns true; each argument reads behind the call as it read before'; 0 by the template 'total and deterministic' (their statements: Qxb6615733aTotals.lean).
  GIVEN WITH THE SEED: the statements are not yours to turn. If you find one false, say at which input.
  Laid BY PROGRAM, IN A SANDBOX (cutbox-rows.mjs): the forced cells as the released guide's own fill.sh prints them over the translation bf3d5aa9839da79d… (all of the seat's roots in one cut). By AI agents, Wed Nov 11 2026. No macro, syntax, notation, axiom, sorry.
-/
import Derived.Test.Qxb6615733aChecked
import GoSem.Claim
import GoSem.ClaimJoined
import GoSem.ClaimMapViews
import Derived.JoinedTies
import Derived.KernelRfl
namespace Go.Proofs.Qxb6615733a
/- THE CELL 'sum', in the pinned program and in every row, IS THE sha256 OF THE DUMP (.gsa) THAT Qxb6615733aProg.lean LOADS. Nothing in Lean hashes anything: it is a label: what it is worth is what the hold of that sum in a sandbox is worth. -/
noncomputable def Try.pinned : Pinned := { name := "qxb6615733a", sum := "bf3d5aa9839da79d21cf7a96a41d53cbc9506ed9365830e8a48d057903b76300", checked := Try.checked }
namespace Rows
def none {H : Type} : Left H := { results := [], args := [] }

/-- 'zzlaws_pkg_api_b1.FnFencingOfCountsMajorities': WHATEVER THE INPUT: true; the input reads as it did. -/
def fnFencingOfCountsMajoritiesSpec : ChangeSpec := { name := "fnFencingOfCountsMajorities", fn := fun _ => fun
  | [d1, d2] => { results := [.lit (.bool true)], args := [d1, d2] }
  | _ => none }
def fnFencingOfCountsMajoritiesRow : OpenClaim := { program := "qxb6615733a", sum := "bf3d5aa9839da79d21cf7a96a41d53cbc9506ed9365830e8a48d057903b76300", func := "example.com/quorumwarden/quorumwarden/zzlaws_pkg_api_b1.FnFencingOfCountsMajorities", spec := "fnFencingOfCountsMajorities", apart := false }
def FnFencingOfCountsMajoritiesSaid : Prop := fnFencingOfCountsMajoritiesRow.holds Try.pinned (OpenSpec.ofChange fnFencingOfCountsMajoritiesSpec)

/-- ITS FALSE NEIGHBOUR: 'it returns false'. Refute it at one input. -/
def fnFencingOfCountsMajoritiesWrong : ChangeSpec := { name := "fnFencingOfCountsMajorities", fn := fun _ => fun
  | [d1, d2] => { results := [.lit (.bool false)], args := [d1, d2] }
  | _ => none }
def FnFencingOfCountsMajoritiesWrongFalsely : Prop := fnFencingOfCountsMajoritiesRow.holds Try.pinned (OpenSpec.ofChange fnFencingOfCountsMajoritiesWrong)

/-- 'zzlaws_pkg_api_b1.FnFencingOfNextEpochDropsItsPromisers': WHATEVER THE INPUT: true; the input reads as it did. -/
def fnFencingOfNextEpochDropsItsPromisersSpec : ChangeSpec := { name := "fnFencingOfNextEpochDropsItsPromisers", fn := fun _ => fun
  | [d1, d2] => { results := [.lit (.bool true)], args := [d1, d2] }
  | _ => none }
def fnFencingOfNextEpochDropsItsPromisersRow : OpenClaim := { program := "qxb6615733a", sum := "bf3d5aa9839da79d21cf7a96a41d53cbc9506ed9365830e8a48d057903b76300", func := "example.com/quorumwarden/quorumwarden/zzlaws_pkg_api_b1.FnFencingOfNextEpochDropsItsPromisers", spec := "fnFencingOfNextEpochDropsItsPromisers", apart := false }
def FnFencingOfNextEpochDropsItsPromisersSaid : Prop := fnFencingOfNextEpochDropsItsPromisersRow.holds Try.pinned (OpenSpec.ofChange fnFencingOfNextEpochDropsItsPromisersSpec)

/-- ITS FALSE NEIGHBOUR: 'it returns false'. Refute it at one input. -/
def fnFencingOfNextEpochDropsItsPromisersWrong : ChangeSpec := { name := "fnFencingOfNextEpochDropsItsPromisers", fn := fun _ => fun
  | [d1, d2] => { results := [.lit (.bool false)], args := [d1, d2] }
  | _ => none }
def FnFencingOfNextEpochDropsItsPromisersWrongFalsely : Prop := fnFencingOfNextEpochDropsItsPromisersRow.holds Try.pinned (OpenSpec.ofChange fnFencingOfNextEpochDropsItsPromisersWrong)

end Rows
end Go.Proofs.Qxb6615733a
