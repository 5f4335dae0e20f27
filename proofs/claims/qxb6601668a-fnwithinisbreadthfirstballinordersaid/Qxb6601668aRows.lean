/-
  No cell of these rows narrows 'for every input' (looked for: loops, veiled, ifaces, maps, wideKeys, modest, calm, conditions, laid).
  DERIVED. THE GIVEN ROWS OF THIS SEAT. 3 by the template 'for every input the law returns true; each argument reads behind the call as it read before'; 0 by the template 'total and deterministic' (their statements: Qxb6601668aTotals.lean).
  GIVEN WITH THE SEED: the statements are not yours to turn. If you find one false, say at which input.
  Laid BY PROGRAM, IN A SANDBOX (cutbox-rows.mjs): the forced cells as the released guide's own fill.sh prints them over the translation 28c9963445925684… (all of the seat's roots in one cut). By AI agents, Wed Nov 11 2026. No macro, syntax, notation, axiom, sorry.
-/
import Derived.Test.Qxb6601668aChecked
import GoSem.Claim
import GoSem.ClaimJoined
import GoSem.ClaimMapViews
import Derived.JoinedTies
import Derived.KernelRfl
namespace Go.Proofs.Qxb6601668a
/- THE CELL 'sum', in the pinned program and in every row, IS THE sha256 OF THE DUMP (.gsa) THAT Qxb6601668aProg.lean LOADS. Nothing in Lean hashes anything: it is a label: what it is worth is what the hold of that sum in a sandbox is worth. -/
noncomputable def Try.pinned : Pinned := { name := "qxb6601668a", sum := "28c996344592568427794ed654fc3c46734e28aa2fea2716d7eb29319ea7975d", checked := Try.checked }
namespace Rows
def none {H : Type} : Left H := { results := [], args := [] }

/-- 'zzlaws_internal_topology_b1.FnWithinIsBreadthFirstBallInOrder': WHATEVER THE INPUT: true; the input reads as it did. -/
def fnWithinIsBreadthFirstBallInOrderSpec : ChangeSpec := { name := "fnWithinIsBreadthFirstBallInOrder", fn := fun _ => fun
  | [d1, d2, d3, d4, d5] => { results := [.lit (.bool true)], args := [d1, d2, d3, d4, d5] }
  | _ => none }
def fnWithinIsBreadthFirstBallInOrderRow : OpenClaim := { program := "qxb6601668a", sum := "28c996344592568427794ed654fc3c46734e28aa2fea2716d7eb29319ea7975d", func := "example.com/driftmesh/driftmesh/zzlaws_internal_topology_b1.FnWithinIsBreadthFirstBallInOrder", spec := "fnWithinIsBreadthFirstBallInOrder", apart := false }
def FnWithinIsBreadthFirstBallInOrderSaid : Prop := fnWithinIsBreadthFirstBallInOrderRow.holds Try.pinned (OpenSpec.ofChange fnWithinIsBreadthFirstBallInOrderSpec)

/-- ITS FALSE NEIGHBOUR: 'it returns false'. Refute it at one input. -/
def fnWithinIsBreadthFirstBallInOrderWrong : ChangeSpec := { name := "fnWithinIsBreadthFirstBallInOrder", fn := fun _ => fun
  | [d1, d2, d3, d4, d5] => { results := [.lit (.bool false)], args := [d1, d2, d3, d4, d5] }
  | _ => none }
def FnWithinIsBreadthFirstBallInOrderWrongFalsely : Prop := fnWithinIsBreadthFirstBallInOrderRow.holds Try.pinned (OpenSpec.ofChange fnWithinIsBreadthFirstBallInOrderWrong)

/-- 'zzlaws_internal_topology_b1.FnWithinGrowsByPrefix': WHATEVER THE INPUT: true; the input reads as it did. -/
def fnWithinGrowsByPrefixSpec : ChangeSpec := { name := "fnWithinGrowsByPrefix", fn := fun _ => fun
  | [d1, d2, d3, d4, d5] => { results := [.lit (.bool true)], args := [d1, d2, d3, d4, d5] }
  | _ => none }
def fnWithinGrowsByPrefixRow : OpenClaim := { program := "qxb6601668a", sum := "28c996344592568427794ed654fc3c46734e28aa2fea2716d7eb29319ea7975d", func := "example.com/driftmesh/driftmesh/zzlaws_internal_topology_b1.FnWithinGrowsByPrefix", spec := "fnWithinGrowsByPrefix", apart := false }
def FnWithinGrowsByPrefixSaid : Prop := fnWithinGrowsByPrefixRow.holds Try.pinned (OpenSpec.ofChange fnWithinGrowsByPrefixSpec)

/-- ITS FALSE NEIGHBOUR: 'it returns false'. Refute it at one input. -/
def fnWithinGrowsByPrefixWrong : ChangeSpec := { name := "fnWithinGrowsByPrefix", fn := fun _ => fun
  | [d1, d2, d3, d4, d5] => { results := [.lit (.bool false)], args := [d1, d2, d3, d4, d5] }
  | _ => none }
def FnWithinGrowsByPrefixWrongFalsely : Prop := fnWithinGrowsByPrefixRow.holds Try.pinned (OpenSpec.ofChange fnWithinGrowsByPrefixWrong)

/-- 'zzlaws_internal_topology_b1.FnWithinIsSymmetric': WHATEVER THE INPUT: true; the input reads as it did. -/
def fnWithinIsSymmetricSpec : ChangeSpec := { name := "fnWithinIsSymmetric", fn := fun _ => fun
  | [d1, d2, d3, d4, d5, d6] => { results := [.lit (.bool true)], args := [d1, d2, d3, d4, d5, d6] }
  | _ => none }
def fnWithinIsSymmetricRow : OpenClaim := { program := "qxb6601668a", sum := "28c996344592568427794ed654fc3c46734e28aa2fea2716d7eb29319ea7975d", func := "example.com/driftmesh/driftmesh/zzlaws_internal_topology_b1.FnWithinIsSymmetric", spec := "fnWithinIsSymmetric", apart := false }
def FnWithinIsSymmetricSaid : Prop := fnWithinIsSymmetricRow.holds Try.pinned (OpenSpec.ofChange fnWithinIsSymmetricSpec)

/-- ITS FALSE NEIGHBOUR: 'it returns false'. Refute it at one input. -/
def fnWithinIsSymmetricWrong : ChangeSpec := { name := "fnWithinIsSymmetric", fn := fun _ => fun
  | [d1, d2, d3, d4, d5, d6] => { results := [.lit (.bool false)], args := [d1, d2, d3, d4, d5, d6] }
  | _ => none }
def FnWithinIsSymmetricWrongFalsely : Prop := fnWithinIsSymmetricRow.holds Try.pinned (OpenSpec.ofChange fnWithinIsSymmetricWrong)

end Rows
end Go.Proofs.Qxb6601668a
