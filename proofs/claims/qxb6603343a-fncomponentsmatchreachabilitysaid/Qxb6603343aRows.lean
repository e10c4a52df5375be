/-
  No cell of these rows narrows 'for every input' (looked for: loops, veiled, ifaces, maps, wideKeys, modest, calm, conditions, laid).
  DERIVED. THE GIVEN ROWS OF THIS SEAT. 3 by the template 'for every input the law returns true; each argument reads behind the call as it read before'; 0 by the template 'total and deterministic' (their statements: Qxb6603343aTotals.lean).
  GIVEN WITH THE SEED: the statements are not yours to turn. If you find one false, say at which input.
  Laid BY PROGRAM, IN A SANDBOX (cutbox-rows.mjs): the forced cells as the released guide's own fill.sh prints them over the translation 65b477f1e1de119b… (all of the seat's roots in one cut). By AI agents, Wed Nov 11 2026. No macro, syntax, notation, axiom, sorry.
-/
import Derived.Test.Qxb6603343aChecked
import GoSem.Claim
import GoSem.ClaimJoined
import GoSem.ClaimMapViews
import Derived.JoinedTies
import Derived.KernelRfl
namespace Go.Proofs.Qxb6603343a
/- THE CELL 'sum', in the pinned program and in every row, IS THE sha256 OF THE DUMP (.gsa) THAT Qxb6603343aProg.lean LOADS. Nothing in Lean hashes anything: it is a label: what it is worth is what the hold of that sum in a sandbox is worth. -/
noncomputable def Try.pinned : Pinned := { name := "qxb6603343a", sum := "65b477f1e1de119b2dd0c6fa002bec2b92a7de34868ff878b7e41b63c71f7b69", checked := Try.checked }
namespace Rows
def none {H : Type} : Left H := { results := [], args := [] }

/-- 'zzlaws_internal_gogen_b1.FnComponentsMatchReachability': WHATEVER THE INPUT: true; the input reads as it did. -/
def fnComponentsMatchReachabilitySpec : ChangeSpec := { name := "fnComponentsMatchReachability", fn := fun _ => fun
  | [d] => { results := [.lit (.bool true)], args := [d] }
  | _ => none }
def fnComponentsMatchReachabilityRow : OpenClaim := { program := "qxb6603343a", sum := "65b477f1e1de119b2dd0c6fa002bec2b92a7de34868ff878b7e41b63c71f7b69", func := "example.com/bindweave/bindweave/zzlaws_internal_gogen_b1.FnComponentsMatchReachability", spec := "fnComponentsMatchReachability", unfollowed := true, recurses := true, apart := false }
def FnComponentsMatchReachabilitySaid : Prop := fnComponentsMatchReachabilityRow.holds Try.pinned (OpenSpec.ofChange fnComponentsMatchReachabilitySpec)

/-- ITS FALSE NEIGHBOUR: 'it returns false'. Refute it at one input. -/
def fnComponentsMatchReachabilityWrong : ChangeSpec := { name := "fnComponentsMatchReachability", fn := fun _ => fun
  | [d] => { results := [.lit (.bool false)], args := [d] }
  | _ => none }
def FnComponentsMatchReachabilityWrongFalsely : Prop := fnComponentsMatchReachabilityRow.holds Try.pinned (OpenSpec.ofChange fnComponentsMatchReachabilityWrong)

/-- 'zzlaws_internal_gogen_b1.FnComponentsSameOnReversedGraph': WHATEVER THE INPUT: true; the input reads as it did. -/
def fnComponentsSameOnReversedGraphSpec : ChangeSpec := { name := "fnComponentsSameOnReversedGraph", fn := fun _ => fun
  | [d] => { results := [.lit (.bool true)], args := [d] }
  | _ => none }
def fnComponentsSameOnReversedGraphRow : OpenClaim := { program := "qxb6603343a", sum := "65b477f1e1de119b2dd0c6fa002bec2b92a7de34868ff878b7e41b63c71f7b69", func := "example.com/bindweave/bindweave/zzlaws_internal_gogen_b1.FnComponentsSameOnReversedGraph", spec := "fnComponentsSameOnReversedGraph", unfollowed := true, recurses := true, apart := false }
def FnComponentsSameOnReversedGraphSaid : Prop := fnComponentsSameOnReversedGraphRow.holds Try.pinned (OpenSpec.ofChange fnComponentsSameOnReversedGraphSpec)

/-- ITS FALSE NEIGHBOUR: 'it returns false'. Refute it at one input. -/
def fnComponentsSameOnReversedGraphWrong : ChangeSpec := { name := "fnComponentsSameOnReversedGraph", fn := fun _ => fun
  | [d] => { results := [.lit (.bool false)], args := [d] }
  | _ => none }
def FnComponentsSameOnReversedGraphWrongFalsely : Prop := fnComponentsSameOnReversedGraphRow.holds Try.pinned (OpenSpec.ofChange fnComponentsSameOnReversedGraphWrong)

/-- 'zzlaws_internal_gogen_b1.FnComponentsIgnoreEdgeOrderDuplicatesSelfLoops': WHATEVER THE INPUT: true; the input reads as it did. -/
def fnComponentsIgnoreEdgeOrderDuplicatesSelfLoopsSpec : ChangeSpec := { name := "fnComponentsIgnoreEdgeOrderDuplicatesSelfLoops", fn := fun _ => fun
  | [d] => { results := [.lit (.bool true)], args := [d] }
  | _ => none }
def fnComponentsIgnoreEdgeOrderDuplicatesSelfLoopsRow : OpenClaim := { program := "qxb6603343a", sum := "65b477f1e1de119b2dd0c6fa002bec2b92a7de34868ff878b7e41b63c71f7b69", func := "example.com/bindweave/bindweave/zzlaws_internal_gogen_b1.FnComponentsIgnoreEdgeOrderDuplicatesSelfLoops", spec := "fnComponentsIgnoreEdgeOrderDuplicatesSelfLoops", unfollowed := true, recurses := true, apart := false }
def FnComponentsIgnoreEdgeOrderDuplicatesSelfLoopsSaid : Prop := fnComponentsIgnoreEdgeOrderDuplicatesSelfLoopsRow.holds Try.pinned (OpenSpec.ofChange fnComponentsIgnoreEdgeOrderDuplicatesSelfLoopsSpec)

/-- ITS FALSE NEIGHBOUR: 'it returns false'. Refute it at one input. -/
def fnComponentsIgnoreEdgeOrderDuplicatesSelfLoopsWrong : ChangeSpec := { name := "fnComponentsIgnoreEdgeOrderDuplicatesSelfLoops", fn := fun _ => fun
  | [d] => { results := [.lit (.bool false)], args := [d] }
  | _ => none }
def FnComponentsIgnoreEdgeOrderDuplicatesSelfLoopsWrongFalsely : Prop := fnComponentsIgnoreEdgeOrderDuplicatesSelfLoopsRow.holds Try.pinned (OpenSpec.ofChange fnComponentsIgnoreEdgeOrderDuplicatesSelfLoopsWrong)

end Rows
end Go.Proofs.Qxb6603343a
