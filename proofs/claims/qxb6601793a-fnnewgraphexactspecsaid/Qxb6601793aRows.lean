/-
  No cell of these rows narrows 'for every input' (looked for: loops, veiled, ifaces, maps, wideKeys, modest, calm, conditions, laid).
  DERIVED. THE GIVEN ROWS OF THIS SEAT. 5 by the template 'for every input the law returns true; each argument reads behind the call as it read before'; 0 by the template 'total and deterministic' (their statements: Qxb6601793aTotals.lean).
  GIVEN WITH THE SEED: the statements are not yours to turn. If you find one false, say at which input.
  Laid BY PROGRAM, IN A SANDBOX (cutbox-rows.mjs): the forced cells as the released guide's own fill.sh prints them over the translation 2fbc780a9dda3c2d… (all of the seat's roots in one cut). By AI agents, Wed Nov 11 2026. No macro, syntax, notation, axiom, sorry.
-/
import Derived.Test.Qxb6601793aChecked
import GoSem.Claim
import GoSem.ClaimJoined
import GoSem.ClaimMapViews
import Derived.JoinedTies
import Derived.KernelRfl
namespace Go.Proofs.Qxb6601793a
/- THE CELL 'sum', in the pinned program and in every row, IS THE sha256 OF THE DUMP (.gsa) THAT Qxb6601793aProg.lean LOADS. Nothing in Lean hashes anything: it is a label: what it is worth is what the hold of that sum in a sandbox is worth. -/
noncomputable def Try.pinned : Pinned := { name := "qxb6601793a", sum := "2fbc780a9dda3c2daba09269761ffb811562b81256c10afd9f1aef2e7090c063", checked := Try.checked }
namespace Rows
def none {H : Type} : Left H := { results := [], args := [] }

/-- 'zzlaws_pkg_nudgegraph_b1.FnNewGraphExactSpec': WHATEVER THE INPUT: true; the input reads as it did. -/
def fnNewGraphExactSpecSpec : ChangeSpec := { name := "fnNewGraphExactSpec", fn := fun _ => fun
  | [d] => { results := [.lit (.bool true)], args := [d] }
  | _ => none }
def fnNewGraphExactSpecRow : OpenClaim := { program := "qxb6601793a", sum := "2fbc780a9dda3c2daba09269761ffb811562b81256c10afd9f1aef2e7090c063", func := "example.com/ripplewake/ripplewake/zzlaws_pkg_nudgegraph_b1.FnNewGraphExactSpec", spec := "fnNewGraphExactSpec", recurses := true, apart := false }
def FnNewGraphExactSpecSaid : Prop := fnNewGraphExactSpecRow.holds Try.pinned (OpenSpec.ofChange fnNewGraphExactSpecSpec)

/-- ITS FALSE NEIGHBOUR: 'it returns false'. Refute it at one input. -/
def fnNewGraphExactSpecWrong : ChangeSpec := { name := "fnNewGraphExactSpec", fn := fun _ => fun
  | [d] => { results := [.lit (.bool false)], args := [d] }
  | _ => none }
def FnNewGraphExactSpecWrongFalsely : Prop := fnNewGraphExactSpecRow.holds Try.pinned (OpenSpec.ofChange fnNewGraphExactSpecWrong)

/-- 'zzlaws_pkg_nudgegraph_b1.FnNewGraphIgnoresOrderRepeatsAndModes': WHATEVER THE INPUT: true; the input reads as it did. -/
def fnNewGraphIgnoresOrderRepeatsAndModesSpec : ChangeSpec := { name := "fnNewGraphIgnoresOrderRepeatsAndModes", fn := fun _ => fun
  | [d] => { results := [.lit (.bool true)], args := [d] }
  | _ => none }
def fnNewGraphIgnoresOrderRepeatsAndModesRow : OpenClaim := { program := "qxb6601793a", sum := "2fbc780a9dda3c2daba09269761ffb811562b81256c10afd9f1aef2e7090c063", func := "example.com/ripplewake/ripplewake/zzlaws_pkg_nudgegraph_b1.FnNewGraphIgnoresOrderRepeatsAndModes", spec := "fnNewGraphIgnoresOrderRepeatsAndModes", recurses := true, apart := false }
def FnNewGraphIgnoresOrderRepeatsAndModesSaid : Prop := fnNewGraphIgnoresOrderRepeatsAndModesRow.holds Try.pinned (OpenSpec.ofChange fnNewGraphIgnoresOrderRepeatsAndModesSpec)

/-- ITS FALSE NEIGHBOUR: 'it returns false'. Refute it at one input. -/
def fnNewGraphIgnoresOrderRepeatsAndModesWrong : ChangeSpec := { name := "fnNewGraphIgnoresOrderRepeatsAndModes", fn := fun _ => fun
  | [d] => { results := [.lit (.bool false)], args := [d] }
  | _ => none }
def FnNewGraphIgnoresOrderRepeatsAndModesWrongFalsely : Prop := fnNewGraphIgnoresOrderRepeatsAndModesRow.holds Try.pinned (OpenSpec.ofChange fnNewGraphIgnoresOrderRepeatsAndModesWrong)

/-- 'zzlaws_pkg_nudgegraph_b1.FnComponentsAreMutualReachability': WHATEVER THE INPUT: true; the input reads as it did. -/
def fnComponentsAreMutualReachabilitySpec : ChangeSpec := { name := "fnComponentsAreMutualReachability", fn := fun _ => fun
  | [d1, d2] => { results := [.lit (.bool true)], args := [d1, d2] }
  | _ => none }
def fnComponentsAreMutualReachabilityRow : OpenClaim := { program := "qxb6601793a", sum := "2fbc780a9dda3c2daba09269761ffb811562b81256c10afd9f1aef2e7090c063", func := "example.com/ripplewake/ripplewake/zzlaws_pkg_nudgegraph_b1.FnComponentsAreMutualReachability", spec := "fnComponentsAreMutualReachability", unfollowed := true, recurses := true, apart := false }
def FnComponentsAreMutualReachabilitySaid : Prop := fnComponentsAreMutualReachabilityRow.holds Try.pinned (OpenSpec.ofChange fnComponentsAreMutualReachabilitySpec)

/-- ITS FALSE NEIGHBOUR: 'it returns false'. Refute it at one input. -/
def fnComponentsAreMutualReachabilityWrong : ChangeSpec := { name := "fnComponentsAreMutualReachability", fn := fun _ => fun
  | [d1, d2] => { results := [.lit (.bool false)], args := [d1, d2] }
  | _ => none }
def FnComponentsAreMutualReachabilityWrongFalsely : Prop := fnComponentsAreMutualReachabilityRow.holds Try.pinned (OpenSpec.ofChange fnComponentsAreMutualReachabilityWrong)

/-- 'zzlaws_pkg_nudgegraph_b1.FnComponentsSameOnReversedEdges': WHATEVER THE INPUT: true; the input reads as it did. -/
def fnComponentsSameOnReversedEdgesSpec : ChangeSpec := { name := "fnComponentsSameOnReversedEdges", fn := fun _ => fun
  | [d1, d2] => { results := [.lit (.bool true)], args := [d1, d2] }
  | _ => none }
def fnComponentsSameOnReversedEdgesRow : OpenClaim := { program := "qxb6601793a", sum := "2fbc780a9dda3c2daba09269761ffb811562b81256c10afd9f1aef2e7090c063", func := "example.com/ripplewake/ripplewake/zzlaws_pkg_nudgegraph_b1.FnComponentsSameOnReversedEdges", spec := "fnComponentsSameOnReversedEdges", unfollowed := true, recurses := true, apart := false }
def FnComponentsSameOnReversedEdgesSaid : Prop := fnComponentsSameOnReversedEdgesRow.holds Try.pinned (OpenSpec.ofChange fnComponentsSameOnReversedEdgesSpec)

/-- ITS FALSE NEIGHBOUR: 'it returns false'. Refute it at one input. -/
def fnComponentsSameOnReversedEdgesWrong : ChangeSpec := { name := "fnComponentsSameOnReversedEdges", fn := fun _ => fun
  | [d1, d2] => { results := [.lit (.bool false)], args := [d1, d2] }
  | _ => none }
def FnComponentsSameOnReversedEdgesWrongFalsely : Prop := fnComponentsSameOnReversedEdgesRow.holds Try.pinned (OpenSpec.ofChange fnComponentsSameOnReversedEdgesWrong)

/-- 'zzlaws_pkg_nudgegraph_b1.FnShortestIsAscendingBreadthFirst': WHATEVER THE INPUT: true; the input reads as it did. -/
def fnShortestIsAscendingBreadthFirstSpec : ChangeSpec := { name := "fnShortestIsAscendingBreadthFirst", fn := fun _ => fun
  | [d1, d2, d3, d4, d5, d6, d7, d8, d9, d10, d11, d12] => { results := [.lit (.bool true)], args := [d1, d2, d3, d4, d5, d6, d7, d8, d9, d10, d11, d12] }
  | _ => none }
def fnShortestIsAscendingBreadthFirstRow : OpenClaim := { program := "qxb6601793a", sum := "2fbc780a9dda3c2daba09269761ffb811562b81256c10afd9f1aef2e7090c063", func := "example.com/ripplewake/ripplewake/zzlaws_pkg_nudgegraph_b1.FnShortestIsAscendingBreadthFirst", spec := "fnShortestIsAscendingBreadthFirst", apart := false }
def FnShortestIsAscendingBreadthFirstSaid : Prop := fnShortestIsAscendingBreadthFirstRow.holds Try.pinned (OpenSpec.ofChange fnShortestIsAscendingBreadthFirstSpec)

/-- ITS FALSE NEIGHBOUR: 'it returns false'. Refute it at one input. -/
def fnShortestIsAscendingBreadthFirstWrong : ChangeSpec := { name := "fnShortestIsAscendingBreadthFirst", fn := fun _ => fun
  | [d1, d2, d3, d4, d5, d6, d7, d8, d9, d10, d11, d12] => { results := [.lit (.bool false)], args := [d1, d2, d3, d4, d5, d6, d7, d8, d9, d10, d11, d12] }
  | _ => none }
def FnShortestIsAscendingBreadthFirstWrongFalsely : Prop := fnShortestIsAscendingBreadthFirstRow.holds Try.pinned (OpenSpec.ofChange fnShortestIsAscendingBreadthFirstWrong)

end Rows
end Go.Proofs.Qxb6601793a
