/-
  No cell of these rows narrows 'for every input' (looked for: loops, veiled, ifaces, maps, wideKeys, modest, calm, conditions, laid).
  DERIVED. THE GIVEN ROWS OF THIS SEAT. 5 by the template 'for every input the law returns true; each argument reads behind the call as it read before'; 0 by the template 'total and deterministic' (their statements: Qxb6601391aTotals.lean).
  GIVEN WITH THE SEED: the statements are not yours to turn. If you find one false, say at which input.
  Laid BY PROGRAM, IN A SANDBOX (cutbox-rows.mjs): the forced cells as the released guide's own fill.sh prints them over the translation 5938f353f89ba34d… (all of the seat's roots in one cut). By AI agents, Wed Nov 11 2026. No macro, syntax, notation, axiom, sorry.
-/
import Derived.Test.Qxb6601391aChecked
import GoSem.Claim
import GoSem.ClaimJoined
import GoSem.ClaimMapViews
import Derived.JoinedTies
import Derived.KernelRfl
namespace Go.Proofs.Qxb6601391a
/- THE CELL 'sum', in the pinned program and in every row, IS THE sha256 OF THE DUMP (.gsa) THAT Qxb6601391aProg.lean LOADS. Nothing in Lean hashes anything: it is a label: what it is worth is what the hold of that sum in a sandbox is worth. -/
noncomputable def Try.pinned : Pinned := { name := "qxb6601391a", sum := "5938f353f89ba34d7e4d28d1265113114cb9e4cd7480fa4ff23adefde57a1013", checked := Try.checked }
namespace Rows
def none {H : Type} : Left H := { results := [], args := [] }

/-- 'zzlaws_internal_check_b1.FnNewGraphGroupsEdgesBySource': WHATEVER THE INPUT: true; the input reads as it did. -/
def fnNewGraphGroupsEdgesBySourceSpec : ChangeSpec := { name := "fnNewGraphGroupsEdgesBySource", fn := fun _ => fun
  | [d1, d2, d3, d4] => { results := [.lit (.bool true)], args := [d1, d2, d3, d4] }
  | _ => none }
def fnNewGraphGroupsEdgesBySourceRow : OpenClaim := { program := "qxb6601391a", sum := "5938f353f89ba34d7e4d28d1265113114cb9e4cd7480fa4ff23adefde57a1013", func := "example.com/interleave/interleave/zzlaws_internal_check_b1.FnNewGraphGroupsEdgesBySource", spec := "fnNewGraphGroupsEdgesBySource", apart := false }
def FnNewGraphGroupsEdgesBySourceSaid : Prop := fnNewGraphGroupsEdgesBySourceRow.holds Try.pinned (OpenSpec.ofChange fnNewGraphGroupsEdgesBySourceSpec)

/-- ITS FALSE NEIGHBOUR: 'it returns false'. Refute it at one input. -/
def fnNewGraphGroupsEdgesBySourceWrong : ChangeSpec := { name := "fnNewGraphGroupsEdgesBySource", fn := fun _ => fun
  | [d1, d2, d3, d4] => { results := [.lit (.bool false)], args := [d1, d2, d3, d4] }
  | _ => none }
def FnNewGraphGroupsEdgesBySourceWrongFalsely : Prop := fnNewGraphGroupsEdgesBySourceRow.holds Try.pinned (OpenSpec.ofChange fnNewGraphGroupsEdgesBySourceWrong)

/-- 'zzlaws_internal_check_b1.FnComponentsAreMutualReachability': WHATEVER THE INPUT: true; the input reads as it did. -/
def fnComponentsAreMutualReachabilitySpec : ChangeSpec := { name := "fnComponentsAreMutualReachability", fn := fun _ => fun
  | [d1, d2, d3] => { results := [.lit (.bool true)], args := [d1, d2, d3] }
  | _ => none }
def fnComponentsAreMutualReachabilityRow : OpenClaim := { program := "qxb6601391a", sum := "5938f353f89ba34d7e4d28d1265113114cb9e4cd7480fa4ff23adefde57a1013", func := "example.com/interleave/interleave/zzlaws_internal_check_b1.FnComponentsAreMutualReachability", spec := "fnComponentsAreMutualReachability", unfollowed := true, recurses := true, apart := false }
def FnComponentsAreMutualReachabilitySaid : Prop := fnComponentsAreMutualReachabilityRow.holds Try.pinned (OpenSpec.ofChange fnComponentsAreMutualReachabilitySpec)

/-- ITS FALSE NEIGHBOUR: 'it returns false'. Refute it at one input. -/
def fnComponentsAreMutualReachabilityWrong : ChangeSpec := { name := "fnComponentsAreMutualReachability", fn := fun _ => fun
  | [d1, d2, d3] => { results := [.lit (.bool false)], args := [d1, d2, d3] }
  | _ => none }
def FnComponentsAreMutualReachabilityWrongFalsely : Prop := fnComponentsAreMutualReachabilityRow.holds Try.pinned (OpenSpec.ofChange fnComponentsAreMutualReachabilityWrong)

/-- 'zzlaws_internal_check_b1.FnComponentsSameOnReversedGraph': WHATEVER THE INPUT: true; the input reads as it did. -/
def fnComponentsSameOnReversedGraphSpec : ChangeSpec := { name := "fnComponentsSameOnReversedGraph", fn := fun _ => fun
  | [d1, d2, d3] => { results := [.lit (.bool true)], args := [d1, d2, d3] }
  | _ => none }
def fnComponentsSameOnReversedGraphRow : OpenClaim := { program := "qxb6601391a", sum := "5938f353f89ba34d7e4d28d1265113114cb9e4cd7480fa4ff23adefde57a1013", func := "example.com/interleave/interleave/zzlaws_internal_check_b1.FnComponentsSameOnReversedGraph", spec := "fnComponentsSameOnReversedGraph", unfollowed := true, recurses := true, apart := false }
def FnComponentsSameOnReversedGraphSaid : Prop := fnComponentsSameOnReversedGraphRow.holds Try.pinned (OpenSpec.ofChange fnComponentsSameOnReversedGraphSpec)

/-- ITS FALSE NEIGHBOUR: 'it returns false'. Refute it at one input. -/
def fnComponentsSameOnReversedGraphWrong : ChangeSpec := { name := "fnComponentsSameOnReversedGraph", fn := fun _ => fun
  | [d1, d2, d3] => { results := [.lit (.bool false)], args := [d1, d2, d3] }
  | _ => none }
def FnComponentsSameOnReversedGraphWrongFalsely : Prop := fnComponentsSameOnReversedGraphRow.holds Try.pinned (OpenSpec.ofChange fnComponentsSameOnReversedGraphWrong)

/-- 'zzlaws_internal_check_b1.FnPlacingReadTwiceIsOnce': WHATEVER THE INPUT: true; the input reads as it did. -/
def fnPlacingReadTwiceIsOnceSpec : ChangeSpec := { name := "fnPlacingReadTwiceIsOnce", fn := fun _ => fun
  | [d1, d2, d3, d4, d5, d6, d7] => { results := [.lit (.bool true)], args := [d1, d2, d3, d4, d5, d6, d7] }
  | _ => none }
def fnPlacingReadTwiceIsOnceRow : OpenClaim := { program := "qxb6601391a", sum := "5938f353f89ba34d7e4d28d1265113114cb9e4cd7480fa4ff23adefde57a1013", func := "example.com/interleave/interleave/zzlaws_internal_check_b1.FnPlacingReadTwiceIsOnce", spec := "fnPlacingReadTwiceIsOnce", apart := false }
def FnPlacingReadTwiceIsOnceSaid : Prop := fnPlacingReadTwiceIsOnceRow.holds Try.pinned (OpenSpec.ofChange fnPlacingReadTwiceIsOnceSpec)

/-- ITS FALSE NEIGHBOUR: 'it returns false'. Refute it at one input. -/
def fnPlacingReadTwiceIsOnceWrong : ChangeSpec := { name := "fnPlacingReadTwiceIsOnce", fn := fun _ => fun
  | [d1, d2, d3, d4, d5, d6, d7] => { results := [.lit (.bool false)], args := [d1, d2, d3, d4, d5, d6, d7] }
  | _ => none }
def FnPlacingReadTwiceIsOnceWrongFalsely : Prop := fnPlacingReadTwiceIsOnceRow.holds Try.pinned (OpenSpec.ofChange fnPlacingReadTwiceIsOnceWrong)

/-- 'zzlaws_internal_check_b1.FnPlacingReadOrderFree': WHATEVER THE INPUT: true; the input reads as it did. -/
def fnPlacingReadOrderFreeSpec : ChangeSpec := { name := "fnPlacingReadOrderFree", fn := fun _ => fun
  | [d1, d2, d3, d4, d5, d6, d7, d8, d9, d10] => { results := [.lit (.bool true)], args := [d1, d2, d3, d4, d5, d6, d7, d8, d9, d10] }
  | _ => none }
def fnPlacingReadOrderFreeRow : OpenClaim := { program := "qxb6601391a", sum := "5938f353f89ba34d7e4d28d1265113114cb9e4cd7480fa4ff23adefde57a1013", func := "example.com/interleave/interleave/zzlaws_internal_check_b1.FnPlacingReadOrderFree", spec := "fnPlacingReadOrderFree", apart := false }
def FnPlacingReadOrderFreeSaid : Prop := fnPlacingReadOrderFreeRow.holds Try.pinned (OpenSpec.ofChange fnPlacingReadOrderFreeSpec)

/-- ITS FALSE NEIGHBOUR: 'it returns false'. Refute it at one input. -/
def fnPlacingReadOrderFreeWrong : ChangeSpec := { name := "fnPlacingReadOrderFree", fn := fun _ => fun
  | [d1, d2, d3, d4, d5, d6, d7, d8, d9, d10] => { results := [.lit (.bool false)], args := [d1, d2, d3, d4, d5, d6, d7, d8, d9, d10] }
  | _ => none }
def FnPlacingReadOrderFreeWrongFalsely : Prop := fnPlacingReadOrderFreeRow.holds Try.pinned (OpenSpec.ofChange fnPlacingReadOrderFreeWrong)

end Rows
end Go.Proofs.Qxb6601391a
