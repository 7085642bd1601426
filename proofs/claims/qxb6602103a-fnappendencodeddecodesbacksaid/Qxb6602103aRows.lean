/-
  No cell of these rows narrows 'for every input' (looked for: loops, veiled, ifaces, maps, wideKeys, modest, calm, conditions, laid).
  DERIVED. THE GIVEN ROWS OF THIS SEAT. 7 by the template 'for every input the law returns true; each argument reads behind the call as it read before'; 0 by the template 'total and deterministic' (their statements: Qxb6602103aTotals.lean).
  GIVEN WITH THE SEED: the statements are not yours to turn. If you find one false, say at which input.
  Laid BY PROGRAM, IN A SANDBOX (cutbox-rows.mjs): the forced cells as the released guide's own fill.sh prints them over the translation 57bffec213635387… (all of the seat's roots in one cut). By AI agents, Wed Nov 11 2026. No macro, syntax, notation, axiom, sorry.
-/
import Derived.Test.Qxb6602103aChecked
import GoSem.Claim
import GoSem.ClaimJoined
import GoSem.ClaimMapViews
import Derived.JoinedTies
import Derived.KernelRfl
namespace Go.Proofs.Qxb6602103a
/- THE CELL 'sum', in the pinned program and in every row, IS THE sha256 OF THE DUMP (.gsa) THAT Qxb6602103aProg.lean LOADS. Nothing in Lean hashes anything: it is a label: what it is worth is what the hold of that sum in a sandbox is worth. -/
noncomputable def Try.pinned : Pinned := { name := "qxb6602103a", sum := "57bffec213635387cea0582e7a3ef1c706bbcd0291c2eefc63bfec2f48fade1a", checked := Try.checked }
namespace Rows
def none {H : Type} : Left H := { results := [], args := [] }

/-- 'zzlaws_internal_restconf_b1.FnQualityMatchesModel': WHATEVER THE INPUT: true; the input reads as it did. -/
def fnQualityMatchesModelSpec : ChangeSpec := { name := "fnQualityMatchesModel", fn := fun _ => fun
  | [d1, d2, d3, d4] => { results := [.lit (.bool true)], args := [d1, d2, d3, d4] }
  | _ => none }
def fnQualityMatchesModelRow : OpenClaim := { program := "qxb6602103a", sum := "57bffec213635387cea0582e7a3ef1c706bbcd0291c2eefc63bfec2f48fade1a", func := "example.com/yangway/yangway/zzlaws_internal_restconf_b1.FnQualityMatchesModel", spec := "fnQualityMatchesModel", inPlace := ["internal/bytealg.IndexByteString", "internal/bytealg.IndexString"], named := ["internal/bytealg.MaxLen"], apart := false }
def FnQualityMatchesModelSaid : Prop := fnQualityMatchesModelRow.holds Try.pinned (OpenSpec.ofChange fnQualityMatchesModelSpec)

/-- ITS FALSE NEIGHBOUR: 'it returns false'. Refute it at one input. -/
def fnQualityMatchesModelWrong : ChangeSpec := { name := "fnQualityMatchesModel", fn := fun _ => fun
  | [d1, d2, d3, d4] => { results := [.lit (.bool false)], args := [d1, d2, d3, d4] }
  | _ => none }
def FnQualityMatchesModelWrongFalsely : Prop := fnQualityMatchesModelRow.holds Try.pinned (OpenSpec.ofChange fnQualityMatchesModelWrong)

/-- 'zzlaws_internal_restconf_b1.FnQualityExactRangeFirstDecides': WHATEVER THE INPUT: true; the input reads as it did. -/
def fnQualityExactRangeFirstDecidesSpec : ChangeSpec := { name := "fnQualityExactRangeFirstDecides", fn := fun _ => fun
  | [d1, d2, d3, d4, d5] => { results := [.lit (.bool true)], args := [d1, d2, d3, d4, d5] }
  | _ => none }
def fnQualityExactRangeFirstDecidesRow : OpenClaim := { program := "qxb6602103a", sum := "57bffec213635387cea0582e7a3ef1c706bbcd0291c2eefc63bfec2f48fade1a", func := "example.com/yangway/yangway/zzlaws_internal_restconf_b1.FnQualityExactRangeFirstDecides", spec := "fnQualityExactRangeFirstDecides", inPlace := ["internal/bytealg.IndexByteString", "internal/bytealg.IndexString"], named := ["internal/bytealg.MaxLen"], apart := false }
def FnQualityExactRangeFirstDecidesSaid : Prop := fnQualityExactRangeFirstDecidesRow.holds Try.pinned (OpenSpec.ofChange fnQualityExactRangeFirstDecidesSpec)

/-- ITS FALSE NEIGHBOUR: 'it returns false'. Refute it at one input. -/
def fnQualityExactRangeFirstDecidesWrong : ChangeSpec := { name := "fnQualityExactRangeFirstDecides", fn := fun _ => fun
  | [d1, d2, d3, d4, d5] => { results := [.lit (.bool false)], args := [d1, d2, d3, d4, d5] }
  | _ => none }
def FnQualityExactRangeFirstDecidesWrongFalsely : Prop := fnQualityExactRangeFirstDecidesRow.holds Try.pinned (OpenSpec.ofChange fnQualityExactRangeFirstDecidesWrong)

/-- 'zzlaws_internal_restconf_b1.FnQualityIgnoresForeignRange': WHATEVER THE INPUT: true; the input reads as it did. -/
def fnQualityIgnoresForeignRangeSpec : ChangeSpec := { name := "fnQualityIgnoresForeignRange", fn := fun _ => fun
  | [d1, d2, d3, d4, d5, d6, d7] => { results := [.lit (.bool true)], args := [d1, d2, d3, d4, d5, d6, d7] }
  | _ => none }
def fnQualityIgnoresForeignRangeRow : OpenClaim := { program := "qxb6602103a", sum := "57bffec213635387cea0582e7a3ef1c706bbcd0291c2eefc63bfec2f48fade1a", func := "example.com/yangway/yangway/zzlaws_internal_restconf_b1.FnQualityIgnoresForeignRange", spec := "fnQualityIgnoresForeignRange", inPlace := ["internal/bytealg.IndexByteString", "internal/bytealg.IndexString"], named := ["internal/bytealg.MaxLen"], apart := false }
def FnQualityIgnoresForeignRangeSaid : Prop := fnQualityIgnoresForeignRangeRow.holds Try.pinned (OpenSpec.ofChange fnQualityIgnoresForeignRangeSpec)

/-- ITS FALSE NEIGHBOUR: 'it returns false'. Refute it at one input. -/
def fnQualityIgnoresForeignRangeWrong : ChangeSpec := { name := "fnQualityIgnoresForeignRange", fn := fun _ => fun
  | [d1, d2, d3, d4, d5, d6, d7] => { results := [.lit (.bool false)], args := [d1, d2, d3, d4, d5, d6, d7] }
  | _ => none }
def FnQualityIgnoresForeignRangeWrongFalsely : Prop := fnQualityIgnoresForeignRangeRow.holds Try.pinned (OpenSpec.ofChange fnQualityIgnoresForeignRangeWrong)

/-- 'zzlaws_internal_restconf_b1.FnAppendEncodedDecodesBack': WHATEVER THE INPUT: true; the input reads as it did. -/
def fnAppendEncodedDecodesBackSpec : ChangeSpec := { name := "fnAppendEncodedDecodesBack", fn := fun _ => fun
  | [d] => { results := [.lit (.bool true)], args := [d] }
  | _ => none }
def fnAppendEncodedDecodesBackRow : OpenClaim := { program := "qxb6602103a", sum := "57bffec213635387cea0582e7a3ef1c706bbcd0291c2eefc63bfec2f48fade1a", func := "example.com/yangway/yangway/zzlaws_internal_restconf_b1.FnAppendEncodedDecodesBack", spec := "fnAppendEncodedDecodesBack", apart := false }
def FnAppendEncodedDecodesBackSaid : Prop := fnAppendEncodedDecodesBackRow.holds Try.pinned (OpenSpec.ofChange fnAppendEncodedDecodesBackSpec)

/-- ITS FALSE NEIGHBOUR: 'it returns false'. Refute it at one input. -/
def fnAppendEncodedDecodesBackWrong : ChangeSpec := { name := "fnAppendEncodedDecodesBack", fn := fun _ => fun
  | [d] => { results := [.lit (.bool false)], args := [d] }
  | _ => none }
def FnAppendEncodedDecodesBackWrongFalsely : Prop := fnAppendEncodedDecodesBackRow.holds Try.pinned (OpenSpec.ofChange fnAppendEncodedDecodesBackWrong)

/-- 'zzlaws_internal_restconf_b1.FnAppendEncodedSplits': WHATEVER THE INPUT: true; the input reads as it did. -/
def fnAppendEncodedSplitsSpec : ChangeSpec := { name := "fnAppendEncodedSplits", fn := fun _ => fun
  | [d1, d2, d3] => { results := [.lit (.bool true)], args := [d1, d2, d3] }
  | _ => none }
def fnAppendEncodedSplitsRow : OpenClaim := { program := "qxb6602103a", sum := "57bffec213635387cea0582e7a3ef1c706bbcd0291c2eefc63bfec2f48fade1a", func := "example.com/yangway/yangway/zzlaws_internal_restconf_b1.FnAppendEncodedSplits", spec := "fnAppendEncodedSplits", apart := false }
def FnAppendEncodedSplitsSaid : Prop := fnAppendEncodedSplitsRow.holds Try.pinned (OpenSpec.ofChange fnAppendEncodedSplitsSpec)

/-- ITS FALSE NEIGHBOUR: 'it returns false'. Refute it at one input. -/
def fnAppendEncodedSplitsWrong : ChangeSpec := { name := "fnAppendEncodedSplits", fn := fun _ => fun
  | [d1, d2, d3] => { results := [.lit (.bool false)], args := [d1, d2, d3] }
  | _ => none }
def FnAppendEncodedSplitsWrongFalsely : Prop := fnAppendEncodedSplitsRow.holds Try.pinned (OpenSpec.ofChange fnAppendEncodedSplitsWrong)

/-- 'zzlaws_internal_restconf_b1.FnAppendSegmentParsesBack': WHATEVER THE INPUT: true; the input reads as it did. -/
def fnAppendSegmentParsesBackSpec : ChangeSpec := { name := "fnAppendSegmentParsesBack", fn := fun _ => fun
  | [d1, d2, d3, d4] => { results := [.lit (.bool true)], args := [d1, d2, d3, d4] }
  | _ => none }
def fnAppendSegmentParsesBackRow : OpenClaim := { program := "qxb6602103a", sum := "57bffec213635387cea0582e7a3ef1c706bbcd0291c2eefc63bfec2f48fade1a", func := "example.com/yangway/yangway/zzlaws_internal_restconf_b1.FnAppendSegmentParsesBack", spec := "fnAppendSegmentParsesBack", apart := false }
def FnAppendSegmentParsesBackSaid : Prop := fnAppendSegmentParsesBackRow.holds Try.pinned (OpenSpec.ofChange fnAppendSegmentParsesBackSpec)

/-- ITS FALSE NEIGHBOUR: 'it returns false'. Refute it at one input. -/
def fnAppendSegmentParsesBackWrong : ChangeSpec := { name := "fnAppendSegmentParsesBack", fn := fun _ => fun
  | [d1, d2, d3, d4] => { results := [.lit (.bool false)], args := [d1, d2, d3, d4] }
  | _ => none }
def FnAppendSegmentParsesBackWrongFalsely : Prop := fnAppendSegmentParsesBackRow.holds Try.pinned (OpenSpec.ofChange fnAppendSegmentParsesBackWrong)

/-- 'zzlaws_internal_restconf_b1.FnAppendSegmentChainsAsConcatenation': WHATEVER THE INPUT: true; the input reads as it did. -/
def fnAppendSegmentChainsAsConcatenationSpec : ChangeSpec := { name := "fnAppendSegmentChainsAsConcatenation", fn := fun _ => fun
  | [d1, d2, d3, d4, d5, d6, d7] => { results := [.lit (.bool true)], args := [d1, d2, d3, d4, d5, d6, d7] }
  | _ => none }
def fnAppendSegmentChainsAsConcatenationRow : OpenClaim := { program := "qxb6602103a", sum := "57bffec213635387cea0582e7a3ef1c706bbcd0291c2eefc63bfec2f48fade1a", func := "example.com/yangway/yangway/zzlaws_internal_restconf_b1.FnAppendSegmentChainsAsConcatenation", spec := "fnAppendSegmentChainsAsConcatenation", apart := false }
def FnAppendSegmentChainsAsConcatenationSaid : Prop := fnAppendSegmentChainsAsConcatenationRow.holds Try.pinned (OpenSpec.ofChange fnAppendSegmentChainsAsConcatenationSpec)

/-- ITS FALSE NEIGHBOUR: 'it returns false'. Refute it at one input. -/
def fnAppendSegmentChainsAsConcatenationWrong : ChangeSpec := { name := "fnAppendSegmentChainsAsConcatenation", fn := fun _ => fun
  | [d1, d2, d3, d4, d5, d6, d7] => { results := [.lit (.bool false)], args := [d1, d2, d3, d4, d5, d6, d7] }
  | _ => none }
def FnAppendSegmentChainsAsConcatenationWrongFalsely : Prop := fnAppendSegmentChainsAsConcatenationRow.holds Try.pinned (OpenSpec.ofChange fnAppendSegmentChainsAsConcatenationWrong)

end Rows
end Go.Proofs.Qxb6602103a
