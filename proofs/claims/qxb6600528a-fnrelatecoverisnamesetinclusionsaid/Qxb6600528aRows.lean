/-
  No cell of these rows narrows 'for every input' (looked for: loops, veiled, ifaces, maps, wideKeys, modest, calm, conditions, laid).
  DERIVED. THE GIVEN ROWS OF THIS SEAT. 7 by the template 'for every input the law returns true; each argument reads behind the call as it read before'; 0 by the template 'total and deterministic' (their statements: Qxb6600528aTotals.lean).
  GIVEN WITH THE SEED: the statements are not yours to turn. If you find one false, say at which input.
  Laid BY PROGRAM, IN A SANDBOX (cutbox-rows.mjs): the forced cells as the released guide's own fill.sh prints them over the translation d341c689432d901d… (all of the seat's roots in one cut). By AI agents, Wed Nov 11 2026. No macro, syntax, notation, axiom, sorry.
-/
import Derived.Test.Qxb6600528aChecked
import GoSem.Claim
import GoSem.ClaimJoined
import GoSem.ClaimMapViews
import Derived.JoinedTies
import Derived.KernelRfl
namespace Go.Proofs.Qxb6600528a
/- THE CELL 'sum', in the pinned program and in every row, IS THE sha256 OF THE DUMP (.gsa) THAT Qxb6600528aProg.lean LOADS. Nothing in Lean hashes anything: it is a label: what it is worth is what the hold of that sum in a sandbox is worth. -/
noncomputable def Try.pinned : Pinned := { name := "qxb6600528a", sum := "d341c689432d901d3404e44c4b77eedbc4e79f41fffa8148d92ae948dbed78f8", checked := Try.checked }
namespace Rows
def none {H : Type} : Left H := { results := [], args := [] }

/-- 'zzlaws_root_b1.FnRelateCoverIsNameSetInclusion': WHATEVER THE INPUT: true; the input reads as it did. -/
def fnRelateCoverIsNameSetInclusionSpec : ChangeSpec := { name := "fnRelateCoverIsNameSetInclusion", fn := fun _ => fun
  | [d1, d2] => { results := [.lit (.bool true)], args := [d1, d2] }
  | _ => none }
def fnRelateCoverIsNameSetInclusionRow : OpenClaim := { program := "qxb6600528a", sum := "d341c689432d901d3404e44c4b77eedbc4e79f41fffa8148d92ae948dbed78f8", func := "example.com/topicward/topicward/zzlaws_root_b1.FnRelateCoverIsNameSetInclusion", spec := "fnRelateCoverIsNameSetInclusion", inPlace := ["internal/bytealg.IndexByteString", "internal/bytealg.IndexString"], named := ["internal/bytealg.MaxLen"], apart := false }
def FnRelateCoverIsNameSetInclusionSaid : Prop := fnRelateCoverIsNameSetInclusionRow.holds Try.pinned (OpenSpec.ofChange fnRelateCoverIsNameSetInclusionSpec)

/-- ITS FALSE NEIGHBOUR: 'it returns false'. Refute it at one input. -/
def fnRelateCoverIsNameSetInclusionWrong : ChangeSpec := { name := "fnRelateCoverIsNameSetInclusion", fn := fun _ => fun
  | [d1, d2] => { results := [.lit (.bool false)], args := [d1, d2] }
  | _ => none }
def FnRelateCoverIsNameSetInclusionWrongFalsely : Prop := fnRelateCoverIsNameSetInclusionRow.holds Try.pinned (OpenSpec.ofChange fnRelateCoverIsNameSetInclusionWrong)

/-- 'zzlaws_root_b1.FnRelateOverlapIsCommonName': WHATEVER THE INPUT: true; the input reads as it did. -/
def fnRelateOverlapIsCommonNameSpec : ChangeSpec := { name := "fnRelateOverlapIsCommonName", fn := fun _ => fun
  | [d1, d2] => { results := [.lit (.bool true)], args := [d1, d2] }
  | _ => none }
def fnRelateOverlapIsCommonNameRow : OpenClaim := { program := "qxb6600528a", sum := "d341c689432d901d3404e44c4b77eedbc4e79f41fffa8148d92ae948dbed78f8", func := "example.com/topicward/topicward/zzlaws_root_b1.FnRelateOverlapIsCommonName", spec := "fnRelateOverlapIsCommonName", inPlace := ["internal/bytealg.IndexByteString", "internal/bytealg.IndexString"], named := ["internal/bytealg.MaxLen"], apart := false }
def FnRelateOverlapIsCommonNameSaid : Prop := fnRelateOverlapIsCommonNameRow.holds Try.pinned (OpenSpec.ofChange fnRelateOverlapIsCommonNameSpec)

/-- ITS FALSE NEIGHBOUR: 'it returns false'. Refute it at one input. -/
def fnRelateOverlapIsCommonNameWrong : ChangeSpec := { name := "fnRelateOverlapIsCommonName", fn := fun _ => fun
  | [d1, d2] => { results := [.lit (.bool false)], args := [d1, d2] }
  | _ => none }
def FnRelateOverlapIsCommonNameWrongFalsely : Prop := fnRelateOverlapIsCommonNameRow.holds Try.pinned (OpenSpec.ofChange fnRelateOverlapIsCommonNameWrong)

/-- 'zzlaws_root_b1.FnRelateReflexiveSymmetricCoverBelowOverlap': WHATEVER THE INPUT: true; the input reads as it did. -/
def fnRelateReflexiveSymmetricCoverBelowOverlapSpec : ChangeSpec := { name := "fnRelateReflexiveSymmetricCoverBelowOverlap", fn := fun _ => fun
  | [d1, d2] => { results := [.lit (.bool true)], args := [d1, d2] }
  | _ => none }
def fnRelateReflexiveSymmetricCoverBelowOverlapRow : OpenClaim := { program := "qxb6600528a", sum := "d341c689432d901d3404e44c4b77eedbc4e79f41fffa8148d92ae948dbed78f8", func := "example.com/topicward/topicward/zzlaws_root_b1.FnRelateReflexiveSymmetricCoverBelowOverlap", spec := "fnRelateReflexiveSymmetricCoverBelowOverlap", inPlace := ["internal/bytealg.IndexByteString", "internal/bytealg.IndexString"], named := ["internal/bytealg.MaxLen"], apart := false }
def FnRelateReflexiveSymmetricCoverBelowOverlapSaid : Prop := fnRelateReflexiveSymmetricCoverBelowOverlapRow.holds Try.pinned (OpenSpec.ofChange fnRelateReflexiveSymmetricCoverBelowOverlapSpec)

/-- ITS FALSE NEIGHBOUR: 'it returns false'. Refute it at one input. -/
def fnRelateReflexiveSymmetricCoverBelowOverlapWrong : ChangeSpec := { name := "fnRelateReflexiveSymmetricCoverBelowOverlap", fn := fun _ => fun
  | [d1, d2] => { results := [.lit (.bool false)], args := [d1, d2] }
  | _ => none }
def FnRelateReflexiveSymmetricCoverBelowOverlapWrongFalsely : Prop := fnRelateReflexiveSymmetricCoverBelowOverlapRow.holds Try.pinned (OpenSpec.ofChange fnRelateReflexiveSymmetricCoverBelowOverlapWrong)

/-- 'zzlaws_root_b1.FnSkipBetweenValuesRestsOnAValueAndIsIdempotent': WHATEVER THE INPUT: true; the input reads as it did. -/
def fnSkipBetweenValuesRestsOnAValueAndIsIdempotentSpec : ChangeSpec := { name := "fnSkipBetweenValuesRestsOnAValueAndIsIdempotent", fn := fun _ => fun
  | [d1, d2] => { results := [.lit (.bool true)], args := [d1, d2] }
  | _ => none }
def fnSkipBetweenValuesRestsOnAValueAndIsIdempotentRow : OpenClaim := { program := "qxb6600528a", sum := "d341c689432d901d3404e44c4b77eedbc4e79f41fffa8148d92ae948dbed78f8", func := "example.com/topicward/topicward/zzlaws_root_b1.FnSkipBetweenValuesRestsOnAValueAndIsIdempotent", spec := "fnSkipBetweenValuesRestsOnAValueAndIsIdempotent", inPlace := ["internal/bytealg.IndexByte"], apart := false }
def FnSkipBetweenValuesRestsOnAValueAndIsIdempotentSaid : Prop := fnSkipBetweenValuesRestsOnAValueAndIsIdempotentRow.holds Try.pinned (OpenSpec.ofChange fnSkipBetweenValuesRestsOnAValueAndIsIdempotentSpec)

/-- ITS FALSE NEIGHBOUR: 'it returns false'. Refute it at one input. -/
def fnSkipBetweenValuesRestsOnAValueAndIsIdempotentWrong : ChangeSpec := { name := "fnSkipBetweenValuesRestsOnAValueAndIsIdempotent", fn := fun _ => fun
  | [d1, d2] => { results := [.lit (.bool false)], args := [d1, d2] }
  | _ => none }
def FnSkipBetweenValuesRestsOnAValueAndIsIdempotentWrongFalsely : Prop := fnSkipBetweenValuesRestsOnAValueAndIsIdempotentRow.holds Try.pinned (OpenSpec.ofChange fnSkipBetweenValuesRestsOnAValueAndIsIdempotentWrong)

/-- 'zzlaws_root_b1.FnSkipBetweenValuesShiftInvariant': WHATEVER THE INPUT: true; the input reads as it did. -/
def fnSkipBetweenValuesShiftInvariantSpec : ChangeSpec := { name := "fnSkipBetweenValuesShiftInvariant", fn := fun _ => fun
  | [d1, d2, d3] => { results := [.lit (.bool true)], args := [d1, d2, d3] }
  | _ => none }
def fnSkipBetweenValuesShiftInvariantRow : OpenClaim := { program := "qxb6600528a", sum := "d341c689432d901d3404e44c4b77eedbc4e79f41fffa8148d92ae948dbed78f8", func := "example.com/topicward/topicward/zzlaws_root_b1.FnSkipBetweenValuesShiftInvariant", spec := "fnSkipBetweenValuesShiftInvariant", inPlace := ["internal/bytealg.IndexByte"], apart := false }
def FnSkipBetweenValuesShiftInvariantSaid : Prop := fnSkipBetweenValuesShiftInvariantRow.holds Try.pinned (OpenSpec.ofChange fnSkipBetweenValuesShiftInvariantSpec)

/-- ITS FALSE NEIGHBOUR: 'it returns false'. Refute it at one input. -/
def fnSkipBetweenValuesShiftInvariantWrong : ChangeSpec := { name := "fnSkipBetweenValuesShiftInvariant", fn := fun _ => fun
  | [d1, d2, d3] => { results := [.lit (.bool false)], args := [d1, d2, d3] }
  | _ => none }
def FnSkipBetweenValuesShiftInvariantWrongFalsely : Prop := fnSkipBetweenValuesShiftInvariantRow.holds Try.pinned (OpenSpec.ofChange fnSkipBetweenValuesShiftInvariantWrong)

/-- 'zzlaws_root_b1.FnNextStepsOverTheSlashFreeRunAtOff': WHATEVER THE INPUT: true; the input reads as it did. -/
def fnNextStepsOverTheSlashFreeRunAtOffSpec : ChangeSpec := { name := "fnNextStepsOverTheSlashFreeRunAtOff", fn := fun _ => fun
  | [d1, d2, d3, d4, d5, d6] => { results := [.lit (.bool true)], args := [d1, d2, d3, d4, d5, d6] }
  | _ => none }
def fnNextStepsOverTheSlashFreeRunAtOffRow : OpenClaim := { program := "qxb6600528a", sum := "d341c689432d901d3404e44c4b77eedbc4e79f41fffa8148d92ae948dbed78f8", func := "example.com/topicward/topicward/zzlaws_root_b1.FnNextStepsOverTheSlashFreeRunAtOff", spec := "fnNextStepsOverTheSlashFreeRunAtOff", inPlace := ["internal/bytealg.IndexByteString"], apart := false }
def FnNextStepsOverTheSlashFreeRunAtOffSaid : Prop := fnNextStepsOverTheSlashFreeRunAtOffRow.holds Try.pinned (OpenSpec.ofChange fnNextStepsOverTheSlashFreeRunAtOffSpec)

/-- ITS FALSE NEIGHBOUR: 'it returns false'. Refute it at one input. -/
def fnNextStepsOverTheSlashFreeRunAtOffWrong : ChangeSpec := { name := "fnNextStepsOverTheSlashFreeRunAtOff", fn := fun _ => fun
  | [d1, d2, d3, d4, d5, d6] => { results := [.lit (.bool false)], args := [d1, d2, d3, d4, d5, d6] }
  | _ => none }
def FnNextStepsOverTheSlashFreeRunAtOffWrongFalsely : Prop := fnNextStepsOverTheSlashFreeRunAtOffRow.holds Try.pinned (OpenSpec.ofChange fnNextStepsOverTheSlashFreeRunAtOffWrong)

/-- 'zzlaws_root_b1.FnNextWalksTheTopicLevelByLevel': WHATEVER THE INPUT: true; the input reads as it did. -/
def fnNextWalksTheTopicLevelByLevelSpec : ChangeSpec := { name := "fnNextWalksTheTopicLevelByLevel", fn := fun _ => fun
  | [d1, d2, d3, d4, d5] => { results := [.lit (.bool true)], args := [d1, d2, d3, d4, d5] }
  | _ => none }
def fnNextWalksTheTopicLevelByLevelRow : OpenClaim := { program := "qxb6600528a", sum := "d341c689432d901d3404e44c4b77eedbc4e79f41fffa8148d92ae948dbed78f8", func := "example.com/topicward/topicward/zzlaws_root_b1.FnNextWalksTheTopicLevelByLevel", spec := "fnNextWalksTheTopicLevelByLevel", inPlace := ["internal/bytealg.IndexByteString"], apart := false }
def FnNextWalksTheTopicLevelByLevelSaid : Prop := fnNextWalksTheTopicLevelByLevelRow.holds Try.pinned (OpenSpec.ofChange fnNextWalksTheTopicLevelByLevelSpec)

/-- ITS FALSE NEIGHBOUR: 'it returns false'. Refute it at one input. -/
def fnNextWalksTheTopicLevelByLevelWrong : ChangeSpec := { name := "fnNextWalksTheTopicLevelByLevel", fn := fun _ => fun
  | [d1, d2, d3, d4, d5] => { results := [.lit (.bool false)], args := [d1, d2, d3, d4, d5] }
  | _ => none }
def FnNextWalksTheTopicLevelByLevelWrongFalsely : Prop := fnNextWalksTheTopicLevelByLevelRow.holds Try.pinned (OpenSpec.ofChange fnNextWalksTheTopicLevelByLevelWrong)

end Rows
end Go.Proofs.Qxb6600528a
