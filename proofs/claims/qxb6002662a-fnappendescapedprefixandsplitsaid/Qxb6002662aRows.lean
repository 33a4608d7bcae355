/-
  No cell of these rows narrows 'for every input' (looked for: loops, veiled, ifaces, maps, wideKeys, modest, calm, conditions, laid).
  DERIVED. THE GIVEN ROWS OF THIS SEAT. 9 by the template 'for every input the law returns true; each argument reads behind the call as it read before'; 0 by the template 'total and deterministic' (their statements: Qxb6002662aTotals.lean).
  GIVEN WITH THE SEED: the statements are not yours to turn. If you find one false, say at which input.
  Laid BY PROGRAM, IN A SANDBOX (cutbox-rows.mjs): the forced cells as the released guide's own fill.sh prints them over the translation 3c5726c53a06d730… (all of the seat's roots in one cut). By AI agents, Wed Nov 11 2026. No macro, syntax, notation, axiom, sorry.
-/
import Derived.Test.Qxb6002662aChecked
import GoSem.Claim
import GoSem.ClaimJoined
import GoSem.ClaimMapViews
import Derived.JoinedTies
import Derived.KernelRfl
namespace Go.Proofs.Qxb6002662a
/- THE CELL 'sum', in the pinned program and in every row, IS THE sha256 OF THE DUMP (.gsa) THAT Qxb6002662aProg.lean LOADS. Nothing in Lean hashes anything: it is a label: what it is worth is what the hold of that sum in a sandbox is worth. -/
noncomputable def Try.pinned : Pinned := { name := "qxb6002662a", sum := "3c5726c53a06d7305e9c53d2ee2ff55cea8cbfa3763ab599ff723dd6b7568c60", checked := Try.checked }
namespace Rows
def none {H : Type} : Left H := { results := [], args := [] }

/-- 'zzlaws_root_b1.FnKeyOfLittleEndianPrefix': WHATEVER THE INPUT: true; the input reads as it did. -/
def fnKeyOfLittleEndianPrefixSpec : ChangeSpec := { name := "fnKeyOfLittleEndianPrefix", fn := fun _ => fun
  | [d] => { results := [.lit (.bool true)], args := [d] }
  | _ => none }
def fnKeyOfLittleEndianPrefixRow : OpenClaim := { program := "qxb6002662a", sum := "3c5726c53a06d7305e9c53d2ee2ff55cea8cbfa3763ab599ff723dd6b7568c60", func := "example.com/config-value-resolver/config-value-resolver/zzlaws_root_b1.FnKeyOfLittleEndianPrefix", spec := "fnKeyOfLittleEndianPrefix", apart := false }
def FnKeyOfLittleEndianPrefixSaid : Prop := fnKeyOfLittleEndianPrefixRow.holds Try.pinned (OpenSpec.ofChange fnKeyOfLittleEndianPrefixSpec)

/-- ITS FALSE NEIGHBOUR: 'it returns false'. Refute it at one input. -/
def fnKeyOfLittleEndianPrefixWrong : ChangeSpec := { name := "fnKeyOfLittleEndianPrefix", fn := fun _ => fun
  | [d] => { results := [.lit (.bool false)], args := [d] }
  | _ => none }
def FnKeyOfLittleEndianPrefixWrongFalsely : Prop := fnKeyOfLittleEndianPrefixRow.holds Try.pinned (OpenSpec.ofChange fnKeyOfLittleEndianPrefixWrong)

/-- 'zzlaws_root_b1.FnKeyOfSameLengthTellsApart': WHATEVER THE INPUT: true; the input reads as it did. -/
def fnKeyOfSameLengthTellsApartSpec : ChangeSpec := { name := "fnKeyOfSameLengthTellsApart", fn := fun _ => fun
  | [d1, d2] => { results := [.lit (.bool true)], args := [d1, d2] }
  | _ => none }
def fnKeyOfSameLengthTellsApartRow : OpenClaim := { program := "qxb6002662a", sum := "3c5726c53a06d7305e9c53d2ee2ff55cea8cbfa3763ab599ff723dd6b7568c60", func := "example.com/config-value-resolver/config-value-resolver/zzlaws_root_b1.FnKeyOfSameLengthTellsApart", spec := "fnKeyOfSameLengthTellsApart", apart := false }
def FnKeyOfSameLengthTellsApartSaid : Prop := fnKeyOfSameLengthTellsApartRow.holds Try.pinned (OpenSpec.ofChange fnKeyOfSameLengthTellsApartSpec)

/-- ITS FALSE NEIGHBOUR: 'it returns false'. Refute it at one input. -/
def fnKeyOfSameLengthTellsApartWrong : ChangeSpec := { name := "fnKeyOfSameLengthTellsApart", fn := fun _ => fun
  | [d1, d2] => { results := [.lit (.bool false)], args := [d1, d2] }
  | _ => none }
def FnKeyOfSameLengthTellsApartWrongFalsely : Prop := fnKeyOfSameLengthTellsApartRow.holds Try.pinned (OpenSpec.ofChange fnKeyOfSameLengthTellsApartWrong)

/-- 'zzlaws_root_b1.FnKeyOfShortBoundLongTailBlind': WHATEVER THE INPUT: true; the input reads as it did. -/
def fnKeyOfShortBoundLongTailBlindSpec : ChangeSpec := { name := "fnKeyOfShortBoundLongTailBlind", fn := fun _ => fun
  | [d1, d2] => { results := [.lit (.bool true)], args := [d1, d2] }
  | _ => none }
def fnKeyOfShortBoundLongTailBlindRow : OpenClaim := { program := "qxb6002662a", sum := "3c5726c53a06d7305e9c53d2ee2ff55cea8cbfa3763ab599ff723dd6b7568c60", func := "example.com/config-value-resolver/config-value-resolver/zzlaws_root_b1.FnKeyOfShortBoundLongTailBlind", spec := "fnKeyOfShortBoundLongTailBlind", apart := false }
def FnKeyOfShortBoundLongTailBlindSaid : Prop := fnKeyOfShortBoundLongTailBlindRow.holds Try.pinned (OpenSpec.ofChange fnKeyOfShortBoundLongTailBlindSpec)

/-- ITS FALSE NEIGHBOUR: 'it returns false'. Refute it at one input. -/
def fnKeyOfShortBoundLongTailBlindWrong : ChangeSpec := { name := "fnKeyOfShortBoundLongTailBlind", fn := fun _ => fun
  | [d1, d2] => { results := [.lit (.bool false)], args := [d1, d2] }
  | _ => none }
def FnKeyOfShortBoundLongTailBlindWrongFalsely : Prop := fnKeyOfShortBoundLongTailBlindRow.holds Try.pinned (OpenSpec.ofChange fnKeyOfShortBoundLongTailBlindWrong)

/-- 'zzlaws_root_b1.FnAppendEscapedRoundTrip': WHATEVER THE INPUT: true; the input reads as it did. -/
def fnAppendEscapedRoundTripSpec : ChangeSpec := { name := "fnAppendEscapedRoundTrip", fn := fun _ => fun
  | [d] => { results := [.lit (.bool true)], args := [d] }
  | _ => none }
def fnAppendEscapedRoundTripRow : OpenClaim := { program := "qxb6002662a", sum := "3c5726c53a06d7305e9c53d2ee2ff55cea8cbfa3763ab599ff723dd6b7568c60", func := "example.com/config-value-resolver/config-value-resolver/zzlaws_root_b1.FnAppendEscapedRoundTrip", spec := "fnAppendEscapedRoundTrip", inPlace := ["internal/bytealg.IndexByteString"], apart := false }
def FnAppendEscapedRoundTripSaid : Prop := fnAppendEscapedRoundTripRow.holds Try.pinned (OpenSpec.ofChange fnAppendEscapedRoundTripSpec)

/-- ITS FALSE NEIGHBOUR: 'it returns false'. Refute it at one input. -/
def fnAppendEscapedRoundTripWrong : ChangeSpec := { name := "fnAppendEscapedRoundTrip", fn := fun _ => fun
  | [d] => { results := [.lit (.bool false)], args := [d] }
  | _ => none }
def FnAppendEscapedRoundTripWrongFalsely : Prop := fnAppendEscapedRoundTripRow.holds Try.pinned (OpenSpec.ofChange fnAppendEscapedRoundTripWrong)

/-- 'zzlaws_root_b1.FnAppendEscapedPrefixAndSplit': WHATEVER THE INPUT: true; the input reads as it did. -/
def fnAppendEscapedPrefixAndSplitSpec : ChangeSpec := { name := "fnAppendEscapedPrefixAndSplit", fn := fun _ => fun
  | [d1, d2, d3] => { results := [.lit (.bool true)], args := [d1, d2, d3] }
  | _ => none }
def fnAppendEscapedPrefixAndSplitRow : OpenClaim := { program := "qxb6002662a", sum := "3c5726c53a06d7305e9c53d2ee2ff55cea8cbfa3763ab599ff723dd6b7568c60", func := "example.com/config-value-resolver/config-value-resolver/zzlaws_root_b1.FnAppendEscapedPrefixAndSplit", spec := "fnAppendEscapedPrefixAndSplit", inPlace := ["internal/bytealg.IndexByteString"], apart := false }
def FnAppendEscapedPrefixAndSplitSaid : Prop := fnAppendEscapedPrefixAndSplitRow.holds Try.pinned (OpenSpec.ofChange fnAppendEscapedPrefixAndSplitSpec)

/-- ITS FALSE NEIGHBOUR: 'it returns false'. Refute it at one input. -/
def fnAppendEscapedPrefixAndSplitWrong : ChangeSpec := { name := "fnAppendEscapedPrefixAndSplit", fn := fun _ => fun
  | [d1, d2, d3] => { results := [.lit (.bool false)], args := [d1, d2, d3] }
  | _ => none }
def FnAppendEscapedPrefixAndSplitWrongFalsely : Prop := fnAppendEscapedPrefixAndSplitRow.holds Try.pinned (OpenSpec.ofChange fnAppendEscapedPrefixAndSplitWrong)

/-- 'zzlaws_root_b1.FnAppendEscapedNoNewlineExactGrowth': WHATEVER THE INPUT: true; the input reads as it did. -/
def fnAppendEscapedNoNewlineExactGrowthSpec : ChangeSpec := { name := "fnAppendEscapedNoNewlineExactGrowth", fn := fun _ => fun
  | [d] => { results := [.lit (.bool true)], args := [d] }
  | _ => none }
def fnAppendEscapedNoNewlineExactGrowthRow : OpenClaim := { program := "qxb6002662a", sum := "3c5726c53a06d7305e9c53d2ee2ff55cea8cbfa3763ab599ff723dd6b7568c60", func := "example.com/config-value-resolver/config-value-resolver/zzlaws_root_b1.FnAppendEscapedNoNewlineExactGrowth", spec := "fnAppendEscapedNoNewlineExactGrowth", inPlace := ["internal/bytealg.IndexByteString"], apart := false }
def FnAppendEscapedNoNewlineExactGrowthSaid : Prop := fnAppendEscapedNoNewlineExactGrowthRow.holds Try.pinned (OpenSpec.ofChange fnAppendEscapedNoNewlineExactGrowthSpec)

/-- ITS FALSE NEIGHBOUR: 'it returns false'. Refute it at one input. -/
def fnAppendEscapedNoNewlineExactGrowthWrong : ChangeSpec := { name := "fnAppendEscapedNoNewlineExactGrowth", fn := fun _ => fun
  | [d] => { results := [.lit (.bool false)], args := [d] }
  | _ => none }
def FnAppendEscapedNoNewlineExactGrowthWrongFalsely : Prop := fnAppendEscapedNoNewlineExactGrowthRow.holds Try.pinned (OpenSpec.ofChange fnAppendEscapedNoNewlineExactGrowthWrong)

/-- 'zzlaws_root_b1.FnPiecesAddUnlimitedJoins': WHATEVER THE INPUT: true; the input reads as it did. -/
def fnPiecesAddUnlimitedJoinsSpec : ChangeSpec := { name := "fnPiecesAddUnlimitedJoins", fn := fun _ => fun
  | [d1, d2] => { results := [.lit (.bool true)], args := [d1, d2] }
  | _ => none }
def fnPiecesAddUnlimitedJoinsRow : OpenClaim := { program := "qxb6002662a", sum := "3c5726c53a06d7305e9c53d2ee2ff55cea8cbfa3763ab599ff723dd6b7568c60", func := "example.com/config-value-resolver/config-value-resolver/zzlaws_root_b1.FnPiecesAddUnlimitedJoins", spec := "fnPiecesAddUnlimitedJoins", inPlace := ["internal/abi.NoEscape", "internal/bytealg.MakeNoZero"], apart := false }
def FnPiecesAddUnlimitedJoinsSaid : Prop := fnPiecesAddUnlimitedJoinsRow.holds Try.pinned (OpenSpec.ofChange fnPiecesAddUnlimitedJoinsSpec)

/-- ITS FALSE NEIGHBOUR: 'it returns false'. Refute it at one input. -/
def fnPiecesAddUnlimitedJoinsWrong : ChangeSpec := { name := "fnPiecesAddUnlimitedJoins", fn := fun _ => fun
  | [d1, d2] => { results := [.lit (.bool false)], args := [d1, d2] }
  | _ => none }
def FnPiecesAddUnlimitedJoinsWrongFalsely : Prop := fnPiecesAddUnlimitedJoinsRow.holds Try.pinned (OpenSpec.ofChange fnPiecesAddUnlimitedJoinsWrong)

/-- 'zzlaws_root_b1.FnPiecesAddTrimSpan': WHATEVER THE INPUT: true; the input reads as it did. -/
def fnPiecesAddTrimSpanSpec : ChangeSpec := { name := "fnPiecesAddTrimSpan", fn := fun _ => fun
  | [d1, d2] => { results := [.lit (.bool true)], args := [d1, d2] }
  | _ => none }
def fnPiecesAddTrimSpanRow : OpenClaim := { program := "qxb6002662a", sum := "3c5726c53a06d7305e9c53d2ee2ff55cea8cbfa3763ab599ff723dd6b7568c60", func := "example.com/config-value-resolver/config-value-resolver/zzlaws_root_b1.FnPiecesAddTrimSpan", spec := "fnPiecesAddTrimSpan", inPlace := ["internal/abi.NoEscape", "internal/bytealg.MakeNoZero"], apart := false }
def FnPiecesAddTrimSpanSaid : Prop := fnPiecesAddTrimSpanRow.holds Try.pinned (OpenSpec.ofChange fnPiecesAddTrimSpanSpec)

/-- ITS FALSE NEIGHBOUR: 'it returns false'. Refute it at one input. -/
def fnPiecesAddTrimSpanWrong : ChangeSpec := { name := "fnPiecesAddTrimSpan", fn := fun _ => fun
  | [d1, d2] => { results := [.lit (.bool false)], args := [d1, d2] }
  | _ => none }
def FnPiecesAddTrimSpanWrongFalsely : Prop := fnPiecesAddTrimSpanRow.holds Try.pinned (OpenSpec.ofChange fnPiecesAddTrimSpanWrong)

/-- 'zzlaws_root_b1.FnPiecesAddRefusedPastRoom': WHATEVER THE INPUT: true; the input reads as it did. -/
def fnPiecesAddRefusedPastRoomSpec : ChangeSpec := { name := "fnPiecesAddRefusedPastRoom", fn := fun _ => fun
  | [d1, d2, d3] => { results := [.lit (.bool true)], args := [d1, d2, d3] }
  | _ => none }
def fnPiecesAddRefusedPastRoomRow : OpenClaim := { program := "qxb6002662a", sum := "3c5726c53a06d7305e9c53d2ee2ff55cea8cbfa3763ab599ff723dd6b7568c60", func := "example.com/config-value-resolver/config-value-resolver/zzlaws_root_b1.FnPiecesAddRefusedPastRoom", spec := "fnPiecesAddRefusedPastRoom", inPlace := ["internal/abi.NoEscape", "internal/bytealg.MakeNoZero"], apart := false }
def FnPiecesAddRefusedPastRoomSaid : Prop := fnPiecesAddRefusedPastRoomRow.holds Try.pinned (OpenSpec.ofChange fnPiecesAddRefusedPastRoomSpec)

/-- ITS FALSE NEIGHBOUR: 'it returns false'. Refute it at one input. -/
def fnPiecesAddRefusedPastRoomWrong : ChangeSpec := { name := "fnPiecesAddRefusedPastRoom", fn := fun _ => fun
  | [d1, d2, d3] => { results := [.lit (.bool false)], args := [d1, d2, d3] }
  | _ => none }
def FnPiecesAddRefusedPastRoomWrongFalsely : Prop := fnPiecesAddRefusedPastRoomRow.holds Try.pinned (OpenSpec.ofChange fnPiecesAddRefusedPastRoomWrong)

end Rows
end Go.Proofs.Qxb6002662a
