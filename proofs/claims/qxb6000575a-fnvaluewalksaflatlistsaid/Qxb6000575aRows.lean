/-
  No cell of these rows narrows 'for every input' (looked for: loops, veiled, ifaces, maps, wideKeys, modest, calm, conditions, laid).
  DERIVED. THE GIVEN ROWS OF THIS SEAT. 7 by the template 'for every input the law returns true; each argument reads behind the call as it read before'; 0 by the template 'total and deterministic' (their statements: Qxb6000575aTotals.lean).
  GIVEN WITH THE SEED: the statements are not yours to turn. If you find one false, say at which input.
  Laid BY PROGRAM, IN A SANDBOX (cutbox-rows.mjs): the forced cells as the released guide's own fill.sh prints them over the translation 9f837b909aede0dd… (all of the seat's roots in one cut). By AI agents, Wed Nov 11 2026. No macro, syntax, notation, axiom, sorry.
-/
import Derived.Test.Qxb6000575aChecked
import GoSem.Claim
import GoSem.ClaimJoined
import GoSem.ClaimMapViews
import Derived.JoinedTies
import Derived.KernelRfl
namespace Go.Proofs.Qxb6000575a
/- THE CELL 'sum', in the pinned program and in every row, IS THE sha256 OF THE DUMP (.gsa) THAT Qxb6000575aProg.lean LOADS. Nothing in Lean hashes anything: it is a label: what it is worth is what the hold of that sum in a sandbox is worth. -/
noncomputable def Try.pinned : Pinned := { name := "qxb6000575a", sum := "9f837b909aede0dd0fd4377976f3a09e6a77aa301629f5f780b55b9839845105", checked := Try.checked }
namespace Rows
def none {H : Type} : Left H := { results := [], args := [] }

/-- 'zzlaws_jsonwalk_b1.FnNextIsIdempotent': WHATEVER THE INPUT: true; the input reads as it did. -/
def fnNextIsIdempotentSpec : ChangeSpec := { name := "fnNextIsIdempotent", fn := fun _ => fun
  | [d1, d2] => { results := [.lit (.bool true)], args := [d1, d2] }
  | _ => none }
def fnNextIsIdempotentRow : OpenClaim := { program := "qxb6000575a", sum := "9f837b909aede0dd0fd4377976f3a09e6a77aa301629f5f780b55b9839845105", func := "example.com/glot2/glot2/zzlaws_jsonwalk_b1.FnNextIsIdempotent", spec := "fnNextIsIdempotent", apart := false }
def FnNextIsIdempotentSaid : Prop := fnNextIsIdempotentRow.holds Try.pinned (OpenSpec.ofChange fnNextIsIdempotentSpec)

/-- ITS FALSE NEIGHBOUR: 'it returns false'. Refute it at one input. -/
def fnNextIsIdempotentWrong : ChangeSpec := { name := "fnNextIsIdempotent", fn := fun _ => fun
  | [d1, d2] => { results := [.lit (.bool false)], args := [d1, d2] }
  | _ => none }
def FnNextIsIdempotentWrongFalsely : Prop := fnNextIsIdempotentRow.holds Try.pinned (OpenSpec.ofChange fnNextIsIdempotentWrong)

/-- 'zzlaws_jsonwalk_b1.FnNextSkipsExactlyWhitespace': WHATEVER THE INPUT: true; the input reads as it did. -/
def fnNextSkipsExactlyWhitespaceSpec : ChangeSpec := { name := "fnNextSkipsExactlyWhitespace", fn := fun _ => fun
  | [d1, d2, d3] => { results := [.lit (.bool true)], args := [d1, d2, d3] }
  | _ => none }
def fnNextSkipsExactlyWhitespaceRow : OpenClaim := { program := "qxb6000575a", sum := "9f837b909aede0dd0fd4377976f3a09e6a77aa301629f5f780b55b9839845105", func := "example.com/glot2/glot2/zzlaws_jsonwalk_b1.FnNextSkipsExactlyWhitespace", spec := "fnNextSkipsExactlyWhitespace", apart := false }
def FnNextSkipsExactlyWhitespaceSaid : Prop := fnNextSkipsExactlyWhitespaceRow.holds Try.pinned (OpenSpec.ofChange fnNextSkipsExactlyWhitespaceSpec)

/-- ITS FALSE NEIGHBOUR: 'it returns false'. Refute it at one input. -/
def fnNextSkipsExactlyWhitespaceWrong : ChangeSpec := { name := "fnNextSkipsExactlyWhitespace", fn := fun _ => fun
  | [d1, d2, d3] => { results := [.lit (.bool false)], args := [d1, d2, d3] }
  | _ => none }
def FnNextSkipsExactlyWhitespaceWrongFalsely : Prop := fnNextSkipsExactlyWhitespaceRow.holds Try.pinned (OpenSpec.ofChange fnNextSkipsExactlyWhitespaceWrong)

/-- 'zzlaws_jsonwalk_b1.FnStringEndMatchesEscapeScanner': WHATEVER THE INPUT: true; the input reads as it did. -/
def fnStringEndMatchesEscapeScannerSpec : ChangeSpec := { name := "fnStringEndMatchesEscapeScanner", fn := fun _ => fun
  | [d1, d2] => { results := [.lit (.bool true)], args := [d1, d2] }
  | _ => none }
def fnStringEndMatchesEscapeScannerRow : OpenClaim := { program := "qxb6000575a", sum := "9f837b909aede0dd0fd4377976f3a09e6a77aa301629f5f780b55b9839845105", func := "example.com/glot2/glot2/zzlaws_jsonwalk_b1.FnStringEndMatchesEscapeScanner", spec := "fnStringEndMatchesEscapeScanner", inPlace := ["internal/bytealg.IndexByte"], apart := false }
def FnStringEndMatchesEscapeScannerSaid : Prop := fnStringEndMatchesEscapeScannerRow.holds Try.pinned (OpenSpec.ofChange fnStringEndMatchesEscapeScannerSpec)

/-- ITS FALSE NEIGHBOUR: 'it returns false'. Refute it at one input. -/
def fnStringEndMatchesEscapeScannerWrong : ChangeSpec := { name := "fnStringEndMatchesEscapeScanner", fn := fun _ => fun
  | [d1, d2] => { results := [.lit (.bool false)], args := [d1, d2] }
  | _ => none }
def FnStringEndMatchesEscapeScannerWrongFalsely : Prop := fnStringEndMatchesEscapeScannerRow.holds Try.pinned (OpenSpec.ofChange fnStringEndMatchesEscapeScannerWrong)

/-- 'zzlaws_jsonwalk_b1.FnStringEndIsLocal': WHATEVER THE INPUT: true; the input reads as it did. -/
def fnStringEndIsLocalSpec : ChangeSpec := { name := "fnStringEndIsLocal", fn := fun _ => fun
  | [d1, d2, d3] => { results := [.lit (.bool true)], args := [d1, d2, d3] }
  | _ => none }
def fnStringEndIsLocalRow : OpenClaim := { program := "qxb6000575a", sum := "9f837b909aede0dd0fd4377976f3a09e6a77aa301629f5f780b55b9839845105", func := "example.com/glot2/glot2/zzlaws_jsonwalk_b1.FnStringEndIsLocal", spec := "fnStringEndIsLocal", inPlace := ["internal/bytealg.IndexByte"], apart := false }
def FnStringEndIsLocalSaid : Prop := fnStringEndIsLocalRow.holds Try.pinned (OpenSpec.ofChange fnStringEndIsLocalSpec)

/-- ITS FALSE NEIGHBOUR: 'it returns false'. Refute it at one input. -/
def fnStringEndIsLocalWrong : ChangeSpec := { name := "fnStringEndIsLocal", fn := fun _ => fun
  | [d1, d2, d3] => { results := [.lit (.bool false)], args := [d1, d2, d3] }
  | _ => none }
def FnStringEndIsLocalWrongFalsely : Prop := fnStringEndIsLocalRow.holds Try.pinned (OpenSpec.ofChange fnStringEndIsLocalWrong)

/-- 'zzlaws_jsonwalk_b1.FnValueReadsNestedValueWhole': WHATEVER THE INPUT: true; the input reads as it did. -/
def fnValueReadsNestedValueWholeSpec : ChangeSpec := { name := "fnValueReadsNestedValueWhole", fn := fun _ => fun
  | [d1, d2, d3] => { results := [.lit (.bool true)], args := [d1, d2, d3] }
  | _ => none }
def fnValueReadsNestedValueWholeRow : OpenClaim := { program := "qxb6000575a", sum := "9f837b909aede0dd0fd4377976f3a09e6a77aa301629f5f780b55b9839845105", func := "example.com/glot2/glot2/zzlaws_jsonwalk_b1.FnValueReadsNestedValueWhole", spec := "fnValueReadsNestedValueWhole", inPlace := ["internal/bytealg.IndexByte"], apart := false }
def FnValueReadsNestedValueWholeSaid : Prop := fnValueReadsNestedValueWholeRow.holds Try.pinned (OpenSpec.ofChange fnValueReadsNestedValueWholeSpec)

/-- ITS FALSE NEIGHBOUR: 'it returns false'. Refute it at one input. -/
def fnValueReadsNestedValueWholeWrong : ChangeSpec := { name := "fnValueReadsNestedValueWhole", fn := fun _ => fun
  | [d1, d2, d3] => { results := [.lit (.bool false)], args := [d1, d2, d3] }
  | _ => none }
def FnValueReadsNestedValueWholeWrongFalsely : Prop := fnValueReadsNestedValueWholeRow.holds Try.pinned (OpenSpec.ofChange fnValueReadsNestedValueWholeWrong)

/-- 'zzlaws_jsonwalk_b1.FnValueWalksAFlatList': WHATEVER THE INPUT: true; the input reads as it did. -/
def fnValueWalksAFlatListSpec : ChangeSpec := { name := "fnValueWalksAFlatList", fn := fun _ => fun
  | [d1, d2, d3, d4] => { results := [.lit (.bool true)], args := [d1, d2, d3, d4] }
  | _ => none }
def fnValueWalksAFlatListRow : OpenClaim := { program := "qxb6000575a", sum := "9f837b909aede0dd0fd4377976f3a09e6a77aa301629f5f780b55b9839845105", func := "example.com/glot2/glot2/zzlaws_jsonwalk_b1.FnValueWalksAFlatList", spec := "fnValueWalksAFlatList", inPlace := ["internal/bytealg.IndexByte"], apart := false }
def FnValueWalksAFlatListSaid : Prop := fnValueWalksAFlatListRow.holds Try.pinned (OpenSpec.ofChange fnValueWalksAFlatListSpec)

/-- ITS FALSE NEIGHBOUR: 'it returns false'. Refute it at one input. -/
def fnValueWalksAFlatListWrong : ChangeSpec := { name := "fnValueWalksAFlatList", fn := fun _ => fun
  | [d1, d2, d3, d4] => { results := [.lit (.bool false)], args := [d1, d2, d3, d4] }
  | _ => none }
def FnValueWalksAFlatListWrongFalsely : Prop := fnValueWalksAFlatListRow.holds Try.pinned (OpenSpec.ofChange fnValueWalksAFlatListWrong)

/-- 'zzlaws_jsonwalk_b1.FnValueStaysInsideData': WHATEVER THE INPUT: true; the input reads as it did. -/
def fnValueStaysInsideDataSpec : ChangeSpec := { name := "fnValueStaysInsideData", fn := fun _ => fun
  | [d1, d2] => { results := [.lit (.bool true)], args := [d1, d2] }
  | _ => none }
def fnValueStaysInsideDataRow : OpenClaim := { program := "qxb6000575a", sum := "9f837b909aede0dd0fd4377976f3a09e6a77aa301629f5f780b55b9839845105", func := "example.com/glot2/glot2/zzlaws_jsonwalk_b1.FnValueStaysInsideData", spec := "fnValueStaysInsideData", inPlace := ["internal/bytealg.IndexByte"], apart := false }
def FnValueStaysInsideDataSaid : Prop := fnValueStaysInsideDataRow.holds Try.pinned (OpenSpec.ofChange fnValueStaysInsideDataSpec)

/-- ITS FALSE NEIGHBOUR: 'it returns false'. Refute it at one input. -/
def fnValueStaysInsideDataWrong : ChangeSpec := { name := "fnValueStaysInsideData", fn := fun _ => fun
  | [d1, d2] => { results := [.lit (.bool false)], args := [d1, d2] }
  | _ => none }
def FnValueStaysInsideDataWrongFalsely : Prop := fnValueStaysInsideDataRow.holds Try.pinned (OpenSpec.ofChange fnValueStaysInsideDataWrong)

end Rows
end Go.Proofs.Qxb6000575a
