/-
  No cell of these rows narrows 'for every input' (looked for: loops, veiled, ifaces, maps, wideKeys, modest, calm, conditions, laid).
  DERIVED. THE GIVEN ROWS OF THIS SEAT. 6 by the template 'for every input the law returns true; each argument reads behind the call as it read before'; 0 by the template 'total and deterministic' (their statements: Qxb6000449aTotals.lean).
  GIVEN WITH THE SEED: the statements are not yours to turn. If you find one false, say at which input.
  Laid BY PROGRAM, IN A SANDBOX (cutbox-rows.mjs): the forced cells as the released guide's own fill.sh prints them over the translation 298744523c410fe7… (all of the seat's roots in one cut). By AI agents, Wed Nov 11 2026. No macro, syntax, notation, axiom, sorry.
-/
import Derived.Test.Qxb6000449aChecked
import GoSem.Claim
import GoSem.ClaimJoined
import GoSem.ClaimMapViews
import Derived.JoinedTies
import Derived.KernelRfl
namespace Go.Proofs.Qxb6000449a
/- THE CELL 'sum', in the pinned program and in every row, IS THE sha256 OF THE DUMP (.gsa) THAT Qxb6000449aProg.lean LOADS. Nothing in Lean hashes anything: it is a label: what it is worth is what the hold of that sum in a sandbox is worth. -/
noncomputable def Try.pinned : Pinned := { name := "qxb6000449a", sum := "298744523c410fe7999ad71accee925d78d585218f423176b41c889620dbe181", checked := Try.checked }
namespace Rows
def none {H : Type} : Left H := { results := [], args := [] }

/-- 'zzlaws_internal_jsonobject_b1.FnNumberMatchesGrammar': WHATEVER THE INPUT: true; the input reads as it did. -/
def fnNumberMatchesGrammarSpec : ChangeSpec := { name := "fnNumberMatchesGrammar", fn := fun _ => fun
  | [d1, d2] => { results := [.lit (.bool true)], args := [d1, d2] }
  | _ => none }
def fnNumberMatchesGrammarRow : OpenClaim := { program := "qxb6000449a", sum := "298744523c410fe7999ad71accee925d78d585218f423176b41c889620dbe181", func := "example.com/devfence/devfence/zzlaws_internal_jsonobject_b1.FnNumberMatchesGrammar", spec := "fnNumberMatchesGrammar", apart := false }
def FnNumberMatchesGrammarSaid : Prop := fnNumberMatchesGrammarRow.holds Try.pinned (OpenSpec.ofChange fnNumberMatchesGrammarSpec)

/-- ITS FALSE NEIGHBOUR: 'it returns false'. Refute it at one input. -/
def fnNumberMatchesGrammarWrong : ChangeSpec := { name := "fnNumberMatchesGrammar", fn := fun _ => fun
  | [d1, d2] => { results := [.lit (.bool false)], args := [d1, d2] }
  | _ => none }
def FnNumberMatchesGrammarWrongFalsely : Prop := fnNumberMatchesGrammarRow.holds Try.pinned (OpenSpec.ofChange fnNumberMatchesGrammarWrong)

/-- 'zzlaws_internal_jsonobject_b1.FnNumberRereadAloneIsWhole': WHATEVER THE INPUT: true; the input reads as it did. -/
def fnNumberRereadAloneIsWholeSpec : ChangeSpec := { name := "fnNumberRereadAloneIsWhole", fn := fun _ => fun
  | [d1, d2] => { results := [.lit (.bool true)], args := [d1, d2] }
  | _ => none }
def fnNumberRereadAloneIsWholeRow : OpenClaim := { program := "qxb6000449a", sum := "298744523c410fe7999ad71accee925d78d585218f423176b41c889620dbe181", func := "example.com/devfence/devfence/zzlaws_internal_jsonobject_b1.FnNumberRereadAloneIsWhole", spec := "fnNumberRereadAloneIsWhole", apart := false }
def FnNumberRereadAloneIsWholeSaid : Prop := fnNumberRereadAloneIsWholeRow.holds Try.pinned (OpenSpec.ofChange fnNumberRereadAloneIsWholeSpec)

/-- ITS FALSE NEIGHBOUR: 'it returns false'. Refute it at one input. -/
def fnNumberRereadAloneIsWholeWrong : ChangeSpec := { name := "fnNumberRereadAloneIsWhole", fn := fun _ => fun
  | [d1, d2] => { results := [.lit (.bool false)], args := [d1, d2] }
  | _ => none }
def FnNumberRereadAloneIsWholeWrongFalsely : Prop := fnNumberRereadAloneIsWholeRow.holds Try.pinned (OpenSpec.ofChange fnNumberRereadAloneIsWholeWrong)

/-- 'zzlaws_internal_jsonobject_b1.FnValueEndAgreesWithNumber': WHATEVER THE INPUT: true; the input reads as it did. -/
def fnValueEndAgreesWithNumberSpec : ChangeSpec := { name := "fnValueEndAgreesWithNumber", fn := fun _ => fun
  | [d1, d2] => { results := [.lit (.bool true)], args := [d1, d2] }
  | _ => none }
def fnValueEndAgreesWithNumberRow : OpenClaim := { program := "qxb6000449a", sum := "298744523c410fe7999ad71accee925d78d585218f423176b41c889620dbe181", func := "example.com/devfence/devfence/zzlaws_internal_jsonobject_b1.FnValueEndAgreesWithNumber", spec := "fnValueEndAgreesWithNumber", inPlace := ["internal/bytealg.IndexByte"], apart := false }
def FnValueEndAgreesWithNumberSaid : Prop := fnValueEndAgreesWithNumberRow.holds Try.pinned (OpenSpec.ofChange fnValueEndAgreesWithNumberSpec)

/-- ITS FALSE NEIGHBOUR: 'it returns false'. Refute it at one input. -/
def fnValueEndAgreesWithNumberWrong : ChangeSpec := { name := "fnValueEndAgreesWithNumber", fn := fun _ => fun
  | [d1, d2] => { results := [.lit (.bool false)], args := [d1, d2] }
  | _ => none }
def FnValueEndAgreesWithNumberWrongFalsely : Prop := fnValueEndAgreesWithNumberRow.holds Try.pinned (OpenSpec.ofChange fnValueEndAgreesWithNumberWrong)

/-- 'zzlaws_internal_jsonobject_b1.FnQuotedMatchesGrammar': WHATEVER THE INPUT: true; the input reads as it did. -/
def fnQuotedMatchesGrammarSpec : ChangeSpec := { name := "fnQuotedMatchesGrammar", fn := fun _ => fun
  | [d1, d2] => { results := [.lit (.bool true)], args := [d1, d2] }
  | _ => none }
def fnQuotedMatchesGrammarRow : OpenClaim := { program := "qxb6000449a", sum := "298744523c410fe7999ad71accee925d78d585218f423176b41c889620dbe181", func := "example.com/devfence/devfence/zzlaws_internal_jsonobject_b1.FnQuotedMatchesGrammar", spec := "fnQuotedMatchesGrammar", apart := false }
def FnQuotedMatchesGrammarSaid : Prop := fnQuotedMatchesGrammarRow.holds Try.pinned (OpenSpec.ofChange fnQuotedMatchesGrammarSpec)

/-- ITS FALSE NEIGHBOUR: 'it returns false'. Refute it at one input. -/
def fnQuotedMatchesGrammarWrong : ChangeSpec := { name := "fnQuotedMatchesGrammar", fn := fun _ => fun
  | [d1, d2] => { results := [.lit (.bool false)], args := [d1, d2] }
  | _ => none }
def FnQuotedMatchesGrammarWrongFalsely : Prop := fnQuotedMatchesGrammarRow.holds Try.pinned (OpenSpec.ofChange fnQuotedMatchesGrammarWrong)

/-- 'zzlaws_internal_jsonobject_b1.FnQuotedAgreesWithValueEnd': WHATEVER THE INPUT: true; the input reads as it did. -/
def fnQuotedAgreesWithValueEndSpec : ChangeSpec := { name := "fnQuotedAgreesWithValueEnd", fn := fun _ => fun
  | [d1, d2] => { results := [.lit (.bool true)], args := [d1, d2] }
  | _ => none }
def fnQuotedAgreesWithValueEndRow : OpenClaim := { program := "qxb6000449a", sum := "298744523c410fe7999ad71accee925d78d585218f423176b41c889620dbe181", func := "example.com/devfence/devfence/zzlaws_internal_jsonobject_b1.FnQuotedAgreesWithValueEnd", spec := "fnQuotedAgreesWithValueEnd", inPlace := ["internal/bytealg.IndexByte"], apart := false }
def FnQuotedAgreesWithValueEndSaid : Prop := fnQuotedAgreesWithValueEndRow.holds Try.pinned (OpenSpec.ofChange fnQuotedAgreesWithValueEndSpec)

/-- ITS FALSE NEIGHBOUR: 'it returns false'. Refute it at one input. -/
def fnQuotedAgreesWithValueEndWrong : ChangeSpec := { name := "fnQuotedAgreesWithValueEnd", fn := fun _ => fun
  | [d1, d2] => { results := [.lit (.bool false)], args := [d1, d2] }
  | _ => none }
def FnQuotedAgreesWithValueEndWrongFalsely : Prop := fnQuotedAgreesWithValueEndRow.holds Try.pinned (OpenSpec.ofChange fnQuotedAgreesWithValueEndWrong)

/-- 'zzlaws_internal_jsonobject_b1.FnValueEndSkipsNestedString': WHATEVER THE INPUT: true; the input reads as it did. -/
def fnValueEndSkipsNestedStringSpec : ChangeSpec := { name := "fnValueEndSkipsNestedString", fn := fun _ => fun
  | [d1, d2, d3, d4] => { results := [.lit (.bool true)], args := [d1, d2, d3, d4] }
  | _ => none }
def fnValueEndSkipsNestedStringRow : OpenClaim := { program := "qxb6000449a", sum := "298744523c410fe7999ad71accee925d78d585218f423176b41c889620dbe181", func := "example.com/devfence/devfence/zzlaws_internal_jsonobject_b1.FnValueEndSkipsNestedString", spec := "fnValueEndSkipsNestedString", inPlace := ["internal/bytealg.IndexByte"], apart := false }
def FnValueEndSkipsNestedStringSaid : Prop := fnValueEndSkipsNestedStringRow.holds Try.pinned (OpenSpec.ofChange fnValueEndSkipsNestedStringSpec)

/-- ITS FALSE NEIGHBOUR: 'it returns false'. Refute it at one input. -/
def fnValueEndSkipsNestedStringWrong : ChangeSpec := { name := "fnValueEndSkipsNestedString", fn := fun _ => fun
  | [d1, d2, d3, d4] => { results := [.lit (.bool false)], args := [d1, d2, d3, d4] }
  | _ => none }
def FnValueEndSkipsNestedStringWrongFalsely : Prop := fnValueEndSkipsNestedStringRow.holds Try.pinned (OpenSpec.ofChange fnValueEndSkipsNestedStringWrong)

end Rows
end Go.Proofs.Qxb6000449a
