/-
  NARROWER THAN 'FOR EVERY INPUT', by the rows' own cells (each row's printed sentence says how): FnTextValueAgreesWithParseHash: ifaces, laid.
  DERIVED. THE GIVEN ROWS OF THIS SEAT. 2 by the template 'for every input the law returns true; each argument reads behind the call as it read before'; 0 by the template 'total and deterministic' (their statements: Qxb6614531aFmtTotals.lean).
  GIVEN WITH THE SEED: the statements are not yours to turn. If you find one false, say at which input.
  Laid BY PROGRAM, IN A SANDBOX (cutbox-rows.mjs): the forced cells as the released guide's own fill.sh prints them over the translation 8f470e02f89c4fb3… (all of the seat's roots in one cut). By AI agents, Wed Nov 11 2026. No macro, syntax, notation, axiom, sorry.
-/
import Derived.Test.Qxb6614531aFmtChecked
import GoSem.Claim
import GoSem.ClaimJoined
import GoSem.ClaimMapViews
import Derived.JoinedTies
import Derived.KernelRfl
namespace Go.Proofs.Qxb6614531aFmt
/- THE CELL 'sum', in the pinned program and in every row, IS THE sha256 OF THE DUMP (.gsa) THAT Qxb6614531aFmtProg.lean LOADS. Nothing in Lean hashes anything: it is a label: what it is worth is what the hold of that sum in a sandbox is worth. -/
noncomputable def Tryf.pinned : Pinned := { name := "qxb6614531afmt", sum := "8f470e02f89c4fb3d6e1ced7330de50ceb84e405fde92172653a91091274698c", checked := Tryf.checked }
namespace Rows
def none {H : Type} : Left H := { results := [], args := [] }

/- WHAT THE LISTED PACKAGE-LEVEL VARIABLES READ AS WHEN THE CALL BEGINS. Each datum BY PROGRAM (the guide's laid-datum.mjs) off the statement by which the dump's own 'gosem.cut.vars' lays the variable. In a bare row this is a premise. The card (Qxb6614531aFmtCards.lean) ties it to the program's text. -/
def laid_encoding_hex_ErrLength {H : Type} : DataW H := .iface "*errors.errorString" (.ptr (.agg [.lit (.string [101, 110, 99, 111, 100, 105, 110, 103, 47, 104, 101, 120, 58, 32, 111, 100, 100, 32, 108, 101, 110, 103, 116, 104, 32, 104, 101, 120, 32, 115, 116, 114, 105, 110, 103])]))
def laid_example_com_latchkey_latchkey_internal_apikey_errHashForm {H : Type} : DataW H := .iface "*errors.errorString" (.ptr (.agg [.lit (.string [97, 32, 104, 97, 115, 104, 32, 109, 117, 115, 116, 32, 98, 101, 32, 34, 115, 104, 97, 50, 53, 54, 58, 34, 32, 97, 110, 100, 32, 54, 52, 32, 108, 111, 119, 101, 114, 99, 97, 115, 101, 32, 104, 101, 120, 32, 100, 105, 103, 105, 116, 115])]))

/-- 'zzlaws_internal_store_b1.FnTextValueAgreesWithParseHash': WHATEVER THE INPUT: true; the input reads as it did. -/
def fnTextValueAgreesWithParseHashSpec : ChangeSpec := { name := "fnTextValueAgreesWithParseHash", vars := ["example.com/latchkey/latchkey/internal/apikey.errHashForm"], fn := fun _ => fun
  | [d1, d2, d3, g1] => { results := [.lit (.bool true)], args := [d1, d2, d3], vars := [g1] }
  | _ => none }
def fnTextValueAgreesWithParseHashRow : OpenClaim := { program := "qxb6614531afmt", sum := "8f470e02f89c4fb3d6e1ced7330de50ceb84e405fde92172653a91091274698c", func := "example.com/latchkey/latchkey/zzlaws_internal_store_b1.FnTextValueAgreesWithParseHash", spec := "fnTextValueAgreesWithParseHash", stops := ["fmt.errorf, its operands' methods called", "fmt.Sprintf"], inPlace := ["fmt.errorf", "internal/bytealg.IndexByteString", "internal/bytealg.IndexString"], unfollowed := true, recurses := true, named := ["example.com/latchkey/latchkey/internal/apikey.errHashForm", "encoding/hex.ErrLength", "internal/bytealg.MaxLen"], ifaces := true, apart := false, laid := [("encoding/hex.ErrLength", laid_encoding_hex_ErrLength), ("example.com/latchkey/latchkey/internal/apikey.errHashForm", laid_example_com_latchkey_latchkey_internal_apikey_errHashForm)] }
/-- NO THEOREM (fmt's text is open here; it may be false): for the released tool's asking of the row's closed facts alone. THE STATEMENT IS 'FnTextValueAgreesWithParseHashToldSaid' (Qxb6614531aFmtCards.lean). -/
def FnTextValueAgreesWithParseHashFormAsk : Prop := fnTextValueAgreesWithParseHashRow.holds Tryf.pinned (OpenSpec.ofChange fnTextValueAgreesWithParseHashSpec)

/-- ITS FALSE NEIGHBOUR: 'it returns false'. Refute it at one input. -/
def fnTextValueAgreesWithParseHashWrong : ChangeSpec := { name := "fnTextValueAgreesWithParseHash", vars := ["example.com/latchkey/latchkey/internal/apikey.errHashForm"], fn := fun _ => fun
  | [d1, d2, d3, g1] => { results := [.lit (.bool false)], args := [d1, d2, d3], vars := [g1] }
  | _ => none }
def FnTextValueAgreesWithParseHashWrongFormAsk : Prop := fnTextValueAgreesWithParseHashRow.holds Tryf.pinned (OpenSpec.ofChange fnTextValueAgreesWithParseHashWrong)

/-- 'zzlaws_internal_store_b1.FnTextValueReadsWhatHashStringWrote': WHATEVER THE INPUT: true; the input reads as it did. -/
def fnTextValueReadsWhatHashStringWroteSpec : ChangeSpec := { name := "fnTextValueReadsWhatHashStringWrote", fn := fun _ => fun
  | [d1, d2, d3, d4] => { results := [.lit (.bool true)], args := [d1, d2, d3, d4] }
  | _ => none }
def fnTextValueReadsWhatHashStringWroteRow : OpenClaim := { program := "qxb6614531afmt", sum := "8f470e02f89c4fb3d6e1ced7330de50ceb84e405fde92172653a91091274698c", func := "example.com/latchkey/latchkey/zzlaws_internal_store_b1.FnTextValueReadsWhatHashStringWrote", spec := "fnTextValueReadsWhatHashStringWrote", stops := ["fmt.errorf, its operands' methods called", "fmt.Sprintf"], inPlace := ["fmt.errorf"], unfollowed := true, recurses := true, apart := false }
/-- NO THEOREM (fmt's text is open here; it may be false): for the released tool's asking of the row's closed facts alone. THE STATEMENT IS 'FnTextValueReadsWhatHashStringWroteToldSaid' (Qxb6614531aFmtCards.lean). -/
def FnTextValueReadsWhatHashStringWroteFormAsk : Prop := fnTextValueReadsWhatHashStringWroteRow.holds Tryf.pinned (OpenSpec.ofChange fnTextValueReadsWhatHashStringWroteSpec)

/-- ITS FALSE NEIGHBOUR: 'it returns false'. Refute it at one input. -/
def fnTextValueReadsWhatHashStringWroteWrong : ChangeSpec := { name := "fnTextValueReadsWhatHashStringWrote", fn := fun _ => fun
  | [d1, d2, d3, d4] => { results := [.lit (.bool false)], args := [d1, d2, d3, d4] }
  | _ => none }
def FnTextValueReadsWhatHashStringWroteWrongFormAsk : Prop := fnTextValueReadsWhatHashStringWroteRow.holds Tryf.pinned (OpenSpec.ofChange fnTextValueReadsWhatHashStringWroteWrong)

end Rows
end Go.Proofs.Qxb6614531aFmt
