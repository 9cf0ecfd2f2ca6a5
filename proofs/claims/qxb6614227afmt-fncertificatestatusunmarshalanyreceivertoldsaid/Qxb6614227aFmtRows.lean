/-
  NARROWER THAN 'FOR EVERY INPUT', by the rows' own cells (each row's printed sentence says how): FnCertificateStatusUnmarshalAnyReceiver: maps, laid · FnCertificateStatusUnmarshalTrailingBytes: maps, laid.
  DERIVED. THE GIVEN ROWS OF THIS SEAT. 3 by the template 'for every input the law returns true; each argument reads behind the call as it read before'; 0 by the template 'total and deterministic' (their statements: Qxb6614227aFmtTotals.lean).
  GIVEN WITH THE SEED: the statements are not yours to turn. If you find one false, say at which input.
  Laid BY PROGRAM, IN A SANDBOX (cutbox-rows.mjs): the forced cells as the released guide's own fill.sh prints them over the translation 994f97dff07098c5… (all of the seat's roots in one cut). By AI agents, Wed Nov 11 2026. No macro, syntax, notation, axiom, sorry.
-/
import Derived.Test.Qxb6614227aFmtChecked
import GoSem.Claim
import GoSem.ClaimJoined
import GoSem.ClaimMapViews
import Derived.JoinedTies
import Derived.KernelRfl
namespace Go.Proofs.Qxb6614227aFmt
/- THE CELL 'sum', in the pinned program and in every row, IS THE sha256 OF THE DUMP (.gsa) THAT Qxb6614227aFmtProg.lean LOADS. Nothing in Lean hashes anything: it is a label: what it is worth is what the hold of that sum in a sandbox is worth. -/
noncomputable def Tryf.pinned : Pinned := { name := "qxb6614227afmt", sum := "994f97dff07098c5b7c153c5872b308a359569b475fbaf8966b759b1309f7455", checked := Tryf.checked }
namespace Rows
def none {H : Type} : Left H := { results := [], args := [] }

/- WHAT THE LISTED PACKAGE-LEVEL VARIABLES READ AS WHEN THE CALL BEGINS. Each datum BY PROGRAM (the guide's laid-datum.mjs) off the statement by which the dump's own 'gosem.cut.vars' lays the variable. In a bare row this is a premise. The card (Qxb6614227aFmtCards.lean) ties it to the program's text. -/
def laid_example_com_hellowire_hellowire_messageNames {H : Type} : DataW H := .map [(.int .u8 0, .lit (.string [104, 101, 108, 108, 111, 95, 114, 101, 113, 117, 101, 115, 116])), (.int .u8 1, .lit (.string [99, 108, 105, 101, 110, 116, 95, 104, 101, 108, 108, 111])), (.int .u8 2, .lit (.string [115, 101, 114, 118, 101, 114, 95, 104, 101, 108, 108, 111])), (.int .u8 4, .lit (.string [110, 101, 119, 95, 115, 101, 115, 115, 105, 111, 110, 95, 116, 105, 99, 107, 101, 116])), (.int .u8 11, .lit (.string [99, 101, 114, 116, 105, 102, 105, 99, 97, 116, 101])), (.int .u8 12, .lit (.string [115, 101, 114, 118, 101, 114, 95, 107, 101, 121, 95, 101, 120, 99, 104, 97, 110, 103, 101])), (.int .u8 13, .lit (.string [99, 101, 114, 116, 105, 102, 105, 99, 97, 116, 101, 95, 114, 101, 113, 117, 101, 115, 116])), (.int .u8 14, .lit (.string [115, 101, 114, 118, 101, 114, 95, 104, 101, 108, 108, 111, 95, 100, 111, 110, 101])), (.int .u8 15, .lit (.string [99, 101, 114, 116, 105, 102, 105, 99, 97, 116, 101, 95, 118, 101, 114, 105, 102, 121])), (.int .u8 16, .lit (.string [99, 108, 105, 101, 110, 116, 95, 107, 101, 121, 95, 101, 120, 99, 104, 97, 110, 103, 101])), (.int .u8 20, .lit (.string [102, 105, 110, 105, 115, 104, 101, 100])), (.int .u8 21, .lit (.string [99, 101, 114, 116, 105, 102, 105, 99, 97, 116, 101, 95, 117, 114, 108])), (.int .u8 22, .lit (.string [99, 101, 114, 116, 105, 102, 105, 99, 97, 116, 101, 95, 115, 116, 97, 116, 117, 115])), (.int .u8 23, .lit (.string [115, 117, 112, 112, 108, 101, 109, 101, 110, 116, 97, 108, 95, 100, 97, 116, 97]))]

/-- 'zzlaws_root_b1.FnCertificateStatusUnmarshalAnyReceiver': WHATEVER THE INPUT: true; the input reads as it did. -/
def fnCertificateStatusUnmarshalAnyReceiverSpec : ChangeSpec := { name := "fnCertificateStatusUnmarshalAnyReceiver", vars := ["example.com/hellowire/hellowire.messageNames"], fn := fun _ => fun
  | [d1, d2, d3, g1] => { results := [.lit (.bool true)], args := [d1, d2, d3], vars := [g1] }
  | _ => none }
def fnCertificateStatusUnmarshalAnyReceiverRow : OpenClaim := { program := "qxb6614227afmt", sum := "994f97dff07098c5b7c153c5872b308a359569b475fbaf8966b759b1309f7455", func := "example.com/hellowire/hellowire/zzlaws_root_b1.FnCertificateStatusUnmarshalAnyReceiver", spec := "fnCertificateStatusUnmarshalAnyReceiver", stops := ["fmt.Sprintf, its operands' methods called"], inPlace := ["fmt.Sprintf"], unfollowed := true, recurses := true, named := ["example.com/hellowire/hellowire.messageNames"], maps := true, apart := false, laid := [("example.com/hellowire/hellowire.messageNames", laid_example_com_hellowire_hellowire_messageNames)] }
/-- NO THEOREM (fmt's text is open here; it may be false): for the released tool's asking of the row's closed facts alone. THE STATEMENT IS 'FnCertificateStatusUnmarshalAnyReceiverToldSaid' (Qxb6614227aFmtCards.lean). -/
def FnCertificateStatusUnmarshalAnyReceiverFormAsk : Prop := fnCertificateStatusUnmarshalAnyReceiverRow.holds Tryf.pinned (OpenSpec.ofChange fnCertificateStatusUnmarshalAnyReceiverSpec)

/-- ITS FALSE NEIGHBOUR: 'it returns false'. Refute it at one input. -/
def fnCertificateStatusUnmarshalAnyReceiverWrong : ChangeSpec := { name := "fnCertificateStatusUnmarshalAnyReceiver", vars := ["example.com/hellowire/hellowire.messageNames"], fn := fun _ => fun
  | [d1, d2, d3, g1] => { results := [.lit (.bool false)], args := [d1, d2, d3], vars := [g1] }
  | _ => none }
def FnCertificateStatusUnmarshalAnyReceiverWrongFormAsk : Prop := fnCertificateStatusUnmarshalAnyReceiverRow.holds Tryf.pinned (OpenSpec.ofChange fnCertificateStatusUnmarshalAnyReceiverWrong)

/-- 'zzlaws_root_b1.FnCertificateStatusUnmarshalTrailingBytes': WHATEVER THE INPUT: true; the input reads as it did. -/
def fnCertificateStatusUnmarshalTrailingBytesSpec : ChangeSpec := { name := "fnCertificateStatusUnmarshalTrailingBytes", vars := ["example.com/hellowire/hellowire.messageNames"], fn := fun _ => fun
  | [d1, d2, g1] => { results := [.lit (.bool true)], args := [d1, d2], vars := [g1] }
  | _ => none }
def fnCertificateStatusUnmarshalTrailingBytesRow : OpenClaim := { program := "qxb6614227afmt", sum := "994f97dff07098c5b7c153c5872b308a359569b475fbaf8966b759b1309f7455", func := "example.com/hellowire/hellowire/zzlaws_root_b1.FnCertificateStatusUnmarshalTrailingBytes", spec := "fnCertificateStatusUnmarshalTrailingBytes", stops := ["fmt.Sprintf, its operands' methods called"], inPlace := ["fmt.Sprintf"], unfollowed := true, recurses := true, named := ["example.com/hellowire/hellowire.messageNames"], maps := true, apart := false, laid := [("example.com/hellowire/hellowire.messageNames", laid_example_com_hellowire_hellowire_messageNames)] }
/-- NO THEOREM (fmt's text is open here; it may be false): for the released tool's asking of the row's closed facts alone. THE STATEMENT IS 'FnCertificateStatusUnmarshalTrailingBytesToldSaid' (Qxb6614227aFmtCards.lean). -/
def FnCertificateStatusUnmarshalTrailingBytesFormAsk : Prop := fnCertificateStatusUnmarshalTrailingBytesRow.holds Tryf.pinned (OpenSpec.ofChange fnCertificateStatusUnmarshalTrailingBytesSpec)

/-- ITS FALSE NEIGHBOUR: 'it returns false'. Refute it at one input. -/
def fnCertificateStatusUnmarshalTrailingBytesWrong : ChangeSpec := { name := "fnCertificateStatusUnmarshalTrailingBytes", vars := ["example.com/hellowire/hellowire.messageNames"], fn := fun _ => fun
  | [d1, d2, g1] => { results := [.lit (.bool false)], args := [d1, d2], vars := [g1] }
  | _ => none }
def FnCertificateStatusUnmarshalTrailingBytesWrongFormAsk : Prop := fnCertificateStatusUnmarshalTrailingBytesRow.holds Tryf.pinned (OpenSpec.ofChange fnCertificateStatusUnmarshalTrailingBytesWrong)

/-- 'zzlaws_root_b1.FnParseTrustedAuthoritiesJoin': WHATEVER THE INPUT: true; the input reads as it did. -/
def fnParseTrustedAuthoritiesJoinSpec : ChangeSpec := { name := "fnParseTrustedAuthoritiesJoin", fn := fun _ => fun
  | [d1, d2, d3] => { results := [.lit (.bool true)], args := [d1, d2, d3] }
  | _ => none }
def fnParseTrustedAuthoritiesJoinRow : OpenClaim := { program := "qxb6614227afmt", sum := "994f97dff07098c5b7c153c5872b308a359569b475fbaf8966b759b1309f7455", func := "example.com/hellowire/hellowire/zzlaws_root_b1.FnParseTrustedAuthoritiesJoin", spec := "fnParseTrustedAuthoritiesJoin", stops := ["fmt.Sprintf, its operands' methods called"], inPlace := ["fmt.Sprintf"], unfollowed := true, recurses := true, apart := false }
/-- NO THEOREM (fmt's text is open here; it may be false): for the released tool's asking of the row's closed facts alone. THE STATEMENT IS 'FnParseTrustedAuthoritiesJoinToldSaid' (Qxb6614227aFmtCards.lean). -/
def FnParseTrustedAuthoritiesJoinFormAsk : Prop := fnParseTrustedAuthoritiesJoinRow.holds Tryf.pinned (OpenSpec.ofChange fnParseTrustedAuthoritiesJoinSpec)

/-- ITS FALSE NEIGHBOUR: 'it returns false'. Refute it at one input. -/
def fnParseTrustedAuthoritiesJoinWrong : ChangeSpec := { name := "fnParseTrustedAuthoritiesJoin", fn := fun _ => fun
  | [d1, d2, d3] => { results := [.lit (.bool false)], args := [d1, d2, d3] }
  | _ => none }
def FnParseTrustedAuthoritiesJoinWrongFormAsk : Prop := fnParseTrustedAuthoritiesJoinRow.holds Tryf.pinned (OpenSpec.ofChange fnParseTrustedAuthoritiesJoinWrong)

end Rows
end Go.Proofs.Qxb6614227aFmt
