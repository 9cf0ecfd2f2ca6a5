/-
  DERIVED. GIVEN WITH THE SEED: THE CARDS: each row of Qxb6614227aFmtRows.lean that lists a variable, with what it lists TIED to the program's text (the seventh form; the later family's looks); each row that meets fmt, with fmt's text TOLD by the authors' own Lean function (tested against real Go, not proved from fmt's source: count such statements apart). THE CARD IS WHAT COUNTS. Prove the row's statement (the work); the ties are given (Qxb6614227aFmtTie.lean); close each card by the builder's one call (the guide's Derived/Test/ToyasCard.lean, 'card_holds'). Laid BY PROGRAM, IN A SANDBOX (cutbox-door.mjs). By AI agents, Wed Nov 11 2026. No macro, syntax, notation, axiom, sorry.
-/
import Derived.Test.Qxb6614227aFmtRows
import GoSem.ClaimSeven
namespace Go.Proofs.Qxb6614227aFmt
namespace Rows

/-- THE TOLD AND TIED CARD OF 'zzlaws_root_b1.FnCertificateStatusUnmarshalAnyReceiver'. -/
def fnCertificateStatusUnmarshalAnyReceiverCard : Claim7 := { stood := { row := fnCertificateStatusUnmarshalAnyReceiverRow, standIns := [], harness := (true, "2f3699a9f863f1c6ae469f164f0e9475193db7b2ec6105a3092ecf807b8adf1d"), looks := false }, told := true, laidByText := true, laidKinds := [.mapped], laidTests := true, laidLooks := .later, goes := false }
def FnCertificateStatusUnmarshalAnyReceiverToldSaid : Prop := Claim7.holds Tryf.pinned (.plain (OpenSpec.ofChange fnCertificateStatusUnmarshalAnyReceiverSpec)) fnCertificateStatusUnmarshalAnyReceiverCard
/-- ITS FALSE NEIGHBOUR. Refute it at one input. -/
def FnCertificateStatusUnmarshalAnyReceiverToldWrongFalsely : Prop := Claim7.holds Tryf.pinned (.plain (OpenSpec.ofChange fnCertificateStatusUnmarshalAnyReceiverWrong)) fnCertificateStatusUnmarshalAnyReceiverCard

/-- THE TOLD AND TIED CARD OF 'zzlaws_root_b1.FnCertificateStatusUnmarshalTrailingBytes'. -/
def fnCertificateStatusUnmarshalTrailingBytesCard : Claim7 := { stood := { row := fnCertificateStatusUnmarshalTrailingBytesRow, standIns := [], harness := (true, "2f3699a9f863f1c6ae469f164f0e9475193db7b2ec6105a3092ecf807b8adf1d"), looks := false }, told := true, laidByText := true, laidKinds := [.mapped], laidTests := true, laidLooks := .later, goes := false }
def FnCertificateStatusUnmarshalTrailingBytesToldSaid : Prop := Claim7.holds Tryf.pinned (.plain (OpenSpec.ofChange fnCertificateStatusUnmarshalTrailingBytesSpec)) fnCertificateStatusUnmarshalTrailingBytesCard
/-- ITS FALSE NEIGHBOUR. Refute it at one input. -/
def FnCertificateStatusUnmarshalTrailingBytesToldWrongFalsely : Prop := Claim7.holds Tryf.pinned (.plain (OpenSpec.ofChange fnCertificateStatusUnmarshalTrailingBytesWrong)) fnCertificateStatusUnmarshalTrailingBytesCard

/-- THE TOLD CARD OF 'zzlaws_root_b1.FnParseTrustedAuthoritiesJoin'. -/
def fnParseTrustedAuthoritiesJoinCard : Claim7 := { stood := { row := fnParseTrustedAuthoritiesJoinRow, standIns := [], harness := (true, "2f3699a9f863f1c6ae469f164f0e9475193db7b2ec6105a3092ecf807b8adf1d"), looks := false }, told := true, goes := false }
def FnParseTrustedAuthoritiesJoinToldSaid : Prop := Claim7.holds Tryf.pinned (.plain (OpenSpec.ofChange fnParseTrustedAuthoritiesJoinSpec)) fnParseTrustedAuthoritiesJoinCard
/-- ITS FALSE NEIGHBOUR. Refute it at one input. -/
def FnParseTrustedAuthoritiesJoinToldWrongFalsely : Prop := Claim7.holds Tryf.pinned (.plain (OpenSpec.ofChange fnParseTrustedAuthoritiesJoinWrong)) fnParseTrustedAuthoritiesJoinCard
end Rows
end Go.Proofs.Qxb6614227aFmt
