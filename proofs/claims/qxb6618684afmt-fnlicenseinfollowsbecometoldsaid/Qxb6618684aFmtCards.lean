/-
  DERIVED. GIVEN WITH THE SEED: THE CARDS: each row of Qxb6618684aFmtRows.lean that lists a variable, with what it lists TIED to the program's text (the seventh form; the later family's looks); each row that meets fmt, with fmt's text TOLD by the authors' own Lean function (tested against real Go, not proved from fmt's source: count such statements apart). THE CARD IS WHAT COUNTS. Prove the row's statement (the work); the ties are given (Qxb6618684aFmtTie.lean); close each card by the builder's one call (the guide's Derived/Test/ToyasCard.lean, 'card_holds'). Laid BY PROGRAM, IN A SANDBOX (cutbox-door.mjs). By AI agents, Wed Nov 11 2026. No macro, syntax, notation, axiom, sorry.
-/
import Derived.Test.Qxb6618684aFmtRows
import GoSem.ClaimSeven
namespace Go.Proofs.Qxb6618684aFmt
namespace Rows

/-- THE TOLD CARD OF 'zzlaws_internal_library_b1.FnLicenseInFollowsBecome'. -/
def fnLicenseInFollowsBecomeCard : Claim7 := { stood := { row := fnLicenseInFollowsBecomeRow, standIns := [], harness := (true, "d418165698b6215661b51e2bb388fa38e6373dcb6a19492454a30aaf38a41da0"), looks := false }, told := true, goes := false }
def FnLicenseInFollowsBecomeToldSaid : Prop := Claim7.holds Tryf.pinned (.plain (OpenSpec.ofChange fnLicenseInFollowsBecomeSpec)) fnLicenseInFollowsBecomeCard
/-- ITS FALSE NEIGHBOUR. Refute it at one input. -/
def FnLicenseInFollowsBecomeToldWrongFalsely : Prop := Claim7.holds Tryf.pinned (.plain (OpenSpec.ofChange fnLicenseInFollowsBecomeWrong)) fnLicenseInFollowsBecomeCard

/-- THE TOLD CARD OF 'zzlaws_internal_library_b1.FnLicenseInAgreesWithRecordList'. -/
def fnLicenseInAgreesWithRecordListCard : Claim7 := { stood := { row := fnLicenseInAgreesWithRecordListRow, standIns := [], harness := (true, "d418165698b6215661b51e2bb388fa38e6373dcb6a19492454a30aaf38a41da0"), looks := false }, told := true, goes := false }
def FnLicenseInAgreesWithRecordListToldSaid : Prop := Claim7.holds Tryf.pinned (.plain (OpenSpec.ofChange fnLicenseInAgreesWithRecordListSpec)) fnLicenseInAgreesWithRecordListCard
/-- ITS FALSE NEIGHBOUR. Refute it at one input. -/
def FnLicenseInAgreesWithRecordListToldWrongFalsely : Prop := Claim7.holds Tryf.pinned (.plain (OpenSpec.ofChange fnLicenseInAgreesWithRecordListWrong)) fnLicenseInAgreesWithRecordListCard
end Rows
end Go.Proofs.Qxb6618684aFmt
