/-
  No cell of these rows narrows 'for every input' (looked for: loops, veiled, ifaces, maps, wideKeys, modest, calm, conditions, laid).
  DERIVED. THE GIVEN ROWS OF THIS SEAT. 2 by the template 'for every input the law returns true; each argument reads behind the call as it read before'; 0 by the template 'total and deterministic' (their statements: Qxb6618684aFmtTotals.lean).
  GIVEN WITH THE SEED: the statements are not yours to turn. If you find one false, say at which input.
  Laid BY PROGRAM, IN A SANDBOX (cutbox-rows.mjs): the forced cells as the released guide's own fill.sh prints them over the translation 3a3e7d5f831f62c7… (all of the seat's roots in one cut). By AI agents, Wed Nov 11 2026. No macro, syntax, notation, axiom, sorry.
-/
import Derived.Test.Qxb6618684aFmtChecked
import GoSem.Claim
import GoSem.ClaimJoined
import GoSem.ClaimMapViews
import Derived.JoinedTies
import Derived.KernelRfl
namespace Go.Proofs.Qxb6618684aFmt
/- THE CELL 'sum', in the pinned program and in every row, IS THE sha256 OF THE DUMP (.gsa) THAT Qxb6618684aFmtProg.lean LOADS. Nothing in Lean hashes anything: it is a label: what it is worth is what the hold of that sum in a sandbox is worth. -/
noncomputable def Tryf.pinned : Pinned := { name := "qxb6618684afmt", sum := "3a3e7d5f831f62c7c56cd02fbdddd0ec473bbfcf414a0abf98a92cee2d3f3028", checked := Tryf.checked }
namespace Rows
def none {H : Type} : Left H := { results := [], args := [] }

/-- 'zzlaws_internal_library_b1.FnLicenseInFollowsBecome': WHATEVER THE INPUT: true; the input reads as it did. -/
def fnLicenseInFollowsBecomeSpec : ChangeSpec := { name := "fnLicenseInFollowsBecome", fn := fun _ => fun
  | [d1, d2, d3, d4, d5, d6, d7] => { results := [.lit (.bool true)], args := [d1, d2, d3, d4, d5, d6, d7] }
  | _ => none }
def fnLicenseInFollowsBecomeRow : OpenClaim := { program := "qxb6618684afmt", sum := "3a3e7d5f831f62c7c56cd02fbdddd0ec473bbfcf414a0abf98a92cee2d3f3028", func := "example.com/quietloop/quietloop/zzlaws_internal_library_b1.FnLicenseInFollowsBecome", spec := "fnLicenseInFollowsBecome", stops := ["fmt.errorf"], inPlace := ["fmt.errorf"], apart := false }
/-- NO THEOREM (fmt's text is open here; it may be false): for the released tool's asking of the row's closed facts alone. THE STATEMENT IS 'FnLicenseInFollowsBecomeToldSaid' (Qxb6618684aFmtCards.lean). -/
def FnLicenseInFollowsBecomeFormAsk : Prop := fnLicenseInFollowsBecomeRow.holds Tryf.pinned (OpenSpec.ofChange fnLicenseInFollowsBecomeSpec)

/-- ITS FALSE NEIGHBOUR: 'it returns false'. Refute it at one input. -/
def fnLicenseInFollowsBecomeWrong : ChangeSpec := { name := "fnLicenseInFollowsBecome", fn := fun _ => fun
  | [d1, d2, d3, d4, d5, d6, d7] => { results := [.lit (.bool false)], args := [d1, d2, d3, d4, d5, d6, d7] }
  | _ => none }
def FnLicenseInFollowsBecomeWrongFormAsk : Prop := fnLicenseInFollowsBecomeRow.holds Tryf.pinned (OpenSpec.ofChange fnLicenseInFollowsBecomeWrong)

/-- 'zzlaws_internal_library_b1.FnLicenseInAgreesWithRecordList': WHATEVER THE INPUT: true; the input reads as it did. -/
def fnLicenseInAgreesWithRecordListSpec : ChangeSpec := { name := "fnLicenseInAgreesWithRecordList", fn := fun _ => fun
  | [d1, d2, d3, d4] => { results := [.lit (.bool true)], args := [d1, d2, d3, d4] }
  | _ => none }
def fnLicenseInAgreesWithRecordListRow : OpenClaim := { program := "qxb6618684afmt", sum := "3a3e7d5f831f62c7c56cd02fbdddd0ec473bbfcf414a0abf98a92cee2d3f3028", func := "example.com/quietloop/quietloop/zzlaws_internal_library_b1.FnLicenseInAgreesWithRecordList", spec := "fnLicenseInAgreesWithRecordList", stops := ["fmt.errorf"], inPlace := ["fmt.errorf"], apart := false }
/-- NO THEOREM (fmt's text is open here; it may be false): for the released tool's asking of the row's closed facts alone. THE STATEMENT IS 'FnLicenseInAgreesWithRecordListToldSaid' (Qxb6618684aFmtCards.lean). -/
def FnLicenseInAgreesWithRecordListFormAsk : Prop := fnLicenseInAgreesWithRecordListRow.holds Tryf.pinned (OpenSpec.ofChange fnLicenseInAgreesWithRecordListSpec)

/-- ITS FALSE NEIGHBOUR: 'it returns false'. Refute it at one input. -/
def fnLicenseInAgreesWithRecordListWrong : ChangeSpec := { name := "fnLicenseInAgreesWithRecordList", fn := fun _ => fun
  | [d1, d2, d3, d4] => { results := [.lit (.bool false)], args := [d1, d2, d3, d4] }
  | _ => none }
def FnLicenseInAgreesWithRecordListWrongFormAsk : Prop := fnLicenseInAgreesWithRecordListRow.holds Tryf.pinned (OpenSpec.ofChange fnLicenseInAgreesWithRecordListWrong)

end Rows
end Go.Proofs.Qxb6618684aFmt
