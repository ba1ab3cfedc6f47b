/-
  No cell of these rows narrows 'for every input' (looked for: loops, veiled, ifaces, maps, wideKeys, modest, calm, conditions, laid).
  DERIVED. THE GIVEN ROWS OF THIS SEAT. 2 by the template 'for every input the law returns true; each argument reads behind the call as it read before'; 0 by the template 'total and deterministic' (their statements: Qxb6618760aFmtTotals.lean).
  GIVEN WITH THE SEED: the statements are not yours to turn. If you find one false, say at which input.
  Laid BY PROGRAM, IN A SANDBOX (cutbox-rows.mjs): the forced cells as the released guide's own fill.sh prints them over the translation 57b1aa01ca5397f5… (all of the seat's roots in one cut). By AI agents, Wed Nov 11 2026. No macro, syntax, notation, axiom, sorry.
-/
import Derived.Test.Qxb6618760aFmtChecked
import GoSem.Claim
import GoSem.ClaimJoined
import GoSem.ClaimMapViews
import Derived.JoinedTies
import Derived.KernelRfl
namespace Go.Proofs.Qxb6618760aFmt
/- THE CELL 'sum', in the pinned program and in every row, IS THE sha256 OF THE DUMP (.gsa) THAT Qxb6618760aFmtProg.lean LOADS. Nothing in Lean hashes anything: it is a label: what it is worth is what the hold of that sum in a sandbox is worth. -/
noncomputable def Tryf.pinned : Pinned := { name := "qxb6618760afmt", sum := "57b1aa01ca5397f5fa1aafb799cae54dbbc5881f5c4e5c3ed64854fe406760ca", checked := Tryf.checked }
namespace Rows
def none {H : Type} : Left H := { results := [], args := [] }

/-- 'zzlaws_internal_jsonkeys_b1.FnWithinGrowsOnePathAndCopiesKeys': WHATEVER THE INPUT: true; the input reads as it did. -/
def fnWithinGrowsOnePathAndCopiesKeysSpec : ChangeSpec := { name := "fnWithinGrowsOnePathAndCopiesKeys", fn := fun _ => fun
  | [d1, d2] => { results := [.lit (.bool true)], args := [d1, d2] }
  | _ => none }
def fnWithinGrowsOnePathAndCopiesKeysRow : OpenClaim := { program := "qxb6618760afmt", sum := "57b1aa01ca5397f5fa1aafb799cae54dbbc5881f5c4e5c3ed64854fe406760ca", func := "example.com/parley/parley/zzlaws_internal_jsonkeys_b1.FnWithinGrowsOnePathAndCopiesKeys", spec := "fnWithinGrowsOnePathAndCopiesKeys", stops := ["fmt.errorf"], inPlace := ["fmt.errorf"], apart := false }
/-- NO THEOREM (fmt's text is open here; it may be false): for the released tool's asking of the row's closed facts alone. THE STATEMENT IS 'FnWithinGrowsOnePathAndCopiesKeysToldSaid' (Qxb6618760aFmtCards.lean). -/
def FnWithinGrowsOnePathAndCopiesKeysFormAsk : Prop := fnWithinGrowsOnePathAndCopiesKeysRow.holds Tryf.pinned (OpenSpec.ofChange fnWithinGrowsOnePathAndCopiesKeysSpec)

/-- ITS FALSE NEIGHBOUR: 'it returns false'. Refute it at one input. -/
def fnWithinGrowsOnePathAndCopiesKeysWrong : ChangeSpec := { name := "fnWithinGrowsOnePathAndCopiesKeys", fn := fun _ => fun
  | [d1, d2] => { results := [.lit (.bool false)], args := [d1, d2] }
  | _ => none }
def FnWithinGrowsOnePathAndCopiesKeysWrongFormAsk : Prop := fnWithinGrowsOnePathAndCopiesKeysRow.holds Tryf.pinned (OpenSpec.ofChange fnWithinGrowsOnePathAndCopiesKeysWrong)

/-- 'zzlaws_internal_jsonkeys_b1.FnUnknownKeyIsLeafError': WHATEVER THE INPUT: true; the input reads as it did. -/
def fnUnknownKeyIsLeafErrorSpec : ChangeSpec := { name := "fnUnknownKeyIsLeafError", fn := fun _ => fun
  | [d] => { results := [.lit (.bool true)], args := [d] }
  | _ => none }
def fnUnknownKeyIsLeafErrorRow : OpenClaim := { program := "qxb6618760afmt", sum := "57b1aa01ca5397f5fa1aafb799cae54dbbc5881f5c4e5c3ed64854fe406760ca", func := "example.com/parley/parley/zzlaws_internal_jsonkeys_b1.FnUnknownKeyIsLeafError", spec := "fnUnknownKeyIsLeafError", stops := ["fmt.errorf"], inPlace := ["fmt.errorf"], apart := false }
/-- NO THEOREM (fmt's text is open here; it may be false): for the released tool's asking of the row's closed facts alone. THE STATEMENT IS 'FnUnknownKeyIsLeafErrorToldSaid' (Qxb6618760aFmtCards.lean). -/
def FnUnknownKeyIsLeafErrorFormAsk : Prop := fnUnknownKeyIsLeafErrorRow.holds Tryf.pinned (OpenSpec.ofChange fnUnknownKeyIsLeafErrorSpec)

/-- ITS FALSE NEIGHBOUR: 'it returns false'. Refute it at one input. -/
def fnUnknownKeyIsLeafErrorWrong : ChangeSpec := { name := "fnUnknownKeyIsLeafError", fn := fun _ => fun
  | [d] => { results := [.lit (.bool false)], args := [d] }
  | _ => none }
def FnUnknownKeyIsLeafErrorWrongFormAsk : Prop := fnUnknownKeyIsLeafErrorRow.holds Tryf.pinned (OpenSpec.ofChange fnUnknownKeyIsLeafErrorWrong)

end Rows
end Go.Proofs.Qxb6618760aFmt
