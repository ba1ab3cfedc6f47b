/-
  No cell of these rows narrows 'for every input' (looked for: loops, veiled, ifaces, maps, wideKeys, modest, calm, conditions, laid).
  DERIVED. THE GIVEN ROWS OF THIS SEAT. 3 by the template 'for every input the law returns true; each argument reads behind the call as it read before'; 0 by the template 'total and deterministic' (their statements: Qxb6618832aTotals.lean).
  GIVEN WITH THE SEED: the statements are not yours to turn. If you find one false, say at which input.
  Laid BY PROGRAM, IN A SANDBOX (cutbox-rows.mjs): the forced cells as the released guide's own fill.sh prints them over the translation d3a10109efeb4601… (all of the seat's roots in one cut). By AI agents, Wed Nov 11 2026. No macro, syntax, notation, axiom, sorry.
-/
import Derived.Test.Qxb6618832aChecked
import GoSem.Claim
import GoSem.ClaimJoined
import GoSem.ClaimMapViews
import Derived.JoinedTies
import Derived.KernelRfl
namespace Go.Proofs.Qxb6618832a
/- THE CELL 'sum', in the pinned program and in every row, IS THE sha256 OF THE DUMP (.gsa) THAT Qxb6618832aProg.lean LOADS. Nothing in Lean hashes anything: it is a label: what it is worth is what the hold of that sum in a sandbox is worth. -/
noncomputable def Try.pinned : Pinned := { name := "qxb6618832a", sum := "d3a10109efeb4601d45f4a8afcdbae640da5ff0910a82622e2a99686be024545", checked := Try.checked }
namespace Rows
def none {H : Type} : Left H := { results := [], args := [] }

/-- 'zzlaws_root_b1.FnStandsForItselfWindow': WHATEVER THE INPUT: true; the input reads as it did. -/
def fnStandsForItselfWindowSpec : ChangeSpec := { name := "fnStandsForItselfWindow", fn := fun _ => fun
  | [d1, d2] => { results := [.lit (.bool true)], args := [d1, d2] }
  | _ => none }
def fnStandsForItselfWindowRow : OpenClaim := { program := "qxb6618832a", sum := "d3a10109efeb4601d45f4a8afcdbae640da5ff0910a82622e2a99686be024545", func := "example.com/cubbyhole/cubbyhole/zzlaws_root_b1.FnStandsForItselfWindow", spec := "fnStandsForItselfWindow", apart := false }
def FnStandsForItselfWindowSaid : Prop := fnStandsForItselfWindowRow.holds Try.pinned (OpenSpec.ofChange fnStandsForItselfWindowSpec)

/-- ITS FALSE NEIGHBOUR: 'it returns false'. Refute it at one input. -/
def fnStandsForItselfWindowWrong : ChangeSpec := { name := "fnStandsForItselfWindow", fn := fun _ => fun
  | [d1, d2] => { results := [.lit (.bool false)], args := [d1, d2] }
  | _ => none }
def FnStandsForItselfWindowWrongFalsely : Prop := fnStandsForItselfWindowRow.holds Try.pinned (OpenSpec.ofChange fnStandsForItselfWindowWrong)

/-- 'zzlaws_root_b1.FnFileJoinsCleaned': WHATEVER THE INPUT: true; the input reads as it did. -/
def fnFileJoinsCleanedSpec : ChangeSpec := { name := "fnFileJoinsCleaned", fn := fun _ => fun
  | [d1, d2, d3, d4] => { results := [.lit (.bool true)], args := [d1, d2, d3, d4] }
  | _ => none }
def fnFileJoinsCleanedRow : OpenClaim := { program := "qxb6618832a", sum := "d3a10109efeb4601d45f4a8afcdbae640da5ff0910a82622e2a99686be024545", func := "example.com/cubbyhole/cubbyhole/zzlaws_root_b1.FnFileJoinsCleaned", spec := "fnFileJoinsCleaned", inPlace := ["internal/abi.NoEscape", "internal/bytealg.MakeNoZero", "internal/bytealg.IndexByteString"], apart := false }
def FnFileJoinsCleanedSaid : Prop := fnFileJoinsCleanedRow.holds Try.pinned (OpenSpec.ofChange fnFileJoinsCleanedSpec)

/-- ITS FALSE NEIGHBOUR: 'it returns false'. Refute it at one input. -/
def fnFileJoinsCleanedWrong : ChangeSpec := { name := "fnFileJoinsCleaned", fn := fun _ => fun
  | [d1, d2, d3, d4] => { results := [.lit (.bool false)], args := [d1, d2, d3, d4] }
  | _ => none }
def FnFileJoinsCleanedWrongFalsely : Prop := fnFileJoinsCleanedRow.holds Try.pinned (OpenSpec.ofChange fnFileJoinsCleanedWrong)

/-- 'zzlaws_root_b1.FnFileIsDirPlusPath': WHATEVER THE INPUT: true; the input reads as it did. -/
def fnFileIsDirPlusPathSpec : ChangeSpec := { name := "fnFileIsDirPlusPath", fn := fun _ => fun
  | [d1, d2, d3, d4] => { results := [.lit (.bool true)], args := [d1, d2, d3, d4] }
  | _ => none }
def fnFileIsDirPlusPathRow : OpenClaim := { program := "qxb6618832a", sum := "d3a10109efeb4601d45f4a8afcdbae640da5ff0910a82622e2a99686be024545", func := "example.com/cubbyhole/cubbyhole/zzlaws_root_b1.FnFileIsDirPlusPath", spec := "fnFileIsDirPlusPath", inPlace := ["internal/abi.NoEscape", "internal/bytealg.MakeNoZero", "internal/bytealg.IndexByteString"], apart := false }
def FnFileIsDirPlusPathSaid : Prop := fnFileIsDirPlusPathRow.holds Try.pinned (OpenSpec.ofChange fnFileIsDirPlusPathSpec)

/-- ITS FALSE NEIGHBOUR: 'it returns false'. Refute it at one input. -/
def fnFileIsDirPlusPathWrong : ChangeSpec := { name := "fnFileIsDirPlusPath", fn := fun _ => fun
  | [d1, d2, d3, d4] => { results := [.lit (.bool false)], args := [d1, d2, d3, d4] }
  | _ => none }
def FnFileIsDirPlusPathWrongFalsely : Prop := fnFileIsDirPlusPathRow.holds Try.pinned (OpenSpec.ofChange fnFileIsDirPlusPathWrong)

end Rows
end Go.Proofs.Qxb6618832a
