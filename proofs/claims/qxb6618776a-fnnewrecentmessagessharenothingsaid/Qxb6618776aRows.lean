/-
  No cell of these rows narrows 'for every input' (looked for: loops, veiled, ifaces, maps, wideKeys, modest, calm, conditions, laid).
  DERIVED. THE GIVEN ROWS OF THIS SEAT. 1 by the template 'for every input the law returns true; each argument reads behind the call as it read before'; 0 by the template 'total and deterministic' (their statements: Qxb6618776aTotals.lean).
  GIVEN WITH THE SEED: the statements are not yours to turn. If you find one false, say at which input.
  Laid BY PROGRAM, IN A SANDBOX (cutbox-rows.mjs): the forced cells as the released guide's own fill.sh prints them over the translation 6b7714f35e9e4f08… (all of the seat's roots in one cut). By AI agents, Wed Nov 11 2026. No macro, syntax, notation, axiom, sorry.
-/
import Derived.Test.Qxb6618776aChecked
import GoSem.Claim
import GoSem.ClaimJoined
import GoSem.ClaimMapViews
import Derived.JoinedTies
import Derived.KernelRfl
namespace Go.Proofs.Qxb6618776a
/- THE CELL 'sum', in the pinned program and in every row, IS THE sha256 OF THE DUMP (.gsa) THAT Qxb6618776aProg.lean LOADS. Nothing in Lean hashes anything: it is a label: what it is worth is what the hold of that sum in a sandbox is worth. -/
noncomputable def Try.pinned : Pinned := { name := "qxb6618776a", sum := "6b7714f35e9e4f08786a9ddc381004a64efba1b743523ea3e1fa8381061623ef", checked := Try.checked }
namespace Rows
def none {H : Type} : Left H := { results := [], args := [] }

/-- 'zzlaws_pkg_relay_b1.FnNewRecentMessagesShareNothing': WHATEVER THE INPUT: true; the input reads as it did. -/
def fnNewRecentMessagesShareNothingSpec : ChangeSpec := { name := "fnNewRecentMessagesShareNothing", fn := fun _ => fun
  | [d1, d2, d3, d4, d5, d6, d7, d8] => { results := [.lit (.bool true)], args := [d1, d2, d3, d4, d5, d6, d7, d8] }
  | _ => none }
def fnNewRecentMessagesShareNothingRow : OpenClaim := { program := "qxb6618776a", sum := "6b7714f35e9e4f08786a9ddc381004a64efba1b743523ea3e1fa8381061623ef", func := "example.com/fast-relay/fast-relay/zzlaws_pkg_relay_b1.FnNewRecentMessagesShareNothing", spec := "fnNewRecentMessagesShareNothing", plainKeys := false, apart := false }
def FnNewRecentMessagesShareNothingSaid : Prop := fnNewRecentMessagesShareNothingRow.holds Try.pinned (OpenSpec.ofChange fnNewRecentMessagesShareNothingSpec)

/-- ITS FALSE NEIGHBOUR: 'it returns false'. Refute it at one input. -/
def fnNewRecentMessagesShareNothingWrong : ChangeSpec := { name := "fnNewRecentMessagesShareNothing", fn := fun _ => fun
  | [d1, d2, d3, d4, d5, d6, d7, d8] => { results := [.lit (.bool false)], args := [d1, d2, d3, d4, d5, d6, d7, d8] }
  | _ => none }
def FnNewRecentMessagesShareNothingWrongFalsely : Prop := fnNewRecentMessagesShareNothingRow.holds Try.pinned (OpenSpec.ofChange fnNewRecentMessagesShareNothingWrong)

end Rows
end Go.Proofs.Qxb6618776a
