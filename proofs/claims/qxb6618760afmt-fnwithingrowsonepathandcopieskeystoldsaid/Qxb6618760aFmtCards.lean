/-
  DERIVED. GIVEN WITH THE SEED: THE CARDS: each row of Qxb6618760aFmtRows.lean that lists a variable, with what it lists TIED to the program's text (the seventh form; the later family's looks); each row that meets fmt, with fmt's text TOLD by the authors' own Lean function (tested against real Go, not proved from fmt's source: count such statements apart). THE CARD IS WHAT COUNTS. Prove the row's statement (the work); the ties are given (Qxb6618760aFmtTie.lean); close each card by the builder's one call (the guide's Derived/Test/ToyasCard.lean, 'card_holds'). Laid BY PROGRAM, IN A SANDBOX (cutbox-door.mjs). By AI agents, Wed Nov 11 2026. No macro, syntax, notation, axiom, sorry.
-/
import Derived.Test.Qxb6618760aFmtRows
import GoSem.ClaimSeven
namespace Go.Proofs.Qxb6618760aFmt
namespace Rows

/-- THE TOLD CARD OF 'zzlaws_internal_jsonkeys_b1.FnWithinGrowsOnePathAndCopiesKeys'. -/
def fnWithinGrowsOnePathAndCopiesKeysCard : Claim7 := { stood := { row := fnWithinGrowsOnePathAndCopiesKeysRow, standIns := [], harness := (true, "99f1748d9bb9866ceba0dd134e6799f106b81b32a1016668516f978684b5fbc3"), looks := true }, told := true, goes := false }
def FnWithinGrowsOnePathAndCopiesKeysToldSaid : Prop := Claim7.holds Tryf.pinned (.plain (OpenSpec.ofChange fnWithinGrowsOnePathAndCopiesKeysSpec)) fnWithinGrowsOnePathAndCopiesKeysCard
/-- ITS FALSE NEIGHBOUR. Refute it at one input. -/
def FnWithinGrowsOnePathAndCopiesKeysToldWrongFalsely : Prop := Claim7.holds Tryf.pinned (.plain (OpenSpec.ofChange fnWithinGrowsOnePathAndCopiesKeysWrong)) fnWithinGrowsOnePathAndCopiesKeysCard

/-- THE TOLD CARD OF 'zzlaws_internal_jsonkeys_b1.FnUnknownKeyIsLeafError'. -/
def fnUnknownKeyIsLeafErrorCard : Claim7 := { stood := { row := fnUnknownKeyIsLeafErrorRow, standIns := [], harness := (true, "99f1748d9bb9866ceba0dd134e6799f106b81b32a1016668516f978684b5fbc3"), looks := true }, told := true, goes := false }
def FnUnknownKeyIsLeafErrorToldSaid : Prop := Claim7.holds Tryf.pinned (.plain (OpenSpec.ofChange fnUnknownKeyIsLeafErrorSpec)) fnUnknownKeyIsLeafErrorCard
/-- ITS FALSE NEIGHBOUR. Refute it at one input. -/
def FnUnknownKeyIsLeafErrorToldWrongFalsely : Prop := Claim7.holds Tryf.pinned (.plain (OpenSpec.ofChange fnUnknownKeyIsLeafErrorWrong)) fnUnknownKeyIsLeafErrorCard
end Rows
end Go.Proofs.Qxb6618760aFmt
