/-
  DERIVED. GIVEN WITH THE SEED: THE CARDS: each row of YtiicdalodfjgaaaGreatFmtRows.lean that lists a variable, with what it lists TIED to the program's text (the seventh form; the later family's looks); each row that meets fmt, with fmt's text TOLD by the authors' own Lean function (tested against real Go, not proved from fmt's source: count such statements apart). THE CARD IS WHAT COUNTS. Prove the row's statement (the work); the ties are given (YtiicdalodfjgaaaGreatFmtTie.lean); close each card by the builder's one call (the guide's Derived/Test/ToyasCard.lean, 'card_holds'). Laid BY PROGRAM, IN A SANDBOX (cutbox-door.mjs). By AI agents, Wed Nov 11 2026. No macro, syntax, notation, axiom, sorry.
-/
import Derived.Test.YtiicdalodfjgaaaGreatFmtRows
import GoSem.ClaimSeven
namespace Go.Proofs.YtiicdalodfjgaaaGreatFmt
namespace Rows

/-- THE TOLD AND TIED CARD OF 'laws.FnLex'. -/
def fnLexCard : Claim7 := { stood := { row := fnLexRow, standIns := [], harness := (true, "fba5dbae8d779519b625071696673eef6925b99ba20788bedab99576626d6522"), looks := false }, told := true, laidByText := true, laidKinds := [.data, .sentinel, .pinned, .pinned, .pinned, .pinned, .pinned, .pinned], laidTests := true, laidLooks := .later, goes := false }
def FnLexToldSaid : Prop := Claim7.holds Tryz.pinned (.plain (OpenSpec.ofChange fnLexSpec)) fnLexCard
/-- ITS FALSE NEIGHBOUR. Refute it at one input. -/
def FnLexToldWrongFalsely : Prop := Claim7.holds Tryz.pinned (.plain (OpenSpec.ofChange fnLexWrong)) fnLexCard
end Rows
end Go.Proofs.YtiicdalodfjgaaaGreatFmt
