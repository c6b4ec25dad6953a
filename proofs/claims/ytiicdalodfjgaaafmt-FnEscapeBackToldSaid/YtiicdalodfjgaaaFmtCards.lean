/-
  DERIVED. GIVEN WITH THE SEED: THE CARDS: each row of YtiicdalodfjgaaaFmtRows.lean that lists a variable, with what it lists TIED to the program's text (the seventh form; the later family's looks); each row that meets fmt, with fmt's text TOLD by the authors' own Lean function (tested against real Go, not proved from fmt's source: count such statements apart). THE CARD IS WHAT COUNTS. Prove the row's statement (the work); the ties are given (YtiicdalodfjgaaaFmtTie.lean); close each card by the builder's one call (the guide's Derived/Test/ToyasCard.lean, 'card_holds'). Laid BY PROGRAM, IN A SANDBOX (cutbox-door.mjs). By AI agents, Wed Nov 11 2026. No macro, syntax, notation, axiom, sorry.
-/
import Derived.Test.YtiicdalodfjgaaaFmtRows
import GoSem.ClaimSeven
namespace Go.Proofs.YtiicdalodfjgaaaFmt
namespace Rows

/-- THE TOLD AND TIED CARD OF 'laws.FnUnescape'. -/
def fnUnescapeCard : Claim7 := { stood := { row := fnUnescapeRow, standIns := [], harness := (true, "7052e84944c8377eedca49efb09ae797ba2c849b405408e1f4915a8d92c2732d"), looks := false }, told := true, laidByText := true, laidKinds := [.data, .sentinel, .sentinel, .pinned], laidTests := true, laidLooks := .later, goes := false }
def FnUnescapeToldSaid : Prop := Claim7.holds Tryf.pinned (.plain (OpenSpec.ofChange fnUnescapeSpec)) fnUnescapeCard
/-- ITS FALSE NEIGHBOUR. Refute it at one input. -/
def FnUnescapeToldWrongFalsely : Prop := Claim7.holds Tryf.pinned (.plain (OpenSpec.ofChange fnUnescapeWrong)) fnUnescapeCard

/-- THE TOLD AND TIED CARD OF 'laws.FnEscapeBack'. -/
def fnEscapeBackCard : Claim7 := { stood := { row := fnEscapeBackRow, standIns := [], harness := (true, "7052e84944c8377eedca49efb09ae797ba2c849b405408e1f4915a8d92c2732d"), looks := false }, told := true, laidByText := true, laidKinds := [.data, .sentinel, .sentinel, .pinned], laidTests := true, laidLooks := .later, goes := false }
def FnEscapeBackToldSaid : Prop := Claim7.holds Tryf.pinned (.plain (OpenSpec.ofChange fnEscapeBackSpec)) fnEscapeBackCard
/-- ITS FALSE NEIGHBOUR. Refute it at one input. -/
def FnEscapeBackToldWrongFalsely : Prop := Claim7.holds Tryf.pinned (.plain (OpenSpec.ofChange fnEscapeBackWrong)) fnEscapeBackCard
end Rows
end Go.Proofs.YtiicdalodfjgaaaFmt
