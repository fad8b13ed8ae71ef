/-
  DERIVED. GIVEN WITH THE SEED: THE CARDS: each row of YtmggbhfdomlmcaaGreatFmtRows.lean that lists a variable, with what it lists TIED to the program's text (the seventh form; the later family's looks); each row that meets fmt, with fmt's text TOLD by the authors' own Lean function (tested against real Go, not proved from fmt's source: count such statements apart). THE CARD IS WHAT COUNTS. Prove the row's statement (the work); the ties are given (YtmggbhfdomlmcaaGreatFmtTie.lean); close each card by the builder's one call (the guide's Derived/Test/ToyasCard.lean, 'card_holds'). Laid BY PROGRAM, IN A SANDBOX (cutbox-door.mjs). By AI agents, Wed Nov 11 2026. No macro, syntax, notation, axiom, sorry.
-/
import Derived.Test.YtmggbhfdomlmcaaGreatFmtRows
import GoSem.ClaimSeven
namespace Go.Proofs.YtmggbhfdomlmcaaGreatFmt
namespace Rows

/-- THE TOLD AND TIED CARD OF 'laws.FnEscapeRead'. -/
def fnEscapeReadCard : Claim7 := { stood := { row := fnEscapeReadRow, standIns := [], harness := (true, "56efa35dd4fe5130a1a595f9f8e365044db4a4b6af262a7ddaf99e047ceab268"), looks := true }, told := true, laidByText := true, laidKinds := [.data, .sentinel, .mapped, .mapped, .mapped, .sentinel, .pinned, .pinned, .pinned, .pinned, .pinned, .pinned], laidTests := true, laidLooks := .later, goes := false }
def FnEscapeReadToldSaid : Prop := Claim7.holds Tryz.pinned (.plain (OpenSpec.ofChange fnEscapeReadSpec)) fnEscapeReadCard
/-- ITS FALSE NEIGHBOUR. Refute it at one input. -/
def FnEscapeReadToldWrongFalsely : Prop := Claim7.holds Tryz.pinned (.plain (OpenSpec.ofChange fnEscapeReadWrong)) fnEscapeReadCard

/-- THE TOLD AND TIED CARD OF 'laws.FnNameRead'. -/
def fnNameReadCard : Claim7 := { stood := { row := fnNameReadRow, standIns := [], harness := (true, "56efa35dd4fe5130a1a595f9f8e365044db4a4b6af262a7ddaf99e047ceab268"), looks := true }, told := true, laidByText := true, laidKinds := [.data, .sentinel, .mapped, .mapped, .mapped, .sentinel, .pinned, .pinned, .pinned, .pinned, .pinned, .pinned], laidTests := true, laidLooks := .later, goes := false }
def FnNameReadToldSaid : Prop := Claim7.holds Tryz.pinned (.plain (OpenSpec.ofChange fnNameReadSpec)) fnNameReadCard
/-- ITS FALSE NEIGHBOUR. Refute it at one input. -/
def FnNameReadToldWrongFalsely : Prop := Claim7.holds Tryz.pinned (.plain (OpenSpec.ofChange fnNameReadWrong)) fnNameReadCard
end Rows
end Go.Proofs.YtmggbhfdomlmcaaGreatFmt
