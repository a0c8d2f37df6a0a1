/-
  DERIVED. GIVEN WITH THE SEED: THE CARDS: each row of YtnkemepodpkhnaaGreatFmtRows.lean that lists a variable, with what it lists TIED to the program's text (the seventh form; the later family's looks); each row that meets fmt, with fmt's text TOLD by the authors' own Lean function (tested against real Go, not proved from fmt's source: count such statements apart). THE CARD IS WHAT COUNTS. Prove the row's statement (the work); the ties are given (YtnkemepodpkhnaaGreatFmtTie.lean); close each card by the builder's one call (the guide's Derived/Test/ToyasCard.lean, 'card_holds'). Laid BY PROGRAM, IN A SANDBOX (cutbox-door.mjs). By AI agents, Wed Nov 11 2026. No macro, syntax, notation, axiom, sorry.
-/
import Derived.Test.YtnkemepodpkhnaaGreatFmtRows
import GoSem.ClaimSeven
namespace Go.Proofs.YtnkemepodpkhnaaGreatFmt
namespace Rows

/-- THE TOLD AND TIED CARD OF 'laws.FnLzmaHead'. -/
def fnLzmaHeadCard : Claim7 := { stood := { row := fnLzmaHeadRow, standIns := [], harness := (true, "ab0b82aa37bf928fde5e0ddb62cf3d347c15cbe1e0fd3b8fa3a739a4be0016a8"), looks := true }, told := true, laidByText := true, laidKinds := [.sentinel, .sentinel, .sentinel], laidTests := true, laidLooks := .later, goes := false }
def FnLzmaHeadToldSaid : Prop := Claim7.holds Tryz.pinned (.plain (OpenSpec.ofChange fnLzmaHeadSpec)) fnLzmaHeadCard
/-- ITS FALSE NEIGHBOUR. Refute it at one input. -/
def FnLzmaHeadToldWrongFalsely : Prop := Claim7.holds Tryz.pinned (.plain (OpenSpec.ofChange fnLzmaHeadWrong)) fnLzmaHeadCard
end Rows
end Go.Proofs.YtnkemepodpkhnaaGreatFmt
