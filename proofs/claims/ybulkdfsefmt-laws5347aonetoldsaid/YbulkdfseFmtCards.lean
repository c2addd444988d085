/-
  DERIVED. GIVEN WITH THE SEED: THE CARDS: each row of YbulkdfseFmtRows.lean that lists a variable, with what it lists TIED to the program's text (the seventh form; the later family's looks); each row that meets fmt, with fmt's text TOLD by the authors' own Lean function (tested against real Go, not proved from fmt's source: count such statements apart). THE CARD IS WHAT COUNTS. Prove the row's statement (the work); the ties are given (YbulkdfseFmtTie.lean); close each card by the builder's one call (the guide's Derived/Test/ToyasCard.lean, 'card_holds'). Laid BY PROGRAM, IN A SANDBOX (cutbox-door.mjs). By AI agents, Wed Nov 11 2026. No macro, syntax, notation, axiom, sorry.
-/
import Derived.Test.YbulkdfseFmtRows
import GoSem.ClaimSeven
namespace Go.Proofs.YbulkdfseFmt
namespace Rows

/-- THE TOLD CARD OF 'syntax.LawS5347AOne'. -/
def lawS5347AOneCard : Claim7 := { stood := { row := lawS5347AOneRow, standIns := [], harness := (true, "a2476ec809dbdf1e45446f525c0d240955df76248e0b092aa098d25283dc3196"), looks := false }, told := true, goes := false }
def LawS5347AOneToldSaid : Prop := Claim7.holds Ybaf.pinned (.plain (OpenSpec.ofChange lawS5347AOneSpec)) lawS5347AOneCard
/-- ITS FALSE NEIGHBOUR. Refute it at one input. -/
def LawS5347AOneToldWrongFalsely : Prop := Claim7.holds Ybaf.pinned (.plain (OpenSpec.ofChange lawS5347AOneWrong)) lawS5347AOneCard

/-- THE TOLD CARD OF 'syntax.LawS5347AOther'. -/
def lawS5347AOtherCard : Claim7 := { stood := { row := lawS5347AOtherRow, standIns := [], harness := (true, "a2476ec809dbdf1e45446f525c0d240955df76248e0b092aa098d25283dc3196"), looks := false }, told := true, goes := false }
def LawS5347AOtherToldSaid : Prop := Claim7.holds Ybaf.pinned (.plain (OpenSpec.ofChange lawS5347AOtherSpec)) lawS5347AOtherCard
/-- ITS FALSE NEIGHBOUR. Refute it at one input. -/
def LawS5347AOtherToldWrongFalsely : Prop := Claim7.holds Ybaf.pinned (.plain (OpenSpec.ofChange lawS5347AOtherWrong)) lawS5347AOtherCard
end Rows
end Go.Proofs.YbulkdfseFmt
