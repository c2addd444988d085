/-
  No cell of these rows narrows 'for every input' (looked for: loops, veiled, ifaces, maps, wideKeys, modest, calm, conditions, laid).
  DERIVED. THE GIVEN ROWS OF THIS SEAT. 2 by the template 'for every input the law returns true; each argument reads behind the call as it read before'; 0 by the template 'total and deterministic' (their statements: YbulkdfseFmtTotals.lean).
  GIVEN WITH THE SEED: the statements are not yours to turn. If you find one false, say at which input.
  Laid BY PROGRAM, IN A SANDBOX (cutbox-rows.mjs): the forced cells as the released guide's own fill.sh prints them over the translation 075c9c36df7cc53b… (all of the seat's roots in one cut). By AI agents, Wed Nov 11 2026. No macro, syntax, notation, axiom, sorry.
-/
import Derived.Test.YbulkdfseFmtChecked
import GoSem.Claim
import GoSem.ClaimJoined
import GoSem.ClaimMapViews
import Derived.JoinedTies
import Derived.KernelRfl
namespace Go.Proofs.YbulkdfseFmt
/- THE CELL 'sum', in the pinned program and in every row, IS THE sha256 OF THE DUMP (.gsa) THAT YbulkdfseFmtProg.lean LOADS. Nothing in Lean hashes anything: it is a label: what it is worth is what the hold of that sum in a sandbox is worth. -/
noncomputable def Ybaf.pinned : Pinned := { name := "ybulkdfsefmt", sum := "075c9c36df7cc53b0d64337edca3494167a044a047b2bca2be0605d74b02539f", checked := Ybaf.checked }
namespace Rows
def none {H : Type} : Left H := { results := [], args := [] }

/-- 'syntax.LawS5347AOne': WHATEVER THE INPUT: true; the input reads as it did. -/
def lawS5347AOneSpec : ChangeSpec := { name := "lawS5347AOne", fn := fun _ => fun
  | [d] => { results := [.lit (.bool true)], args := [d] }
  | _ => none }
def lawS5347AOneRow : OpenClaim := { program := "ybulkdfsefmt", sum := "075c9c36df7cc53b0d64337edca3494167a044a047b2bca2be0605d74b02539f", func := "example.com/lathework/lathework/internal/syntax.LawS5347AOne", spec := "lawS5347AOne", stops := ["fmt.Sprintf"], inPlace := ["fmt.Sprintf"], apart := false }
/-- NO THEOREM (fmt's text is open here; it may be false): for the released tool's asking of the row's closed facts alone. THE STATEMENT IS 'LawS5347AOneToldSaid' (YbulkdfseFmtCards.lean). -/
def LawS5347AOneFormAsk : Prop := lawS5347AOneRow.holds Ybaf.pinned (OpenSpec.ofChange lawS5347AOneSpec)

/-- ITS FALSE NEIGHBOUR: 'it returns false'. Refute it at one input. -/
def lawS5347AOneWrong : ChangeSpec := { name := "lawS5347AOne", fn := fun _ => fun
  | [d] => { results := [.lit (.bool false)], args := [d] }
  | _ => none }
def LawS5347AOneWrongFormAsk : Prop := lawS5347AOneRow.holds Ybaf.pinned (OpenSpec.ofChange lawS5347AOneWrong)

/-- 'syntax.LawS5347AOther': WHATEVER THE INPUT: true; the input reads as it did. -/
def lawS5347AOtherSpec : ChangeSpec := { name := "lawS5347AOther", fn := fun _ => fun
  | [d1, d2] => { results := [.lit (.bool true)], args := [d1, d2] }
  | _ => none }
def lawS5347AOtherRow : OpenClaim := { program := "ybulkdfsefmt", sum := "075c9c36df7cc53b0d64337edca3494167a044a047b2bca2be0605d74b02539f", func := "example.com/lathework/lathework/internal/syntax.LawS5347AOther", spec := "lawS5347AOther", stops := ["fmt.Sprintf"], inPlace := ["fmt.Sprintf"], apart := false }
/-- NO THEOREM (fmt's text is open here; it may be false): for the released tool's asking of the row's closed facts alone. THE STATEMENT IS 'LawS5347AOtherToldSaid' (YbulkdfseFmtCards.lean). -/
def LawS5347AOtherFormAsk : Prop := lawS5347AOtherRow.holds Ybaf.pinned (OpenSpec.ofChange lawS5347AOtherSpec)

/-- ITS FALSE NEIGHBOUR: 'it returns false'. Refute it at one input. -/
def lawS5347AOtherWrong : ChangeSpec := { name := "lawS5347AOther", fn := fun _ => fun
  | [d1, d2] => { results := [.lit (.bool false)], args := [d1, d2] }
  | _ => none }
def LawS5347AOtherWrongFormAsk : Prop := lawS5347AOtherRow.holds Ybaf.pinned (OpenSpec.ofChange lawS5347AOtherWrong)

end Rows
end Go.Proofs.YbulkdfseFmt
