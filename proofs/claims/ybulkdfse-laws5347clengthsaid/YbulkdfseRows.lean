/-
  No cell of these rows narrows 'for every input' (looked for: loops, veiled, ifaces, maps, wideKeys, modest, calm, conditions, laid).
  DERIVED. THE GIVEN ROWS OF THIS SEAT. 3 by the template 'for every input the law returns true; each argument reads behind the call as it read before'; 0 by the template 'total and deterministic' (their statements: YbulkdfseTotals.lean).
  GIVEN WITH THE SEED: the statements are not yours to turn. If you find one false, say at which input.
  Laid BY PROGRAM, IN A SANDBOX (cutbox-rows.mjs): the forced cells as the released guide's own fill.sh prints them over the translation 6de32fb1cf19e068… (all of the seat's roots in one cut). By AI agents, Wed Nov 11 2026. No macro, syntax, notation, axiom, sorry.
-/
import Derived.Test.YbulkdfseChecked
import GoSem.Claim
import GoSem.ClaimJoined
import GoSem.ClaimMapViews
import Derived.JoinedTies
import Derived.KernelRfl
namespace Go.Proofs.Ybulkdfse
/- THE CELL 'sum', in the pinned program and in every row, IS THE sha256 OF THE DUMP (.gsa) THAT YbulkdfseProg.lean LOADS. Nothing in Lean hashes anything: it is a label: what it is worth is what the hold of that sum in a sandbox is worth. -/
noncomputable def Yba.pinned : Pinned := { name := "ybulkdfse", sum := "6de32fb1cf19e0689bcf26d6e98adef235ccbfc9cda776d71f44382a5f555a34", checked := Yba.checked }
namespace Rows
def none {H : Type} : Left H := { results := [], args := [] }

/-- 'value.LawS5347BWords': WHATEVER THE INPUT: true; the input reads as it did. -/
def lawS5347BWordsSpec : ChangeSpec := { name := "lawS5347BWords", fn := fun _ => fun
  | [d1, d2] => { results := [.lit (.bool true)], args := [d1, d2] }
  | _ => none }
def lawS5347BWordsRow : OpenClaim := { program := "ybulkdfse", sum := "6de32fb1cf19e0689bcf26d6e98adef235ccbfc9cda776d71f44382a5f555a34", func := "example.com/lathework/lathework/internal/value.LawS5347BWords", spec := "lawS5347BWords", recurses := true, apart := false }
def LawS5347BWordsSaid : Prop := lawS5347BWordsRow.holds Yba.pinned (OpenSpec.ofChange lawS5347BWordsSpec)

/-- ITS FALSE NEIGHBOUR: 'it returns false'. Refute it at one input. -/
def lawS5347BWordsWrong : ChangeSpec := { name := "lawS5347BWords", fn := fun _ => fun
  | [d1, d2] => { results := [.lit (.bool false)], args := [d1, d2] }
  | _ => none }
def LawS5347BWordsWrongFalsely : Prop := lawS5347BWordsRow.holds Yba.pinned (OpenSpec.ofChange lawS5347BWordsWrong)

/-- 'funcs.LawS5347CModel': WHATEVER THE INPUT: true; the input reads as it did. -/
def lawS5347CModelSpec : ChangeSpec := { name := "lawS5347CModel", fn := fun _ => fun
  | [d1, d2, d3, d4] => { results := [.lit (.bool true)], args := [d1, d2, d3, d4] }
  | _ => none }
def lawS5347CModelRow : OpenClaim := { program := "ybulkdfse", sum := "6de32fb1cf19e0689bcf26d6e98adef235ccbfc9cda776d71f44382a5f555a34", func := "example.com/lathework/lathework/internal/funcs.LawS5347CModel", spec := "lawS5347CModel", apart := false }
def LawS5347CModelSaid : Prop := lawS5347CModelRow.holds Yba.pinned (OpenSpec.ofChange lawS5347CModelSpec)

/-- ITS FALSE NEIGHBOUR: 'it returns false'. Refute it at one input. -/
def lawS5347CModelWrong : ChangeSpec := { name := "lawS5347CModel", fn := fun _ => fun
  | [d1, d2, d3, d4] => { results := [.lit (.bool false)], args := [d1, d2, d3, d4] }
  | _ => none }
def LawS5347CModelWrongFalsely : Prop := lawS5347CModelRow.holds Yba.pinned (OpenSpec.ofChange lawS5347CModelWrong)

/-- 'funcs.LawS5347CLength': WHATEVER THE INPUT: true; the input reads as it did. -/
def lawS5347CLengthSpec : ChangeSpec := { name := "lawS5347CLength", fn := fun _ => fun
  | [d1, d2, d3, d4] => { results := [.lit (.bool true)], args := [d1, d2, d3, d4] }
  | _ => none }
def lawS5347CLengthRow : OpenClaim := { program := "ybulkdfse", sum := "6de32fb1cf19e0689bcf26d6e98adef235ccbfc9cda776d71f44382a5f555a34", func := "example.com/lathework/lathework/internal/funcs.LawS5347CLength", spec := "lawS5347CLength", apart := false }
def LawS5347CLengthSaid : Prop := lawS5347CLengthRow.holds Yba.pinned (OpenSpec.ofChange lawS5347CLengthSpec)

/-- ITS FALSE NEIGHBOUR: 'it returns false'. Refute it at one input. -/
def lawS5347CLengthWrong : ChangeSpec := { name := "lawS5347CLength", fn := fun _ => fun
  | [d1, d2, d3, d4] => { results := [.lit (.bool false)], args := [d1, d2, d3, d4] }
  | _ => none }
def LawS5347CLengthWrongFalsely : Prop := lawS5347CLengthRow.holds Yba.pinned (OpenSpec.ofChange lawS5347CLengthWrong)

end Rows
end Go.Proofs.Ybulkdfse
