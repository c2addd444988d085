/-
  No cell of these rows narrows 'for every input' (looked for: loops, veiled, ifaces, maps, wideKeys, modest, calm, conditions, laid).
  DERIVED. THE GIVEN ROWS OF THIS SEAT. 4 by the template 'for every input the law returns true; each argument reads behind the call as it read before'; 0 by the template 'total and deterministic' (their statements: YbulkdfssTotals.lean).
  GIVEN WITH THE SEED: the statements are not yours to turn. If you find one false, say at which input.
  Laid BY PROGRAM, IN A SANDBOX (cutbox-rows.mjs): the forced cells as the released guide's own fill.sh prints them over the translation 2ac74eaa91d6d8c9… (all of the seat's roots in one cut). By AI agents, Wed Nov 11 2026. No macro, syntax, notation, axiom, sorry.
-/
import Derived.Test.YbulkdfssChecked
import GoSem.Claim
import GoSem.ClaimJoined
import GoSem.ClaimMapViews
import Derived.JoinedTies
import Derived.KernelRfl
namespace Go.Proofs.Ybulkdfss
/- THE CELL 'sum', in the pinned program and in every row, IS THE sha256 OF THE DUMP (.gsa) THAT YbulkdfssProg.lean LOADS. Nothing in Lean hashes anything: it is a label: what it is worth is what the hold of that sum in a sandbox is worth. -/
noncomputable def Yba.pinned : Pinned := { name := "ybulkdfss", sum := "2ac74eaa91d6d8c92b8df00f94c13e2f5ca29e28db15739ee5269c032c1e6a54", checked := Yba.checked }
namespace Rows
def none {H : Type} : Left H := { results := [], args := [] }

/-- 'lexloom.LawS5348AExact': WHATEVER THE INPUT: true; the input reads as it did. -/
def lawS5348AExactSpec : ChangeSpec := { name := "lawS5348AExact", fn := fun _ => fun
  | [d1, d2] => { results := [.lit (.bool true)], args := [d1, d2] }
  | _ => none }
def lawS5348AExactRow : OpenClaim := { program := "ybulkdfss", sum := "2ac74eaa91d6d8c92b8df00f94c13e2f5ca29e28db15739ee5269c032c1e6a54", func := "example.com/lexloom/lexloom.LawS5348AExact", spec := "lawS5348AExact", apart := false }
def LawS5348AExactSaid : Prop := lawS5348AExactRow.holds Yba.pinned (OpenSpec.ofChange lawS5348AExactSpec)

/-- ITS FALSE NEIGHBOUR: 'it returns false'. Refute it at one input. -/
def lawS5348AExactWrong : ChangeSpec := { name := "lawS5348AExact", fn := fun _ => fun
  | [d1, d2] => { results := [.lit (.bool false)], args := [d1, d2] }
  | _ => none }
def LawS5348AExactWrongFalsely : Prop := lawS5348AExactRow.holds Yba.pinned (OpenSpec.ofChange lawS5348AExactWrong)

/-- 'lexloom.LawS5348ASmall': WHATEVER THE INPUT: true; the input reads as it did. -/
def lawS5348ASmallSpec : ChangeSpec := { name := "lawS5348ASmall", fn := fun _ => fun
  | [d1, d2] => { results := [.lit (.bool true)], args := [d1, d2] }
  | _ => none }
def lawS5348ASmallRow : OpenClaim := { program := "ybulkdfss", sum := "2ac74eaa91d6d8c92b8df00f94c13e2f5ca29e28db15739ee5269c032c1e6a54", func := "example.com/lexloom/lexloom.LawS5348ASmall", spec := "lawS5348ASmall", apart := false }
def LawS5348ASmallSaid : Prop := lawS5348ASmallRow.holds Yba.pinned (OpenSpec.ofChange lawS5348ASmallSpec)

/-- ITS FALSE NEIGHBOUR: 'it returns false'. Refute it at one input. -/
def lawS5348ASmallWrong : ChangeSpec := { name := "lawS5348ASmall", fn := fun _ => fun
  | [d1, d2] => { results := [.lit (.bool false)], args := [d1, d2] }
  | _ => none }
def LawS5348ASmallWrongFalsely : Prop := lawS5348ASmallRow.holds Yba.pinned (OpenSpec.ofChange lawS5348ASmallWrong)

/-- 'lexloom.LawS5348CExact': WHATEVER THE INPUT: true; the input reads as it did. -/
def lawS5348CExactSpec : ChangeSpec := { name := "lawS5348CExact", fn := fun _ => fun
  | [d1, d2, d3, d4, d5, d6, d7] => { results := [.lit (.bool true)], args := [d1, d2, d3, d4, d5, d6, d7] }
  | _ => none }
def lawS5348CExactRow : OpenClaim := { program := "ybulkdfss", sum := "2ac74eaa91d6d8c92b8df00f94c13e2f5ca29e28db15739ee5269c032c1e6a54", func := "example.com/lexloom/lexloom.LawS5348CExact", spec := "lawS5348CExact", apart := false }
def LawS5348CExactSaid : Prop := lawS5348CExactRow.holds Yba.pinned (OpenSpec.ofChange lawS5348CExactSpec)

/-- ITS FALSE NEIGHBOUR: 'it returns false'. Refute it at one input. -/
def lawS5348CExactWrong : ChangeSpec := { name := "lawS5348CExact", fn := fun _ => fun
  | [d1, d2, d3, d4, d5, d6, d7] => { results := [.lit (.bool false)], args := [d1, d2, d3, d4, d5, d6, d7] }
  | _ => none }
def LawS5348CExactWrongFalsely : Prop := lawS5348CExactRow.holds Yba.pinned (OpenSpec.ofChange lawS5348CExactWrong)

/-- 'lexloom.LawS5348CCjkOnlyWidens': WHATEVER THE INPUT: true; the input reads as it did. -/
def lawS5348CCjkOnlyWidensSpec : ChangeSpec := { name := "lawS5348CCjkOnlyWidens", fn := fun _ => fun
  | [d1, d2, d3] => { results := [.lit (.bool true)], args := [d1, d2, d3] }
  | _ => none }
def lawS5348CCjkOnlyWidensRow : OpenClaim := { program := "ybulkdfss", sum := "2ac74eaa91d6d8c92b8df00f94c13e2f5ca29e28db15739ee5269c032c1e6a54", func := "example.com/lexloom/lexloom.LawS5348CCjkOnlyWidens", spec := "lawS5348CCjkOnlyWidens", apart := false }
def LawS5348CCjkOnlyWidensSaid : Prop := lawS5348CCjkOnlyWidensRow.holds Yba.pinned (OpenSpec.ofChange lawS5348CCjkOnlyWidensSpec)

/-- ITS FALSE NEIGHBOUR: 'it returns false'. Refute it at one input. -/
def lawS5348CCjkOnlyWidensWrong : ChangeSpec := { name := "lawS5348CCjkOnlyWidens", fn := fun _ => fun
  | [d1, d2, d3] => { results := [.lit (.bool false)], args := [d1, d2, d3] }
  | _ => none }
def LawS5348CCjkOnlyWidensWrongFalsely : Prop := lawS5348CCjkOnlyWidensRow.holds Yba.pinned (OpenSpec.ofChange lawS5348CCjkOnlyWidensWrong)

end Rows
end Go.Proofs.Ybulkdfss
