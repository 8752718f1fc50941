/-
  No cell of these rows narrows 'for every input' (looked for: loops, veiled, ifaces, maps, wideKeys, modest, calm, conditions, laid).
  DERIVED. THE GIVEN ROWS OF THIS SEAT. 3 by the template 'for every input the law returns true; each argument reads behind the call as it read before'; 0 by the template 'total and deterministic' (their statements: YbulkbsnyTotals.lean).
  GIVEN WITH THE SEED: the statements are not yours to turn. If you find one false, say at which input.
  Laid BY PROGRAM, IN A SANDBOX (cutbox-rows.mjs): the forced cells as the released guide's own fill.sh prints them over the translation bdb7dded7f119619… (all of the seat's roots in one cut). By AI agents, Wed Nov 11 2026. No macro, syntax, notation, axiom, sorry.
-/
import Derived.Test.YbulkbsnyChecked
import GoSem.Claim
import GoSem.ClaimJoined
import GoSem.ClaimMapViews
import Derived.JoinedTies
import Derived.KernelRfl
namespace Go.Proofs.Ybulkbsny
/- THE CELL 'sum', in the pinned program and in every row, IS THE sha256 OF THE DUMP (.gsa) THAT YbulkbsnyProg.lean LOADS. Nothing in Lean hashes anything: it is a label: what it is worth is what the hold of that sum in a sandbox is worth. -/
noncomputable def Yba.pinned : Pinned := { name := "ybulkbsny", sum := "bdb7dded7f1196197373b4377b29d98dca2cd7ec6137a97bb088d22a68e46049", checked := Yba.checked }
namespace Rows
def none {H : Type} : Left H := { results := [], args := [] }

/-- 'section.LawS3456AMember': WHATEVER THE INPUT: true; the input reads as it did. -/
def lawS3456AMemberSpec : ChangeSpec := { name := "lawS3456AMember", fn := fun _ => fun
  | [d1, d2, d3] => { results := [.lit (.bool true)], args := [d1, d2, d3] }
  | _ => none }
def lawS3456AMemberRow : OpenClaim := { program := "ybulkbsny", sum := "bdb7dded7f1196197373b4377b29d98dca2cd7ec6137a97bb088d22a68e46049", func := "example.com/sectionary/sectionary/pkg/section.LawS3456AMember", spec := "lawS3456AMember", apart := false }
def LawS3456AMemberSaid : Prop := lawS3456AMemberRow.holds Yba.pinned (OpenSpec.ofChange lawS3456AMemberSpec)

/-- ITS FALSE NEIGHBOUR: 'it returns false'. Refute it at one input. -/
def lawS3456AMemberWrong : ChangeSpec := { name := "lawS3456AMember", fn := fun _ => fun
  | [d1, d2, d3] => { results := [.lit (.bool false)], args := [d1, d2, d3] }
  | _ => none }
def LawS3456AMemberWrongFalsely : Prop := lawS3456AMemberRow.holds Yba.pinned (OpenSpec.ofChange lawS3456AMemberWrong)

/-- 'section.LawS3456AFlagLiteral': WHATEVER THE INPUT: true; the input reads as it did. -/
def lawS3456AFlagLiteralSpec : ChangeSpec := { name := "lawS3456AFlagLiteral", fn := fun _ => fun
  | [d1, d2, d3, d4] => { results := [.lit (.bool true)], args := [d1, d2, d3, d4] }
  | _ => none }
def lawS3456AFlagLiteralRow : OpenClaim := { program := "ybulkbsny", sum := "bdb7dded7f1196197373b4377b29d98dca2cd7ec6137a97bb088d22a68e46049", func := "example.com/sectionary/sectionary/pkg/section.LawS3456AFlagLiteral", spec := "lawS3456AFlagLiteral", apart := false }
def LawS3456AFlagLiteralSaid : Prop := lawS3456AFlagLiteralRow.holds Yba.pinned (OpenSpec.ofChange lawS3456AFlagLiteralSpec)

/-- ITS FALSE NEIGHBOUR: 'it returns false'. Refute it at one input. -/
def lawS3456AFlagLiteralWrong : ChangeSpec := { name := "lawS3456AFlagLiteral", fn := fun _ => fun
  | [d1, d2, d3, d4] => { results := [.lit (.bool false)], args := [d1, d2, d3, d4] }
  | _ => none }
def LawS3456AFlagLiteralWrongFalsely : Prop := lawS3456AFlagLiteralRow.holds Yba.pinned (OpenSpec.ofChange lawS3456AFlagLiteralWrong)

/-- 'check.LawS3456BKind': WHATEVER THE INPUT: true; the input reads as it did. -/
def lawS3456BKindSpec : ChangeSpec := { name := "lawS3456BKind", fn := fun _ => fun
  | [d1, d2, d3, d4] => { results := [.lit (.bool true)], args := [d1, d2, d3, d4] }
  | _ => none }
def lawS3456BKindRow : OpenClaim := { program := "ybulkbsny", sum := "bdb7dded7f1196197373b4377b29d98dca2cd7ec6137a97bb088d22a68e46049", func := "example.com/sectionary/sectionary/pkg/check.LawS3456BKind", spec := "lawS3456BKind", apart := false }
def LawS3456BKindSaid : Prop := lawS3456BKindRow.holds Yba.pinned (OpenSpec.ofChange lawS3456BKindSpec)

/-- ITS FALSE NEIGHBOUR: 'it returns false'. Refute it at one input. -/
def lawS3456BKindWrong : ChangeSpec := { name := "lawS3456BKind", fn := fun _ => fun
  | [d1, d2, d3, d4] => { results := [.lit (.bool false)], args := [d1, d2, d3, d4] }
  | _ => none }
def LawS3456BKindWrongFalsely : Prop := lawS3456BKindRow.holds Yba.pinned (OpenSpec.ofChange lawS3456BKindWrong)

end Rows
end Go.Proofs.Ybulkbsny
