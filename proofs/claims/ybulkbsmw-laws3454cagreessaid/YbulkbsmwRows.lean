/-
  No cell of these rows narrows 'for every input' (looked for: loops, veiled, ifaces, maps, wideKeys, modest, calm, conditions, laid).
  DERIVED. THE GIVEN ROWS OF THIS SEAT. 4 by the template 'for every input the law returns true; each argument reads behind the call as it read before'; 0 by the template 'total and deterministic' (their statements: YbulkbsmwTotals.lean).
  GIVEN WITH THE SEED: the statements are not yours to turn. If you find one false, say at which input.
  Laid BY PROGRAM, IN A SANDBOX (cutbox-rows.mjs): the forced cells as the released guide's own fill.sh prints them over the translation 4d5616f32d0d398d… (all of the seat's roots in one cut). By AI agents, Wed Nov 11 2026. No macro, syntax, notation, axiom, sorry.
-/
import Derived.Test.YbulkbsmwChecked
import GoSem.Claim
import GoSem.ClaimJoined
import GoSem.ClaimMapViews
import Derived.JoinedTies
import Derived.KernelRfl
namespace Go.Proofs.Ybulkbsmw
/- THE CELL 'sum', in the pinned program and in every row, IS THE sha256 OF THE DUMP (.gsa) THAT YbulkbsmwProg.lean LOADS. Nothing in Lean hashes anything: it is a label: what it is worth is what the hold of that sum in a sandbox is worth. -/
noncomputable def Yba.pinned : Pinned := { name := "ybulkbsmw", sum := "4d5616f32d0d398d8a810e0d4a57c41774cb7e17cfb879bbadfcde26559071e0", checked := Yba.checked }
namespace Rows
def none {H : Type} : Left H := { results := [], args := [] }

/-- 'causeline.LawS3454AExact': WHATEVER THE INPUT: true; the input reads as it did. -/
def lawS3454AExactSpec : ChangeSpec := { name := "lawS3454AExact", fn := fun _ => fun
  | [d1, d2] => { results := [.lit (.bool true)], args := [d1, d2] }
  | _ => none }
def lawS3454AExactRow : OpenClaim := { program := "ybulkbsmw", sum := "4d5616f32d0d398d8a810e0d4a57c41774cb7e17cfb879bbadfcde26559071e0", func := "example.com/causeline/causeline.LawS3454AExact", spec := "lawS3454AExact", apart := false }
def LawS3454AExactSaid : Prop := lawS3454AExactRow.holds Yba.pinned (OpenSpec.ofChange lawS3454AExactSpec)

/-- ITS FALSE NEIGHBOUR: 'it returns false'. Refute it at one input. -/
def lawS3454AExactWrong : ChangeSpec := { name := "lawS3454AExact", fn := fun _ => fun
  | [d1, d2] => { results := [.lit (.bool false)], args := [d1, d2] }
  | _ => none }
def LawS3454AExactWrongFalsely : Prop := lawS3454AExactRow.holds Yba.pinned (OpenSpec.ofChange lawS3454AExactWrong)

/-- 'causeline.LawS3454ARoundTrip': WHATEVER THE INPUT: true; the input reads as it did. -/
def lawS3454ARoundTripSpec : ChangeSpec := { name := "lawS3454ARoundTrip", fn := fun _ => fun
  | [d1, d2] => { results := [.lit (.bool true)], args := [d1, d2] }
  | _ => none }
def lawS3454ARoundTripRow : OpenClaim := { program := "ybulkbsmw", sum := "4d5616f32d0d398d8a810e0d4a57c41774cb7e17cfb879bbadfcde26559071e0", func := "example.com/causeline/causeline.LawS3454ARoundTrip", spec := "lawS3454ARoundTrip", apart := false }
def LawS3454ARoundTripSaid : Prop := lawS3454ARoundTripRow.holds Yba.pinned (OpenSpec.ofChange lawS3454ARoundTripSpec)

/-- ITS FALSE NEIGHBOUR: 'it returns false'. Refute it at one input. -/
def lawS3454ARoundTripWrong : ChangeSpec := { name := "lawS3454ARoundTrip", fn := fun _ => fun
  | [d1, d2] => { results := [.lit (.bool false)], args := [d1, d2] }
  | _ => none }
def LawS3454ARoundTripWrongFalsely : Prop := lawS3454ARoundTripRow.holds Yba.pinned (OpenSpec.ofChange lawS3454ARoundTripWrong)

/-- 'execution.LawS3454CStops': WHATEVER THE INPUT: true; the input reads as it did. -/
def lawS3454CStopsSpec : ChangeSpec := { name := "lawS3454CStops", fn := fun _ => fun
  | [d1, d2] => { results := [.lit (.bool true)], args := [d1, d2] }
  | _ => none }
def lawS3454CStopsRow : OpenClaim := { program := "ybulkbsmw", sum := "4d5616f32d0d398d8a810e0d4a57c41774cb7e17cfb879bbadfcde26559071e0", func := "example.com/causeline/causeline/internal/execution.LawS3454CStops", spec := "lawS3454CStops", unfollowed := true, recurses := true, apart := false }
def LawS3454CStopsSaid : Prop := lawS3454CStopsRow.holds Yba.pinned (OpenSpec.ofChange lawS3454CStopsSpec)

/-- ITS FALSE NEIGHBOUR: 'it returns false'. Refute it at one input. -/
def lawS3454CStopsWrong : ChangeSpec := { name := "lawS3454CStops", fn := fun _ => fun
  | [d1, d2] => { results := [.lit (.bool false)], args := [d1, d2] }
  | _ => none }
def LawS3454CStopsWrongFalsely : Prop := lawS3454CStopsRow.holds Yba.pinned (OpenSpec.ofChange lawS3454CStopsWrong)

/-- 'execution.LawS3454CAgrees': WHATEVER THE INPUT: true; the input reads as it did. -/
def lawS3454CAgreesSpec : ChangeSpec := { name := "lawS3454CAgrees", fn := fun _ => fun
  | [d] => { results := [.lit (.bool true)], args := [d] }
  | _ => none }
def lawS3454CAgreesRow : OpenClaim := { program := "ybulkbsmw", sum := "4d5616f32d0d398d8a810e0d4a57c41774cb7e17cfb879bbadfcde26559071e0", func := "example.com/causeline/causeline/internal/execution.LawS3454CAgrees", spec := "lawS3454CAgrees", unfollowed := true, recurses := true, apart := false }
def LawS3454CAgreesSaid : Prop := lawS3454CAgreesRow.holds Yba.pinned (OpenSpec.ofChange lawS3454CAgreesSpec)

/-- ITS FALSE NEIGHBOUR: 'it returns false'. Refute it at one input. -/
def lawS3454CAgreesWrong : ChangeSpec := { name := "lawS3454CAgrees", fn := fun _ => fun
  | [d] => { results := [.lit (.bool false)], args := [d] }
  | _ => none }
def LawS3454CAgreesWrongFalsely : Prop := lawS3454CAgreesRow.holds Yba.pinned (OpenSpec.ofChange lawS3454CAgreesWrong)

end Rows
end Go.Proofs.Ybulkbsmw
