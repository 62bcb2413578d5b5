/-
  NARROWER THAN 'FOR EVERY INPUT', by the rows' own cells (each row's printed sentence says how): LawS2057ARecords: ifaces, laid · LawS2057AAfterMany: ifaces, laid.
  DERIVED. THE GIVEN ROWS OF THIS SEAT. 2 by the template 'for every input the law returns true; each argument reads behind the call as it read before'; 0 by the template 'total and deterministic' (their statements: YbulkapoqDoorTotals.lean).
  GIVEN WITH THE SEED: the statements are not yours to turn. If you find one false, say at which input.
  Laid BY PROGRAM, IN A SANDBOX (cutbox-rows.mjs): the forced cells as the released guide's own fill.sh prints them over the translation 85d44aa57eff31da… (all of the seat's roots in one cut). By AI agents, Wed Nov 11 2026. No macro, syntax, notation, axiom, sorry.
-/
import Derived.Test.YbulkapoqDoorChecked
import GoSem.Claim
import GoSem.ClaimJoined
import GoSem.ClaimMapViews
import Derived.JoinedTies
import Derived.KernelRfl
namespace Go.Proofs.YbulkapoqDoor
/- THE CELL 'sum', in the pinned program and in every row, IS THE sha256 OF THE DUMP (.gsa) THAT YbulkapoqDoorProg.lean LOADS. Nothing in Lean hashes anything: it is a label: what it is worth is what the hold of that sum in a sandbox is worth. -/
noncomputable def Ybad.pinned : Pinned := { name := "ybulkapoqdoor", sum := "85d44aa57eff31da6fdbeda595c73e70c5c24547e383d1b7062e84fd404f3798", checked := Ybad.checked }
namespace Rows
def none {H : Type} : Left H := { results := [], args := [] }

/- WHAT THE LISTED PACKAGE-LEVEL VARIABLES READ AS WHEN THE CALL BEGINS. Each datum BY PROGRAM (the guide's laid-datum.mjs) off the statement by which the dump's own 'gosem.cut.vars' lays the variable. In a bare row this is a premise. The card (YbulkapoqDoorCards.lean) ties it to the program's text. -/
def laid_example_com_sediment_sediment_flatten_errTooLarge {H : Type} : DataW H := .iface "*errors.errorString" (.ptr (.agg [.lit (.string [109, 111, 114, 101, 32, 101, 110, 116, 114, 105, 101, 115, 44, 32, 112, 97, 116, 104, 115, 32, 111, 114, 32, 98, 121, 116, 101, 115, 32, 111, 102, 32, 110, 97, 109, 101, 115, 32, 116, 104, 97, 110, 32, 102, 108, 97, 116, 116, 101, 110, 32, 99, 97, 110, 32, 104, 111, 108, 100])]))

/-- 'flatten.LawS2057ARecords': WHATEVER THE INPUT: true; the input reads as it did. -/
def lawS2057ARecordsSpec : ChangeSpec := { name := "lawS2057ARecords", vars := ["example.com/sediment/sediment/flatten.errTooLarge"], fn := fun _ => fun
  | [d, g1] => { results := [.lit (.bool true)], args := [d], vars := [g1] }
  | _ => none }
def lawS2057ARecordsRow : OpenClaim := { program := "ybulkapoqdoor", sum := "85d44aa57eff31da6fdbeda595c73e70c5c24547e383d1b7062e84fd404f3798", func := "example.com/sediment/sediment/flatten.LawS2057ARecords", spec := "lawS2057ARecords", named := ["example.com/sediment/sediment/flatten.errTooLarge"], ifaces := true, plainKeys := false, apart := false, laid := [("example.com/sediment/sediment/flatten.errTooLarge", laid_example_com_sediment_sediment_flatten_errTooLarge)] }
def LawS2057ARecordsSaid : Prop := lawS2057ARecordsRow.holds Ybad.pinned (OpenSpec.ofChange lawS2057ARecordsSpec)

/-- ITS FALSE NEIGHBOUR: 'it returns false'. Refute it at one input. -/
def lawS2057ARecordsWrong : ChangeSpec := { name := "lawS2057ARecords", vars := ["example.com/sediment/sediment/flatten.errTooLarge"], fn := fun _ => fun
  | [d, g1] => { results := [.lit (.bool false)], args := [d], vars := [g1] }
  | _ => none }
def LawS2057ARecordsWrongFalsely : Prop := lawS2057ARecordsRow.holds Ybad.pinned (OpenSpec.ofChange lawS2057ARecordsWrong)

/-- 'flatten.LawS2057AAfterMany': WHATEVER THE INPUT: true; the input reads as it did. -/
def lawS2057AAfterManySpec : ChangeSpec := { name := "lawS2057AAfterMany", vars := ["example.com/sediment/sediment/flatten.errTooLarge"], fn := fun _ => fun
  | [d1, d2, d3, d4, d5, d6, g1] => { results := [.lit (.bool true)], args := [d1, d2, d3, d4, d5, d6], vars := [g1] }
  | _ => none }
def lawS2057AAfterManyRow : OpenClaim := { program := "ybulkapoqdoor", sum := "85d44aa57eff31da6fdbeda595c73e70c5c24547e383d1b7062e84fd404f3798", func := "example.com/sediment/sediment/flatten.LawS2057AAfterMany", spec := "lawS2057AAfterMany", named := ["example.com/sediment/sediment/flatten.errTooLarge"], ifaces := true, plainKeys := false, apart := false, laid := [("example.com/sediment/sediment/flatten.errTooLarge", laid_example_com_sediment_sediment_flatten_errTooLarge)] }
def LawS2057AAfterManySaid : Prop := lawS2057AAfterManyRow.holds Ybad.pinned (OpenSpec.ofChange lawS2057AAfterManySpec)

/-- ITS FALSE NEIGHBOUR: 'it returns false'. Refute it at one input. -/
def lawS2057AAfterManyWrong : ChangeSpec := { name := "lawS2057AAfterMany", vars := ["example.com/sediment/sediment/flatten.errTooLarge"], fn := fun _ => fun
  | [d1, d2, d3, d4, d5, d6, g1] => { results := [.lit (.bool false)], args := [d1, d2, d3, d4, d5, d6], vars := [g1] }
  | _ => none }
def LawS2057AAfterManyWrongFalsely : Prop := lawS2057AAfterManyRow.holds Ybad.pinned (OpenSpec.ofChange lawS2057AAfterManyWrong)

end Rows
end Go.Proofs.YbulkapoqDoor
