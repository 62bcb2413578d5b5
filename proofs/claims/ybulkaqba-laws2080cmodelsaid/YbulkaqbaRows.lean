/-
  No cell of these rows narrows 'for every input' (looked for: loops, veiled, ifaces, maps, wideKeys, modest, calm, conditions, laid).
  DERIVED. THE GIVEN ROWS OF THIS SEAT. 4 by the template 'for every input the law returns true; each argument reads behind the call as it read before'; 0 by the template 'total and deterministic' (their statements: YbulkaqbaTotals.lean).
  GIVEN WITH THE SEED: the statements are not yours to turn. If you find one false, say at which input.
  Laid BY PROGRAM, IN A SANDBOX (cutbox-rows.mjs): the forced cells as the released guide's own fill.sh prints them over the translation 6f59d6b6145f1d98… (all of the seat's roots in one cut). By AI agents, Wed Nov 11 2026. No macro, syntax, notation, axiom, sorry.
-/
import Derived.Test.YbulkaqbaChecked
import GoSem.Claim
import GoSem.ClaimJoined
import GoSem.ClaimMapViews
import Derived.JoinedTies
import Derived.KernelRfl
namespace Go.Proofs.Ybulkaqba
/- THE CELL 'sum', in the pinned program and in every row, IS THE sha256 OF THE DUMP (.gsa) THAT YbulkaqbaProg.lean LOADS. Nothing in Lean hashes anything: it is a label: what it is worth is what the hold of that sum in a sandbox is worth. -/
noncomputable def Yba.pinned : Pinned := { name := "ybulkaqba", sum := "6f59d6b6145f1d9826849957cf5466d05438626f83d45612d27be9af42da4514", checked := Yba.checked }
namespace Rows
def none {H : Type} : Left H := { results := [], args := [] }

/-- 'proxy.LawS2080AMatchesScan': WHATEVER THE INPUT: true; the input reads as it did. -/
def lawS2080AMatchesScanSpec : ChangeSpec := { name := "lawS2080AMatchesScan", fn := fun _ => fun
  | [d] => { results := [.lit (.bool true)], args := [d] }
  | _ => none }
def lawS2080AMatchesScanRow : OpenClaim := { program := "ybulkaqba", sum := "6f59d6b6145f1d9826849957cf5466d05438626f83d45612d27be9af42da4514", func := "example.com/seamcutter/seamcutter/proxy.LawS2080AMatchesScan", spec := "lawS2080AMatchesScan", inPlace := ["internal/bytealg.IndexByte"], apart := false }
def LawS2080AMatchesScanSaid : Prop := lawS2080AMatchesScanRow.holds Yba.pinned (OpenSpec.ofChange lawS2080AMatchesScanSpec)

/-- ITS FALSE NEIGHBOUR: 'it returns false'. Refute it at one input. -/
def lawS2080AMatchesScanWrong : ChangeSpec := { name := "lawS2080AMatchesScan", fn := fun _ => fun
  | [d] => { results := [.lit (.bool false)], args := [d] }
  | _ => none }
def LawS2080AMatchesScanWrongFalsely : Prop := lawS2080AMatchesScanRow.holds Yba.pinned (OpenSpec.ofChange lawS2080AMatchesScanWrong)

/-- 'proxy.LawS2080ARoundTrip': WHATEVER THE INPUT: true; the input reads as it did. -/
def lawS2080ARoundTripSpec : ChangeSpec := { name := "lawS2080ARoundTrip", fn := fun _ => fun
  | [d1, d2] => { results := [.lit (.bool true)], args := [d1, d2] }
  | _ => none }
def lawS2080ARoundTripRow : OpenClaim := { program := "ybulkaqba", sum := "6f59d6b6145f1d9826849957cf5466d05438626f83d45612d27be9af42da4514", func := "example.com/seamcutter/seamcutter/proxy.LawS2080ARoundTrip", spec := "lawS2080ARoundTrip", inPlace := ["internal/bytealg.IndexByte"], apart := false }
def LawS2080ARoundTripSaid : Prop := lawS2080ARoundTripRow.holds Yba.pinned (OpenSpec.ofChange lawS2080ARoundTripSpec)

/-- ITS FALSE NEIGHBOUR: 'it returns false'. Refute it at one input. -/
def lawS2080ARoundTripWrong : ChangeSpec := { name := "lawS2080ARoundTrip", fn := fun _ => fun
  | [d1, d2] => { results := [.lit (.bool false)], args := [d1, d2] }
  | _ => none }
def LawS2080ARoundTripWrongFalsely : Prop := lawS2080ARoundTripRow.holds Yba.pinned (OpenSpec.ofChange lawS2080ARoundTripWrong)

/-- 'proxy.LawS2080CModel': WHATEVER THE INPUT: true; the input reads as it did. -/
def lawS2080CModelSpec : ChangeSpec := { name := "lawS2080CModel", fn := fun _ => fun
  | [d] => { results := [.lit (.bool true)], args := [d] }
  | _ => none }
def lawS2080CModelRow : OpenClaim := { program := "ybulkaqba", sum := "6f59d6b6145f1d9826849957cf5466d05438626f83d45612d27be9af42da4514", func := "example.com/seamcutter/seamcutter/proxy.LawS2080CModel", spec := "lawS2080CModel", apart := false }
def LawS2080CModelSaid : Prop := lawS2080CModelRow.holds Yba.pinned (OpenSpec.ofChange lawS2080CModelSpec)

/-- ITS FALSE NEIGHBOUR: 'it returns false'. Refute it at one input. -/
def lawS2080CModelWrong : ChangeSpec := { name := "lawS2080CModel", fn := fun _ => fun
  | [d] => { results := [.lit (.bool false)], args := [d] }
  | _ => none }
def LawS2080CModelWrongFalsely : Prop := lawS2080CModelRow.holds Yba.pinned (OpenSpec.ofChange lawS2080CModelWrong)

/-- 'proxy.LawS2080CConcat': WHATEVER THE INPUT: true; the input reads as it did. -/
def lawS2080CConcatSpec : ChangeSpec := { name := "lawS2080CConcat", fn := fun _ => fun
  | [d1, d2] => { results := [.lit (.bool true)], args := [d1, d2] }
  | _ => none }
def lawS2080CConcatRow : OpenClaim := { program := "ybulkaqba", sum := "6f59d6b6145f1d9826849957cf5466d05438626f83d45612d27be9af42da4514", func := "example.com/seamcutter/seamcutter/proxy.LawS2080CConcat", spec := "lawS2080CConcat", apart := false }
def LawS2080CConcatSaid : Prop := lawS2080CConcatRow.holds Yba.pinned (OpenSpec.ofChange lawS2080CConcatSpec)

/-- ITS FALSE NEIGHBOUR: 'it returns false'. Refute it at one input. -/
def lawS2080CConcatWrong : ChangeSpec := { name := "lawS2080CConcat", fn := fun _ => fun
  | [d1, d2] => { results := [.lit (.bool false)], args := [d1, d2] }
  | _ => none }
def LawS2080CConcatWrongFalsely : Prop := lawS2080CConcatRow.holds Yba.pinned (OpenSpec.ofChange lawS2080CConcatWrong)

end Rows
end Go.Proofs.Ybulkaqba
