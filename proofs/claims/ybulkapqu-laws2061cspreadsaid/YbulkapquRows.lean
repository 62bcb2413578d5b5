/-
  No cell of these rows narrows 'for every input' (looked for: loops, veiled, ifaces, maps, wideKeys, modest, calm, conditions, laid).
  DERIVED. THE GIVEN ROWS OF THIS SEAT. 5 by the template 'for every input the law returns true; each argument reads behind the call as it read before'; 0 by the template 'total and deterministic' (their statements: YbulkapquTotals.lean).
  GIVEN WITH THE SEED: the statements are not yours to turn. If you find one false, say at which input.
  Laid BY PROGRAM, IN A SANDBOX (cutbox-rows.mjs): the forced cells as the released guide's own fill.sh prints them over the translation 04d4329e996cadc5… (all of the seat's roots in one cut). By AI agents, Wed Nov 11 2026. No macro, syntax, notation, axiom, sorry.
-/
import Derived.Test.YbulkapquChecked
import GoSem.Claim
import GoSem.ClaimJoined
import GoSem.ClaimMapViews
import Derived.JoinedTies
import Derived.KernelRfl
namespace Go.Proofs.Ybulkapqu
/- THE CELL 'sum', in the pinned program and in every row, IS THE sha256 OF THE DUMP (.gsa) THAT YbulkapquProg.lean LOADS. Nothing in Lean hashes anything: it is a label: what it is worth is what the hold of that sum in a sandbox is worth. -/
noncomputable def Yba.pinned : Pinned := { name := "ybulkapqu", sum := "04d4329e996cadc56d2cfe9d9cee7015d65ff750da3ee8b6ec0a784c7bdeae79", checked := Yba.checked }
namespace Rows
def none {H : Type} : Left H := { results := [], args := [] }

/-- 'hopwise.LawS2061AScript': WHATEVER THE INPUT: true; the input reads as it did. -/
def lawS2061AScriptSpec : ChangeSpec := { name := "lawS2061AScript", fn := fun _ => fun
  | [d1, d2] => { results := [.lit (.bool true)], args := [d1, d2] }
  | _ => none }
def lawS2061AScriptRow : OpenClaim := { program := "ybulkapqu", sum := "04d4329e996cadc56d2cfe9d9cee7015d65ff750da3ee8b6ec0a784c7bdeae79", func := "example.com/hopwise/hopwise.LawS2061AScript", spec := "lawS2061AScript", inPlace := ["internal/bytealg.Compare", "slices.overlaps[int]"], unfollowed := true, recurses := true, plainKeys := false, apart := false }
def LawS2061AScriptSaid : Prop := lawS2061AScriptRow.holds Yba.pinned (OpenSpec.ofChange lawS2061AScriptSpec)

/-- ITS FALSE NEIGHBOUR: 'it returns false'. Refute it at one input. -/
def lawS2061AScriptWrong : ChangeSpec := { name := "lawS2061AScript", fn := fun _ => fun
  | [d1, d2] => { results := [.lit (.bool false)], args := [d1, d2] }
  | _ => none }
def LawS2061AScriptWrongFalsely : Prop := lawS2061AScriptRow.holds Yba.pinned (OpenSpec.ofChange lawS2061AScriptWrong)

/-- 'hopwise.LawS2061AOne': WHATEVER THE INPUT: true; the input reads as it did. -/
def lawS2061AOneSpec : ChangeSpec := { name := "lawS2061AOne", fn := fun _ => fun
  | [d1, d2] => { results := [.lit (.bool true)], args := [d1, d2] }
  | _ => none }
def lawS2061AOneRow : OpenClaim := { program := "ybulkapqu", sum := "04d4329e996cadc56d2cfe9d9cee7015d65ff750da3ee8b6ec0a784c7bdeae79", func := "example.com/hopwise/hopwise.LawS2061AOne", spec := "lawS2061AOne", inPlace := ["internal/bytealg.Compare"], unfollowed := true, recurses := true, plainKeys := false, apart := false }
def LawS2061AOneSaid : Prop := lawS2061AOneRow.holds Yba.pinned (OpenSpec.ofChange lawS2061AOneSpec)

/-- ITS FALSE NEIGHBOUR: 'it returns false'. Refute it at one input. -/
def lawS2061AOneWrong : ChangeSpec := { name := "lawS2061AOne", fn := fun _ => fun
  | [d1, d2] => { results := [.lit (.bool false)], args := [d1, d2] }
  | _ => none }
def LawS2061AOneWrongFalsely : Prop := lawS2061AOneRow.holds Yba.pinned (OpenSpec.ofChange lawS2061AOneWrong)

/-- 'hopwise.LawS2061BNearest': WHATEVER THE INPUT: true; the input reads as it did. -/
def lawS2061BNearestSpec : ChangeSpec := { name := "lawS2061BNearest", fn := fun _ => fun
  | [d1, d2] => { results := [.lit (.bool true)], args := [d1, d2] }
  | _ => none }
def lawS2061BNearestRow : OpenClaim := { program := "ybulkapqu", sum := "04d4329e996cadc56d2cfe9d9cee7015d65ff750da3ee8b6ec0a784c7bdeae79", func := "example.com/hopwise/hopwise.LawS2061BNearest", spec := "lawS2061BNearest", inPlace := ["internal/bytealg.Compare", "math/bits.Sub64"], unfollowed := true, recurses := true, named := ["encoding/binary.BigEndian"], plainKeys := false, apart := false }
def LawS2061BNearestSaid : Prop := lawS2061BNearestRow.holds Yba.pinned (OpenSpec.ofChange lawS2061BNearestSpec)

/-- ITS FALSE NEIGHBOUR: 'it returns false'. Refute it at one input. -/
def lawS2061BNearestWrong : ChangeSpec := { name := "lawS2061BNearest", fn := fun _ => fun
  | [d1, d2] => { results := [.lit (.bool false)], args := [d1, d2] }
  | _ => none }
def LawS2061BNearestWrongFalsely : Prop := lawS2061BNearestRow.holds Yba.pinned (OpenSpec.ofChange lawS2061BNearestWrong)

/-- 'hopwise.LawS2061BTieRule': WHATEVER THE INPUT: true; the input reads as it did. -/
def lawS2061BTieRuleSpec : ChangeSpec := { name := "lawS2061BTieRule", fn := fun _ => fun
  | [d1, d2] => { results := [.lit (.bool true)], args := [d1, d2] }
  | _ => none }
def lawS2061BTieRuleRow : OpenClaim := { program := "ybulkapqu", sum := "04d4329e996cadc56d2cfe9d9cee7015d65ff750da3ee8b6ec0a784c7bdeae79", func := "example.com/hopwise/hopwise.LawS2061BTieRule", spec := "lawS2061BTieRule", inPlace := ["internal/bytealg.Compare", "math/bits.Sub64"], unfollowed := true, recurses := true, named := ["encoding/binary.BigEndian"], plainKeys := false, apart := false }
def LawS2061BTieRuleSaid : Prop := lawS2061BTieRuleRow.holds Yba.pinned (OpenSpec.ofChange lawS2061BTieRuleSpec)

/-- ITS FALSE NEIGHBOUR: 'it returns false'. Refute it at one input. -/
def lawS2061BTieRuleWrong : ChangeSpec := { name := "lawS2061BTieRule", fn := fun _ => fun
  | [d1, d2] => { results := [.lit (.bool false)], args := [d1, d2] }
  | _ => none }
def LawS2061BTieRuleWrongFalsely : Prop := lawS2061BTieRuleRow.holds Yba.pinned (OpenSpec.ofChange lawS2061BTieRuleWrong)

/-- 'hopwise.LawS2061CSpread': WHATEVER THE INPUT: true; the input reads as it did. -/
def lawS2061CSpreadSpec : ChangeSpec := { name := "lawS2061CSpread", fn := fun _ => fun
  | [d1, d2, d3, d4, d5, d6, d7, d8, d9, d10, d11] => { results := [.lit (.bool true)], args := [d1, d2, d3, d4, d5, d6, d7, d8, d9, d10, d11] }
  | _ => none }
def lawS2061CSpreadRow : OpenClaim := { program := "ybulkapqu", sum := "04d4329e996cadc56d2cfe9d9cee7015d65ff750da3ee8b6ec0a784c7bdeae79", func := "example.com/hopwise/hopwise.LawS2061CSpread", spec := "lawS2061CSpread", inPlace := ["internal/bytealg.Compare", "math/bits.Sub64"], unfollowed := true, recurses := true, named := ["encoding/binary.BigEndian"], plainKeys := false, apart := false }
def LawS2061CSpreadSaid : Prop := lawS2061CSpreadRow.holds Yba.pinned (OpenSpec.ofChange lawS2061CSpreadSpec)

/-- ITS FALSE NEIGHBOUR: 'it returns false'. Refute it at one input. -/
def lawS2061CSpreadWrong : ChangeSpec := { name := "lawS2061CSpread", fn := fun _ => fun
  | [d1, d2, d3, d4, d5, d6, d7, d8, d9, d10, d11] => { results := [.lit (.bool false)], args := [d1, d2, d3, d4, d5, d6, d7, d8, d9, d10, d11] }
  | _ => none }
def LawS2061CSpreadWrongFalsely : Prop := lawS2061CSpreadRow.holds Yba.pinned (OpenSpec.ofChange lawS2061CSpreadWrong)

end Rows
end Go.Proofs.Ybulkapqu
