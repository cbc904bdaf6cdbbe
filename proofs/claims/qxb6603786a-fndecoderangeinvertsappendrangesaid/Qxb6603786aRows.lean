/-
  No cell of these rows narrows 'for every input' (looked for: loops, veiled, ifaces, maps, wideKeys, modest, calm, conditions, laid).
  DERIVED. THE GIVEN ROWS OF THIS SEAT. 4 by the template 'for every input the law returns true; each argument reads behind the call as it read before'; 0 by the template 'total and deterministic' (their statements: Qxb6603786aTotals.lean).
  GIVEN WITH THE SEED: the statements are not yours to turn. If you find one false, say at which input.
  Laid BY PROGRAM, IN A SANDBOX (cutbox-rows.mjs): the forced cells as the released guide's own fill.sh prints them over the translation ac9ced148afac7cd… (all of the seat's roots in one cut). By AI agents, Wed Nov 11 2026. No macro, syntax, notation, axiom, sorry.
-/
import Derived.Test.Qxb6603786aChecked
import GoSem.Claim
import GoSem.ClaimJoined
import GoSem.ClaimMapViews
import Derived.JoinedTies
import Derived.KernelRfl
namespace Go.Proofs.Qxb6603786a
/- THE CELL 'sum', in the pinned program and in every row, IS THE sha256 OF THE DUMP (.gsa) THAT Qxb6603786aProg.lean LOADS. Nothing in Lean hashes anything: it is a label: what it is worth is what the hold of that sum in a sandbox is worth. -/
noncomputable def Try.pinned : Pinned := { name := "qxb6603786a", sum := "ac9ced148afac7cde8b7a64acae2932ea636ffd8a6a373a8a37c3f406924ab2b", checked := Try.checked }
namespace Rows
def none {H : Type} : Left H := { results := [], args := [] }

/-- 'zzlaws_internal_wire_b1.FnDecodeRangeMatchesModel': WHATEVER THE INPUT: true; the input reads as it did. -/
def fnDecodeRangeMatchesModelSpec : ChangeSpec := { name := "fnDecodeRangeMatchesModel", fn := fun _ => fun
  | [d1, d2, d3] => { results := [.lit (.bool true)], args := [d1, d2, d3] }
  | _ => none }
def fnDecodeRangeMatchesModelRow : OpenClaim := { program := "qxb6603786a", sum := "ac9ced148afac7cde8b7a64acae2932ea636ffd8a6a373a8a37c3f406924ab2b", func := "example.com/knotwork/knotwork/zzlaws_internal_wire_b1.FnDecodeRangeMatchesModel", spec := "fnDecodeRangeMatchesModel", apart := false }
def FnDecodeRangeMatchesModelSaid : Prop := fnDecodeRangeMatchesModelRow.holds Try.pinned (OpenSpec.ofChange fnDecodeRangeMatchesModelSpec)

/-- ITS FALSE NEIGHBOUR: 'it returns false'. Refute it at one input. -/
def fnDecodeRangeMatchesModelWrong : ChangeSpec := { name := "fnDecodeRangeMatchesModel", fn := fun _ => fun
  | [d1, d2, d3] => { results := [.lit (.bool false)], args := [d1, d2, d3] }
  | _ => none }
def FnDecodeRangeMatchesModelWrongFalsely : Prop := fnDecodeRangeMatchesModelRow.holds Try.pinned (OpenSpec.ofChange fnDecodeRangeMatchesModelWrong)

/-- 'zzlaws_internal_wire_b1.FnDecodeRangeInvertsAppendRange': WHATEVER THE INPUT: true; the input reads as it did. -/
def fnDecodeRangeInvertsAppendRangeSpec : ChangeSpec := { name := "fnDecodeRangeInvertsAppendRange", fn := fun _ => fun
  | [d1, d2, d3, d4, d5] => { results := [.lit (.bool true)], args := [d1, d2, d3, d4, d5] }
  | _ => none }
def fnDecodeRangeInvertsAppendRangeRow : OpenClaim := { program := "qxb6603786a", sum := "ac9ced148afac7cde8b7a64acae2932ea636ffd8a6a373a8a37c3f406924ab2b", func := "example.com/knotwork/knotwork/zzlaws_internal_wire_b1.FnDecodeRangeInvertsAppendRange", spec := "fnDecodeRangeInvertsAppendRange", apart := false }
def FnDecodeRangeInvertsAppendRangeSaid : Prop := fnDecodeRangeInvertsAppendRangeRow.holds Try.pinned (OpenSpec.ofChange fnDecodeRangeInvertsAppendRangeSpec)

/-- ITS FALSE NEIGHBOUR: 'it returns false'. Refute it at one input. -/
def fnDecodeRangeInvertsAppendRangeWrong : ChangeSpec := { name := "fnDecodeRangeInvertsAppendRange", fn := fun _ => fun
  | [d1, d2, d3, d4, d5] => { results := [.lit (.bool false)], args := [d1, d2, d3, d4, d5] }
  | _ => none }
def FnDecodeRangeInvertsAppendRangeWrongFalsely : Prop := fnDecodeRangeInvertsAppendRangeRow.holds Try.pinned (OpenSpec.ofChange fnDecodeRangeInvertsAppendRangeWrong)

/-- 'zzlaws_internal_wire_b1.FnAppendRangeLayout': WHATEVER THE INPUT: true; the input reads as it did. -/
def fnAppendRangeLayoutSpec : ChangeSpec := { name := "fnAppendRangeLayout", fn := fun _ => fun
  | [d1, d2, d3] => { results := [.lit (.bool true)], args := [d1, d2, d3] }
  | _ => none }
def fnAppendRangeLayoutRow : OpenClaim := { program := "qxb6603786a", sum := "ac9ced148afac7cde8b7a64acae2932ea636ffd8a6a373a8a37c3f406924ab2b", func := "example.com/knotwork/knotwork/zzlaws_internal_wire_b1.FnAppendRangeLayout", spec := "fnAppendRangeLayout", apart := false }
def FnAppendRangeLayoutSaid : Prop := fnAppendRangeLayoutRow.holds Try.pinned (OpenSpec.ofChange fnAppendRangeLayoutSpec)

/-- ITS FALSE NEIGHBOUR: 'it returns false'. Refute it at one input. -/
def fnAppendRangeLayoutWrong : ChangeSpec := { name := "fnAppendRangeLayout", fn := fun _ => fun
  | [d1, d2, d3] => { results := [.lit (.bool false)], args := [d1, d2, d3] }
  | _ => none }
def FnAppendRangeLayoutWrongFalsely : Prop := fnAppendRangeLayoutRow.holds Try.pinned (OpenSpec.ofChange fnAppendRangeLayoutWrong)

/-- 'zzlaws_internal_wire_b1.FnAppendRangeKeepsOrder': WHATEVER THE INPUT: true; the input reads as it did. -/
def fnAppendRangeKeepsOrderSpec : ChangeSpec := { name := "fnAppendRangeKeepsOrder", fn := fun _ => fun
  | [d1, d2, d3] => { results := [.lit (.bool true)], args := [d1, d2, d3] }
  | _ => none }
def fnAppendRangeKeepsOrderRow : OpenClaim := { program := "qxb6603786a", sum := "ac9ced148afac7cde8b7a64acae2932ea636ffd8a6a373a8a37c3f406924ab2b", func := "example.com/knotwork/knotwork/zzlaws_internal_wire_b1.FnAppendRangeKeepsOrder", spec := "fnAppendRangeKeepsOrder", apart := false }
def FnAppendRangeKeepsOrderSaid : Prop := fnAppendRangeKeepsOrderRow.holds Try.pinned (OpenSpec.ofChange fnAppendRangeKeepsOrderSpec)

/-- ITS FALSE NEIGHBOUR: 'it returns false'. Refute it at one input. -/
def fnAppendRangeKeepsOrderWrong : ChangeSpec := { name := "fnAppendRangeKeepsOrder", fn := fun _ => fun
  | [d1, d2, d3] => { results := [.lit (.bool false)], args := [d1, d2, d3] }
  | _ => none }
def FnAppendRangeKeepsOrderWrongFalsely : Prop := fnAppendRangeKeepsOrderRow.holds Try.pinned (OpenSpec.ofChange fnAppendRangeKeepsOrderWrong)

end Rows
end Go.Proofs.Qxb6603786a
