/-
  No cell of these rows narrows 'for every input' (looked for: loops, veiled, ifaces, maps, wideKeys, modest, calm, conditions, laid).
  DERIVED. THE GIVEN ROWS OF THIS SEAT. 4 by the template 'for every input the law returns true; each argument reads behind the call as it read before'; 0 by the template 'total and deterministic' (their statements: Qxb6604156aTotals.lean).
  GIVEN WITH THE SEED: the statements are not yours to turn. If you find one false, say at which input.
  Laid BY PROGRAM, IN A SANDBOX (cutbox-rows.mjs): the forced cells as the released guide's own fill.sh prints them over the translation 1369a80032030e38… (all of the seat's roots in one cut). By AI agents, Wed Nov 11 2026. No macro, syntax, notation, axiom, sorry.
-/
import Derived.Test.Qxb6604156aChecked
import GoSem.Claim
import GoSem.ClaimJoined
import GoSem.ClaimMapViews
import Derived.JoinedTies
import Derived.KernelRfl
namespace Go.Proofs.Qxb6604156a
/- THE CELL 'sum', in the pinned program and in every row, IS THE sha256 OF THE DUMP (.gsa) THAT Qxb6604156aProg.lean LOADS. Nothing in Lean hashes anything: it is a label: what it is worth is what the hold of that sum in a sandbox is worth. -/
noncomputable def Try.pinned : Pinned := { name := "qxb6604156a", sum := "1369a80032030e38d5863944a575bbb860584cb0cf524bfe74164fa51b6d466b", checked := Try.checked }
namespace Rows
def none {H : Type} : Left H := { results := [], args := [] }

/-- 'zzlaws_root_b1.FnValidIDIsAlphabetBytes': WHATEVER THE INPUT: true; the input reads as it did. -/
def fnValidIDIsAlphabetBytesSpec : ChangeSpec := { name := "fnValidIDIsAlphabetBytes", fn := fun _ => fun
  | [d] => { results := [.lit (.bool true)], args := [d] }
  | _ => none }
def fnValidIDIsAlphabetBytesRow : OpenClaim := { program := "qxb6604156a", sum := "1369a80032030e38d5863944a575bbb860584cb0cf524bfe74164fa51b6d466b", func := "example.com/zhaomu/zhaomu/zzlaws_root_b1.FnValidIDIsAlphabetBytes", spec := "fnValidIDIsAlphabetBytes", apart := false }
def FnValidIDIsAlphabetBytesSaid : Prop := fnValidIDIsAlphabetBytesRow.holds Try.pinned (OpenSpec.ofChange fnValidIDIsAlphabetBytesSpec)

/-- ITS FALSE NEIGHBOUR: 'it returns false'. Refute it at one input. -/
def fnValidIDIsAlphabetBytesWrong : ChangeSpec := { name := "fnValidIDIsAlphabetBytes", fn := fun _ => fun
  | [d] => { results := [.lit (.bool false)], args := [d] }
  | _ => none }
def FnValidIDIsAlphabetBytesWrongFalsely : Prop := fnValidIDIsAlphabetBytesRow.holds Try.pinned (OpenSpec.ofChange fnValidIDIsAlphabetBytesWrong)

/-- 'zzlaws_root_b1.FnCompareKeysIsBigEndianByteOrder': WHATEVER THE INPUT: true; the input reads as it did. -/
def fnCompareKeysIsBigEndianByteOrderSpec : ChangeSpec := { name := "fnCompareKeysIsBigEndianByteOrder", fn := fun _ => fun
  | [d1, d2, d3, d4] => { results := [.lit (.bool true)], args := [d1, d2, d3, d4] }
  | _ => none }
def fnCompareKeysIsBigEndianByteOrderRow : OpenClaim := { program := "qxb6604156a", sum := "1369a80032030e38d5863944a575bbb860584cb0cf524bfe74164fa51b6d466b", func := "example.com/zhaomu/zhaomu/zzlaws_root_b1.FnCompareKeysIsBigEndianByteOrder", spec := "fnCompareKeysIsBigEndianByteOrder", apart := false }
def FnCompareKeysIsBigEndianByteOrderSaid : Prop := fnCompareKeysIsBigEndianByteOrderRow.holds Try.pinned (OpenSpec.ofChange fnCompareKeysIsBigEndianByteOrderSpec)

/-- ITS FALSE NEIGHBOUR: 'it returns false'. Refute it at one input. -/
def fnCompareKeysIsBigEndianByteOrderWrong : ChangeSpec := { name := "fnCompareKeysIsBigEndianByteOrder", fn := fun _ => fun
  | [d1, d2, d3, d4] => { results := [.lit (.bool false)], args := [d1, d2, d3, d4] }
  | _ => none }
def FnCompareKeysIsBigEndianByteOrderWrongFalsely : Prop := fnCompareKeysIsBigEndianByteOrderRow.holds Try.pinned (OpenSpec.ofChange fnCompareKeysIsBigEndianByteOrderWrong)

/-- 'zzlaws_root_b1.FnCompareKeysAntisymmetricAndExact': WHATEVER THE INPUT: true; the input reads as it did. -/
def fnCompareKeysAntisymmetricAndExactSpec : ChangeSpec := { name := "fnCompareKeysAntisymmetricAndExact", fn := fun _ => fun
  | [d1, d2, d3, d4] => { results := [.lit (.bool true)], args := [d1, d2, d3, d4] }
  | _ => none }
def fnCompareKeysAntisymmetricAndExactRow : OpenClaim := { program := "qxb6604156a", sum := "1369a80032030e38d5863944a575bbb860584cb0cf524bfe74164fa51b6d466b", func := "example.com/zhaomu/zhaomu/zzlaws_root_b1.FnCompareKeysAntisymmetricAndExact", spec := "fnCompareKeysAntisymmetricAndExact", apart := false }
def FnCompareKeysAntisymmetricAndExactSaid : Prop := fnCompareKeysAntisymmetricAndExactRow.holds Try.pinned (OpenSpec.ofChange fnCompareKeysAntisymmetricAndExactSpec)

/-- ITS FALSE NEIGHBOUR: 'it returns false'. Refute it at one input. -/
def fnCompareKeysAntisymmetricAndExactWrong : ChangeSpec := { name := "fnCompareKeysAntisymmetricAndExact", fn := fun _ => fun
  | [d1, d2, d3, d4] => { results := [.lit (.bool false)], args := [d1, d2, d3, d4] }
  | _ => none }
def FnCompareKeysAntisymmetricAndExactWrongFalsely : Prop := fnCompareKeysAntisymmetricAndExactRow.holds Try.pinned (OpenSpec.ofChange fnCompareKeysAntisymmetricAndExactWrong)

/-- 'zzlaws_root_b1.FnCompareHoldingsAntisymmetric': WHATEVER THE INPUT: true; the input reads as it did. -/
def fnCompareHoldingsAntisymmetricSpec : ChangeSpec := { name := "fnCompareHoldingsAntisymmetric", fn := fun _ => fun
  | [d1, d2, d3, d4] => { results := [.lit (.bool true)], args := [d1, d2, d3, d4] }
  | _ => none }
def fnCompareHoldingsAntisymmetricRow : OpenClaim := { program := "qxb6604156a", sum := "1369a80032030e38d5863944a575bbb860584cb0cf524bfe74164fa51b6d466b", func := "example.com/zhaomu/zhaomu/zzlaws_root_b1.FnCompareHoldingsAntisymmetric", spec := "fnCompareHoldingsAntisymmetric", inPlace := ["internal/bytealg.abigen_runtime_cmpstring"], apart := false }
def FnCompareHoldingsAntisymmetricSaid : Prop := fnCompareHoldingsAntisymmetricRow.holds Try.pinned (OpenSpec.ofChange fnCompareHoldingsAntisymmetricSpec)

/-- ITS FALSE NEIGHBOUR: 'it returns false'. Refute it at one input. -/
def fnCompareHoldingsAntisymmetricWrong : ChangeSpec := { name := "fnCompareHoldingsAntisymmetric", fn := fun _ => fun
  | [d1, d2, d3, d4] => { results := [.lit (.bool false)], args := [d1, d2, d3, d4] }
  | _ => none }
def FnCompareHoldingsAntisymmetricWrongFalsely : Prop := fnCompareHoldingsAntisymmetricRow.holds Try.pinned (OpenSpec.ofChange fnCompareHoldingsAntisymmetricWrong)

end Rows
end Go.Proofs.Qxb6604156a
