/-
  No cell of these rows narrows 'for every input' (looked for: loops, veiled, ifaces, maps, wideKeys, modest, calm, conditions, laid).
  DERIVED. THE GIVEN ROWS OF THIS SEAT. 5 by the template 'for every input the law returns true; each argument reads behind the call as it read before'; 0 by the template 'total and deterministic' (their statements: Qxb6600862aTotals.lean).
  GIVEN WITH THE SEED: the statements are not yours to turn. If you find one false, say at which input.
  Laid BY PROGRAM, IN A SANDBOX (cutbox-rows.mjs): the forced cells as the released guide's own fill.sh prints them over the translation 3ea0ac5b5267f7bc… (all of the seat's roots in one cut). By AI agents, Wed Nov 11 2026. No macro, syntax, notation, axiom, sorry.
-/
import Derived.Test.Qxb6600862aChecked
import GoSem.Claim
import GoSem.ClaimJoined
import GoSem.ClaimMapViews
import Derived.JoinedTies
import Derived.KernelRfl
namespace Go.Proofs.Qxb6600862a
/- THE CELL 'sum', in the pinned program and in every row, IS THE sha256 OF THE DUMP (.gsa) THAT Qxb6600862aProg.lean LOADS. Nothing in Lean hashes anything: it is a label: what it is worth is what the hold of that sum in a sandbox is worth. -/
noncomputable def Try.pinned : Pinned := { name := "qxb6600862a", sum := "3ea0ac5b5267f7bc00d8aef21b6e1ec83296ad171f3e72c17dedc0b9b09bc4b9", checked := Try.checked }
namespace Rows
def none {H : Type} : Left H := { results := [], args := [] }

/-- 'zzlaws_account_b1.FnUlidAppendTextDecodesBack': WHATEVER THE INPUT: true; the input reads as it did. -/
def fnUlidAppendTextDecodesBackSpec : ChangeSpec := { name := "fnUlidAppendTextDecodesBack", fn := fun _ => fun
  | [d1, d2, d3] => { results := [.lit (.bool true)], args := [d1, d2, d3] }
  | _ => none }
def fnUlidAppendTextDecodesBackRow : OpenClaim := { program := "qxb6600862a", sum := "3ea0ac5b5267f7bc00d8aef21b6e1ec83296ad171f3e72c17dedc0b9b09bc4b9", func := "example.com/daicho/daicho/zzlaws_account_b1.FnUlidAppendTextDecodesBack", spec := "fnUlidAppendTextDecodesBack", apart := false }
def FnUlidAppendTextDecodesBackSaid : Prop := fnUlidAppendTextDecodesBackRow.holds Try.pinned (OpenSpec.ofChange fnUlidAppendTextDecodesBackSpec)

/-- ITS FALSE NEIGHBOUR: 'it returns false'. Refute it at one input. -/
def fnUlidAppendTextDecodesBackWrong : ChangeSpec := { name := "fnUlidAppendTextDecodesBack", fn := fun _ => fun
  | [d1, d2, d3] => { results := [.lit (.bool false)], args := [d1, d2, d3] }
  | _ => none }
def FnUlidAppendTextDecodesBackWrongFalsely : Prop := fnUlidAppendTextDecodesBackRow.holds Try.pinned (OpenSpec.ofChange fnUlidAppendTextDecodesBackWrong)

/-- 'zzlaws_account_b1.FnUlidTextOrderIsNumberOrder': WHATEVER THE INPUT: true; the input reads as it did. -/
def fnUlidTextOrderIsNumberOrderSpec : ChangeSpec := { name := "fnUlidTextOrderIsNumberOrder", fn := fun _ => fun
  | [d1, d2, d3, d4] => { results := [.lit (.bool true)], args := [d1, d2, d3, d4] }
  | _ => none }
def fnUlidTextOrderIsNumberOrderRow : OpenClaim := { program := "qxb6600862a", sum := "3ea0ac5b5267f7bc00d8aef21b6e1ec83296ad171f3e72c17dedc0b9b09bc4b9", func := "example.com/daicho/daicho/zzlaws_account_b1.FnUlidTextOrderIsNumberOrder", spec := "fnUlidTextOrderIsNumberOrder", apart := false }
def FnUlidTextOrderIsNumberOrderSaid : Prop := fnUlidTextOrderIsNumberOrderRow.holds Try.pinned (OpenSpec.ofChange fnUlidTextOrderIsNumberOrderSpec)

/-- ITS FALSE NEIGHBOUR: 'it returns false'. Refute it at one input. -/
def fnUlidTextOrderIsNumberOrderWrong : ChangeSpec := { name := "fnUlidTextOrderIsNumberOrder", fn := fun _ => fun
  | [d1, d2, d3, d4] => { results := [.lit (.bool false)], args := [d1, d2, d3, d4] }
  | _ => none }
def FnUlidTextOrderIsNumberOrderWrongFalsely : Prop := fnUlidTextOrderIsNumberOrderRow.holds Try.pinned (OpenSpec.ofChange fnUlidTextOrderIsNumberOrderWrong)

/-- 'zzlaws_account_b1.FnIDStringExact': WHATEVER THE INPUT: true; the input reads as it did. -/
def fnIDStringExactSpec : ChangeSpec := { name := "fnIDStringExact", fn := fun _ => fun
  | [d1, d2, d3] => { results := [.lit (.bool true)], args := [d1, d2, d3] }
  | _ => none }
def fnIDStringExactRow : OpenClaim := { program := "qxb6600862a", sum := "3ea0ac5b5267f7bc00d8aef21b6e1ec83296ad171f3e72c17dedc0b9b09bc4b9", func := "example.com/daicho/daicho/zzlaws_account_b1.FnIDStringExact", spec := "fnIDStringExact", apart := false }
def FnIDStringExactSaid : Prop := fnIDStringExactRow.holds Try.pinned (OpenSpec.ofChange fnIDStringExactSpec)

/-- ITS FALSE NEIGHBOUR: 'it returns false'. Refute it at one input. -/
def fnIDStringExactWrong : ChangeSpec := { name := "fnIDStringExact", fn := fun _ => fun
  | [d1, d2, d3] => { results := [.lit (.bool false)], args := [d1, d2, d3] }
  | _ => none }
def FnIDStringExactWrongFalsely : Prop := fnIDStringExactRow.holds Try.pinned (OpenSpec.ofChange fnIDStringExactWrong)

/-- 'zzlaws_account_b1.FnIDStringOrderIsTupleOrder': WHATEVER THE INPUT: true; the input reads as it did. -/
def fnIDStringOrderIsTupleOrderSpec : ChangeSpec := { name := "fnIDStringOrderIsTupleOrder", fn := fun _ => fun
  | [d1, d2, d3, d4, d5, d6] => { results := [.lit (.bool true)], args := [d1, d2, d3, d4, d5, d6] }
  | _ => none }
def fnIDStringOrderIsTupleOrderRow : OpenClaim := { program := "qxb6600862a", sum := "3ea0ac5b5267f7bc00d8aef21b6e1ec83296ad171f3e72c17dedc0b9b09bc4b9", func := "example.com/daicho/daicho/zzlaws_account_b1.FnIDStringOrderIsTupleOrder", spec := "fnIDStringOrderIsTupleOrder", apart := false }
def FnIDStringOrderIsTupleOrderSaid : Prop := fnIDStringOrderIsTupleOrderRow.holds Try.pinned (OpenSpec.ofChange fnIDStringOrderIsTupleOrderSpec)

/-- ITS FALSE NEIGHBOUR: 'it returns false'. Refute it at one input. -/
def fnIDStringOrderIsTupleOrderWrong : ChangeSpec := { name := "fnIDStringOrderIsTupleOrder", fn := fun _ => fun
  | [d1, d2, d3, d4, d5, d6] => { results := [.lit (.bool false)], args := [d1, d2, d3, d4, d5, d6] }
  | _ => none }
def FnIDStringOrderIsTupleOrderWrongFalsely : Prop := fnIDStringOrderIsTupleOrderRow.holds Try.pinned (OpenSpec.ofChange fnIDStringOrderIsTupleOrderWrong)

/-- 'zzlaws_account_b1.FnIDStringTimeIsFirstTenOfULID': WHATEVER THE INPUT: true; the input reads as it did. -/
def fnIDStringTimeIsFirstTenOfULIDSpec : ChangeSpec := { name := "fnIDStringTimeIsFirstTenOfULID", fn := fun _ => fun
  | [d1, d2, d3, d4, d5] => { results := [.lit (.bool true)], args := [d1, d2, d3, d4, d5] }
  | _ => none }
def fnIDStringTimeIsFirstTenOfULIDRow : OpenClaim := { program := "qxb6600862a", sum := "3ea0ac5b5267f7bc00d8aef21b6e1ec83296ad171f3e72c17dedc0b9b09bc4b9", func := "example.com/daicho/daicho/zzlaws_account_b1.FnIDStringTimeIsFirstTenOfULID", spec := "fnIDStringTimeIsFirstTenOfULID", apart := false }
def FnIDStringTimeIsFirstTenOfULIDSaid : Prop := fnIDStringTimeIsFirstTenOfULIDRow.holds Try.pinned (OpenSpec.ofChange fnIDStringTimeIsFirstTenOfULIDSpec)

/-- ITS FALSE NEIGHBOUR: 'it returns false'. Refute it at one input. -/
def fnIDStringTimeIsFirstTenOfULIDWrong : ChangeSpec := { name := "fnIDStringTimeIsFirstTenOfULID", fn := fun _ => fun
  | [d1, d2, d3, d4, d5] => { results := [.lit (.bool false)], args := [d1, d2, d3, d4, d5] }
  | _ => none }
def FnIDStringTimeIsFirstTenOfULIDWrongFalsely : Prop := fnIDStringTimeIsFirstTenOfULIDRow.holds Try.pinned (OpenSpec.ofChange fnIDStringTimeIsFirstTenOfULIDWrong)

end Rows
end Go.Proofs.Qxb6600862a
