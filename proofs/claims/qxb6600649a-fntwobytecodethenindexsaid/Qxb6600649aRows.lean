/-
  No cell of these rows narrows 'for every input' (looked for: loops, veiled, ifaces, maps, wideKeys, modest, calm, conditions, laid).
  DERIVED. THE GIVEN ROWS OF THIS SEAT. 6 by the template 'for every input the law returns true; each argument reads behind the call as it read before'; 0 by the template 'total and deterministic' (their statements: Qxb6600649aTotals.lean).
  GIVEN WITH THE SEED: the statements are not yours to turn. If you find one false, say at which input.
  Laid BY PROGRAM, IN A SANDBOX (cutbox-rows.mjs): the forced cells as the released guide's own fill.sh prints them over the translation eb4ef2b545a6b0fc… (all of the seat's roots in one cut). By AI agents, Wed Nov 11 2026. No macro, syntax, notation, axiom, sorry.
-/
import Derived.Test.Qxb6600649aChecked
import GoSem.Claim
import GoSem.ClaimJoined
import GoSem.ClaimMapViews
import Derived.JoinedTies
import Derived.KernelRfl
namespace Go.Proofs.Qxb6600649a
/- THE CELL 'sum', in the pinned program and in every row, IS THE sha256 OF THE DUMP (.gsa) THAT Qxb6600649aProg.lean LOADS. Nothing in Lean hashes anything: it is a label: what it is worth is what the hold of that sum in a sandbox is worth. -/
noncomputable def Try.pinned : Pinned := { name := "qxb6600649a", sum := "eb4ef2b545a6b0fc2778f01d4c9afe25a0c5fe8dd05d2584a0938d92e261efc8", checked := Try.checked }
namespace Rows
def none {H : Type} : Left H := { results := [], args := [] }

/-- 'zzlaws_fund_b1.FnTwoByteIndexModel': WHATEVER THE INPUT: true; the input reads as it did. -/
def fnTwoByteIndexModelSpec : ChangeSpec := { name := "fnTwoByteIndexModel", fn := fun _ => fun
  | [d1, d2] => { results := [.lit (.bool true)], args := [d1, d2] }
  | _ => none }
def fnTwoByteIndexModelRow : OpenClaim := { program := "qxb6600649a", sum := "eb4ef2b545a6b0fc2778f01d4c9afe25a0c5fe8dd05d2584a0938d92e261efc8", func := "example.com/tuoguan/tuoguan/zzlaws_fund_b1.FnTwoByteIndexModel", spec := "fnTwoByteIndexModel", apart := false }
def FnTwoByteIndexModelSaid : Prop := fnTwoByteIndexModelRow.holds Try.pinned (OpenSpec.ofChange fnTwoByteIndexModelSpec)

/-- ITS FALSE NEIGHBOUR: 'it returns false'. Refute it at one input. -/
def fnTwoByteIndexModelWrong : ChangeSpec := { name := "fnTwoByteIndexModel", fn := fun _ => fun
  | [d1, d2] => { results := [.lit (.bool false)], args := [d1, d2] }
  | _ => none }
def FnTwoByteIndexModelWrongFalsely : Prop := fnTwoByteIndexModelRow.holds Try.pinned (OpenSpec.ofChange fnTwoByteIndexModelWrong)

/-- 'zzlaws_fund_b1.FnTwoByteIndexOrderedAndBounded': WHATEVER THE INPUT: true; the input reads as it did. -/
def fnTwoByteIndexOrderedAndBoundedSpec : ChangeSpec := { name := "fnTwoByteIndexOrderedAndBounded", fn := fun _ => fun
  | [d1, d2, d3, d4] => { results := [.lit (.bool true)], args := [d1, d2, d3, d4] }
  | _ => none }
def fnTwoByteIndexOrderedAndBoundedRow : OpenClaim := { program := "qxb6600649a", sum := "eb4ef2b545a6b0fc2778f01d4c9afe25a0c5fe8dd05d2584a0938d92e261efc8", func := "example.com/tuoguan/tuoguan/zzlaws_fund_b1.FnTwoByteIndexOrderedAndBounded", spec := "fnTwoByteIndexOrderedAndBounded", apart := false }
def FnTwoByteIndexOrderedAndBoundedSaid : Prop := fnTwoByteIndexOrderedAndBoundedRow.holds Try.pinned (OpenSpec.ofChange fnTwoByteIndexOrderedAndBoundedSpec)

/-- ITS FALSE NEIGHBOUR: 'it returns false'. Refute it at one input. -/
def fnTwoByteIndexOrderedAndBoundedWrong : ChangeSpec := { name := "fnTwoByteIndexOrderedAndBounded", fn := fun _ => fun
  | [d1, d2, d3, d4] => { results := [.lit (.bool false)], args := [d1, d2, d3, d4] }
  | _ => none }
def FnTwoByteIndexOrderedAndBoundedWrongFalsely : Prop := fnTwoByteIndexOrderedAndBoundedRow.holds Try.pinned (OpenSpec.ofChange fnTwoByteIndexOrderedAndBoundedWrong)

/-- 'zzlaws_fund_b1.FnTwoByteIndexThenCode': WHATEVER THE INPUT: true; the input reads as it did. -/
def fnTwoByteIndexThenCodeSpec : ChangeSpec := { name := "fnTwoByteIndexThenCode", fn := fun _ => fun
  | [d1, d2] => { results := [.lit (.bool true)], args := [d1, d2] }
  | _ => none }
def fnTwoByteIndexThenCodeRow : OpenClaim := { program := "qxb6600649a", sum := "eb4ef2b545a6b0fc2778f01d4c9afe25a0c5fe8dd05d2584a0938d92e261efc8", func := "example.com/tuoguan/tuoguan/zzlaws_fund_b1.FnTwoByteIndexThenCode", spec := "fnTwoByteIndexThenCode", apart := false }
def FnTwoByteIndexThenCodeSaid : Prop := fnTwoByteIndexThenCodeRow.holds Try.pinned (OpenSpec.ofChange fnTwoByteIndexThenCodeSpec)

/-- ITS FALSE NEIGHBOUR: 'it returns false'. Refute it at one input. -/
def fnTwoByteIndexThenCodeWrong : ChangeSpec := { name := "fnTwoByteIndexThenCode", fn := fun _ => fun
  | [d1, d2] => { results := [.lit (.bool false)], args := [d1, d2] }
  | _ => none }
def FnTwoByteIndexThenCodeWrongFalsely : Prop := fnTwoByteIndexThenCodeRow.holds Try.pinned (OpenSpec.ofChange fnTwoByteIndexThenCodeWrong)

/-- 'zzlaws_fund_b1.FnTwoByteCodeModel': WHATEVER THE INPUT: true; the input reads as it did. -/
def fnTwoByteCodeModelSpec : ChangeSpec := { name := "fnTwoByteCodeModel", fn := fun _ => fun
  | [d] => { results := [.lit (.bool true)], args := [d] }
  | _ => none }
def fnTwoByteCodeModelRow : OpenClaim := { program := "qxb6600649a", sum := "eb4ef2b545a6b0fc2778f01d4c9afe25a0c5fe8dd05d2584a0938d92e261efc8", func := "example.com/tuoguan/tuoguan/zzlaws_fund_b1.FnTwoByteCodeModel", spec := "fnTwoByteCodeModel", apart := false }
def FnTwoByteCodeModelSaid : Prop := fnTwoByteCodeModelRow.holds Try.pinned (OpenSpec.ofChange fnTwoByteCodeModelSpec)

/-- ITS FALSE NEIGHBOUR: 'it returns false'. Refute it at one input. -/
def fnTwoByteCodeModelWrong : ChangeSpec := { name := "fnTwoByteCodeModel", fn := fun _ => fun
  | [d] => { results := [.lit (.bool false)], args := [d] }
  | _ => none }
def FnTwoByteCodeModelWrongFalsely : Prop := fnTwoByteCodeModelRow.holds Try.pinned (OpenSpec.ofChange fnTwoByteCodeModelWrong)

/-- 'zzlaws_fund_b1.FnTwoByteCodeThenIndex': WHATEVER THE INPUT: true; the input reads as it did. -/
def fnTwoByteCodeThenIndexSpec : ChangeSpec := { name := "fnTwoByteCodeThenIndex", fn := fun _ => fun
  | [d] => { results := [.lit (.bool true)], args := [d] }
  | _ => none }
def fnTwoByteCodeThenIndexRow : OpenClaim := { program := "qxb6600649a", sum := "eb4ef2b545a6b0fc2778f01d4c9afe25a0c5fe8dd05d2584a0938d92e261efc8", func := "example.com/tuoguan/tuoguan/zzlaws_fund_b1.FnTwoByteCodeThenIndex", spec := "fnTwoByteCodeThenIndex", apart := false }
def FnTwoByteCodeThenIndexSaid : Prop := fnTwoByteCodeThenIndexRow.holds Try.pinned (OpenSpec.ofChange fnTwoByteCodeThenIndexSpec)

/-- ITS FALSE NEIGHBOUR: 'it returns false'. Refute it at one input. -/
def fnTwoByteCodeThenIndexWrong : ChangeSpec := { name := "fnTwoByteCodeThenIndex", fn := fun _ => fun
  | [d] => { results := [.lit (.bool false)], args := [d] }
  | _ => none }
def FnTwoByteCodeThenIndexWrongFalsely : Prop := fnTwoByteCodeThenIndexRow.holds Try.pinned (OpenSpec.ofChange fnTwoByteCodeThenIndexWrong)

/-- 'zzlaws_fund_b1.FnTwoByteCodeOrdered': WHATEVER THE INPUT: true; the input reads as it did. -/
def fnTwoByteCodeOrderedSpec : ChangeSpec := { name := "fnTwoByteCodeOrdered", fn := fun _ => fun
  | [d1, d2] => { results := [.lit (.bool true)], args := [d1, d2] }
  | _ => none }
def fnTwoByteCodeOrderedRow : OpenClaim := { program := "qxb6600649a", sum := "eb4ef2b545a6b0fc2778f01d4c9afe25a0c5fe8dd05d2584a0938d92e261efc8", func := "example.com/tuoguan/tuoguan/zzlaws_fund_b1.FnTwoByteCodeOrdered", spec := "fnTwoByteCodeOrdered", apart := false }
def FnTwoByteCodeOrderedSaid : Prop := fnTwoByteCodeOrderedRow.holds Try.pinned (OpenSpec.ofChange fnTwoByteCodeOrderedSpec)

/-- ITS FALSE NEIGHBOUR: 'it returns false'. Refute it at one input. -/
def fnTwoByteCodeOrderedWrong : ChangeSpec := { name := "fnTwoByteCodeOrdered", fn := fun _ => fun
  | [d1, d2] => { results := [.lit (.bool false)], args := [d1, d2] }
  | _ => none }
def FnTwoByteCodeOrderedWrongFalsely : Prop := fnTwoByteCodeOrderedRow.holds Try.pinned (OpenSpec.ofChange fnTwoByteCodeOrderedWrong)

end Rows
end Go.Proofs.Qxb6600649a
