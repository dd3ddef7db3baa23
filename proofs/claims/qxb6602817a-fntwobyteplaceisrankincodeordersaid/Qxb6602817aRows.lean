/-
  No cell of these rows narrows 'for every input' (looked for: loops, veiled, ifaces, maps, wideKeys, modest, calm, conditions, laid).
  DERIVED. THE GIVEN ROWS OF THIS SEAT. 5 by the template 'for every input the law returns true; each argument reads behind the call as it read before'; 0 by the template 'total and deterministic' (their statements: Qxb6602817aTotals.lean).
  GIVEN WITH THE SEED: the statements are not yours to turn. If you find one false, say at which input.
  Laid BY PROGRAM, IN A SANDBOX (cutbox-rows.mjs): the forced cells as the released guide's own fill.sh prints them over the translation b0958a226e891033… (all of the seat's roots in one cut). By AI agents, Wed Nov 11 2026. No macro, syntax, notation, axiom, sorry.
-/
import Derived.Test.Qxb6602817aChecked
import GoSem.Claim
import GoSem.ClaimJoined
import GoSem.ClaimMapViews
import Derived.JoinedTies
import Derived.KernelRfl
namespace Go.Proofs.Qxb6602817a
/- THE CELL 'sum', in the pinned program and in every row, IS THE sha256 OF THE DUMP (.gsa) THAT Qxb6602817aProg.lean LOADS. Nothing in Lean hashes anything: it is a label: what it is worth is what the hold of that sum in a sandbox is worth. -/
noncomputable def Try.pinned : Pinned := { name := "qxb6602817a", sum := "b0958a226e8910336a922857d8c118d4c3c52d419267713da39c7d1315633a84", checked := Try.checked }
namespace Rows
def none {H : Type} : Left H := { results := [], args := [] }

/-- 'zzlaws_internal_csvfile_b1.FnTwoBytePlaceIsRankInCodeOrder': WHATEVER THE INPUT: true; the input reads as it did. -/
def fnTwoBytePlaceIsRankInCodeOrderSpec : ChangeSpec := { name := "fnTwoBytePlaceIsRankInCodeOrder", fn := fun _ => fun
  | [d1, d2] => { results := [.lit (.bool true)], args := [d1, d2] }
  | _ => none }
def fnTwoBytePlaceIsRankInCodeOrderRow : OpenClaim := { program := "qxb6602817a", sum := "b0958a226e8910336a922857d8c118d4c3c52d419267713da39c7d1315633a84", func := "example.com/zhaomu/zhaomu/zzlaws_internal_csvfile_b1.FnTwoBytePlaceIsRankInCodeOrder", spec := "fnTwoBytePlaceIsRankInCodeOrder", apart := false }
def FnTwoBytePlaceIsRankInCodeOrderSaid : Prop := fnTwoBytePlaceIsRankInCodeOrderRow.holds Try.pinned (OpenSpec.ofChange fnTwoBytePlaceIsRankInCodeOrderSpec)

/-- ITS FALSE NEIGHBOUR: 'it returns false'. Refute it at one input. -/
def fnTwoBytePlaceIsRankInCodeOrderWrong : ChangeSpec := { name := "fnTwoBytePlaceIsRankInCodeOrder", fn := fun _ => fun
  | [d1, d2] => { results := [.lit (.bool false)], args := [d1, d2] }
  | _ => none }
def FnTwoBytePlaceIsRankInCodeOrderWrongFalsely : Prop := fnTwoBytePlaceIsRankInCodeOrderRow.holds Try.pinned (OpenSpec.ofChange fnTwoBytePlaceIsRankInCodeOrderWrong)

/-- 'zzlaws_internal_csvfile_b1.FnTwoBytePlaceOrderMatchesCodeOrder': WHATEVER THE INPUT: true; the input reads as it did. -/
def fnTwoBytePlaceOrderMatchesCodeOrderSpec : ChangeSpec := { name := "fnTwoBytePlaceOrderMatchesCodeOrder", fn := fun _ => fun
  | [d1, d2, d3, d4] => { results := [.lit (.bool true)], args := [d1, d2, d3, d4] }
  | _ => none }
def fnTwoBytePlaceOrderMatchesCodeOrderRow : OpenClaim := { program := "qxb6602817a", sum := "b0958a226e8910336a922857d8c118d4c3c52d419267713da39c7d1315633a84", func := "example.com/zhaomu/zhaomu/zzlaws_internal_csvfile_b1.FnTwoBytePlaceOrderMatchesCodeOrder", spec := "fnTwoBytePlaceOrderMatchesCodeOrder", apart := false }
def FnTwoBytePlaceOrderMatchesCodeOrderSaid : Prop := fnTwoBytePlaceOrderMatchesCodeOrderRow.holds Try.pinned (OpenSpec.ofChange fnTwoBytePlaceOrderMatchesCodeOrderSpec)

/-- ITS FALSE NEIGHBOUR: 'it returns false'. Refute it at one input. -/
def fnTwoBytePlaceOrderMatchesCodeOrderWrong : ChangeSpec := { name := "fnTwoBytePlaceOrderMatchesCodeOrder", fn := fun _ => fun
  | [d1, d2, d3, d4] => { results := [.lit (.bool false)], args := [d1, d2, d3, d4] }
  | _ => none }
def FnTwoBytePlaceOrderMatchesCodeOrderWrongFalsely : Prop := fnTwoBytePlaceOrderMatchesCodeOrderRow.holds Try.pinned (OpenSpec.ofChange fnTwoBytePlaceOrderMatchesCodeOrderWrong)

/-- 'zzlaws_internal_csvfile_b1.FnTwoByteCodeIsPlaceThCode': WHATEVER THE INPUT: true; the input reads as it did. -/
def fnTwoByteCodeIsPlaceThCodeSpec : ChangeSpec := { name := "fnTwoByteCodeIsPlaceThCode", fn := fun _ => fun
  | [d] => { results := [.lit (.bool true)], args := [d] }
  | _ => none }
def fnTwoByteCodeIsPlaceThCodeRow : OpenClaim := { program := "qxb6602817a", sum := "b0958a226e8910336a922857d8c118d4c3c52d419267713da39c7d1315633a84", func := "example.com/zhaomu/zhaomu/zzlaws_internal_csvfile_b1.FnTwoByteCodeIsPlaceThCode", spec := "fnTwoByteCodeIsPlaceThCode", apart := false }
def FnTwoByteCodeIsPlaceThCodeSaid : Prop := fnTwoByteCodeIsPlaceThCodeRow.holds Try.pinned (OpenSpec.ofChange fnTwoByteCodeIsPlaceThCodeSpec)

/-- ITS FALSE NEIGHBOUR: 'it returns false'. Refute it at one input. -/
def fnTwoByteCodeIsPlaceThCodeWrong : ChangeSpec := { name := "fnTwoByteCodeIsPlaceThCode", fn := fun _ => fun
  | [d] => { results := [.lit (.bool false)], args := [d] }
  | _ => none }
def FnTwoByteCodeIsPlaceThCodeWrongFalsely : Prop := fnTwoByteCodeIsPlaceThCodeRow.holds Try.pinned (OpenSpec.ofChange fnTwoByteCodeIsPlaceThCodeWrong)

/-- 'zzlaws_internal_csvfile_b1.FnTwoByteCodeInvertsTwoBytePlace': WHATEVER THE INPUT: true; the input reads as it did. -/
def fnTwoByteCodeInvertsTwoBytePlaceSpec : ChangeSpec := { name := "fnTwoByteCodeInvertsTwoBytePlace", fn := fun _ => fun
  | [d1, d2] => { results := [.lit (.bool true)], args := [d1, d2] }
  | _ => none }
def fnTwoByteCodeInvertsTwoBytePlaceRow : OpenClaim := { program := "qxb6602817a", sum := "b0958a226e8910336a922857d8c118d4c3c52d419267713da39c7d1315633a84", func := "example.com/zhaomu/zhaomu/zzlaws_internal_csvfile_b1.FnTwoByteCodeInvertsTwoBytePlace", spec := "fnTwoByteCodeInvertsTwoBytePlace", apart := false }
def FnTwoByteCodeInvertsTwoBytePlaceSaid : Prop := fnTwoByteCodeInvertsTwoBytePlaceRow.holds Try.pinned (OpenSpec.ofChange fnTwoByteCodeInvertsTwoBytePlaceSpec)

/-- ITS FALSE NEIGHBOUR: 'it returns false'. Refute it at one input. -/
def fnTwoByteCodeInvertsTwoBytePlaceWrong : ChangeSpec := { name := "fnTwoByteCodeInvertsTwoBytePlace", fn := fun _ => fun
  | [d1, d2] => { results := [.lit (.bool false)], args := [d1, d2] }
  | _ => none }
def FnTwoByteCodeInvertsTwoBytePlaceWrongFalsely : Prop := fnTwoByteCodeInvertsTwoBytePlaceRow.holds Try.pinned (OpenSpec.ofChange fnTwoByteCodeInvertsTwoBytePlaceWrong)

/-- 'zzlaws_internal_csvfile_b1.FnTwoBytePlaceInvertsTwoByteCode': WHATEVER THE INPUT: true; the input reads as it did. -/
def fnTwoBytePlaceInvertsTwoByteCodeSpec : ChangeSpec := { name := "fnTwoBytePlaceInvertsTwoByteCode", fn := fun _ => fun
  | [d] => { results := [.lit (.bool true)], args := [d] }
  | _ => none }
def fnTwoBytePlaceInvertsTwoByteCodeRow : OpenClaim := { program := "qxb6602817a", sum := "b0958a226e8910336a922857d8c118d4c3c52d419267713da39c7d1315633a84", func := "example.com/zhaomu/zhaomu/zzlaws_internal_csvfile_b1.FnTwoBytePlaceInvertsTwoByteCode", spec := "fnTwoBytePlaceInvertsTwoByteCode", apart := false }
def FnTwoBytePlaceInvertsTwoByteCodeSaid : Prop := fnTwoBytePlaceInvertsTwoByteCodeRow.holds Try.pinned (OpenSpec.ofChange fnTwoBytePlaceInvertsTwoByteCodeSpec)

/-- ITS FALSE NEIGHBOUR: 'it returns false'. Refute it at one input. -/
def fnTwoBytePlaceInvertsTwoByteCodeWrong : ChangeSpec := { name := "fnTwoBytePlaceInvertsTwoByteCode", fn := fun _ => fun
  | [d] => { results := [.lit (.bool false)], args := [d] }
  | _ => none }
def FnTwoBytePlaceInvertsTwoByteCodeWrongFalsely : Prop := fnTwoBytePlaceInvertsTwoByteCodeRow.holds Try.pinned (OpenSpec.ofChange fnTwoBytePlaceInvertsTwoByteCodeWrong)

end Rows
end Go.Proofs.Qxb6602817a
