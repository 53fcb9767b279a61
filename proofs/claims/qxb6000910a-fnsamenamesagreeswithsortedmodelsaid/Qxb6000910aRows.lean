/-
  No cell of these rows narrows 'for every input' (looked for: loops, veiled, ifaces, maps, wideKeys, modest, calm, conditions, laid).
  DERIVED. THE GIVEN ROWS OF THIS SEAT. 8 by the template 'for every input the law returns true; each argument reads behind the call as it read before'; 0 by the template 'total and deterministic' (their statements: Qxb6000910aTotals.lean).
  GIVEN WITH THE SEED: the statements are not yours to turn. If you find one false, say at which input.
  Laid BY PROGRAM, IN A SANDBOX (cutbox-rows.mjs): the forced cells as the released guide's own fill.sh prints them over the translation c0473d49604d7fc0… (all of the seat's roots in one cut). By AI agents, Wed Nov 11 2026. No macro, syntax, notation, axiom, sorry.
-/
import Derived.Test.Qxb6000910aChecked
import GoSem.Claim
import GoSem.ClaimJoined
import GoSem.ClaimMapViews
import Derived.JoinedTies
import Derived.KernelRfl
namespace Go.Proofs.Qxb6000910a
/- THE CELL 'sum', in the pinned program and in every row, IS THE sha256 OF THE DUMP (.gsa) THAT Qxb6000910aProg.lean LOADS. Nothing in Lean hashes anything: it is a label: what it is worth is what the hold of that sum in a sandbox is worth. -/
noncomputable def Try.pinned : Pinned := { name := "qxb6000910a", sum := "c0473d49604d7fc0e00af61f6c2dc6cdaab83015fbd9e762415ade174c3e09a5", checked := Try.checked }
namespace Rows
def none {H : Type} : Left H := { results := [], args := [] }

/-- 'zzlaws_terms_b1.FnHoldsFindsElement': WHATEVER THE INPUT: true; the input reads as it did. -/
def fnHoldsFindsElementSpec : ChangeSpec := { name := "fnHoldsFindsElement", fn := fun _ => fun
  | [d1, d2] => { results := [.lit (.bool true)], args := [d1, d2] }
  | _ => none }
def fnHoldsFindsElementRow : OpenClaim := { program := "qxb6000910a", sum := "c0473d49604d7fc0e00af61f6c2dc6cdaab83015fbd9e762415ade174c3e09a5", func := "example.com/tuoguan/tuoguan/zzlaws_terms_b1.FnHoldsFindsElement", spec := "fnHoldsFindsElement", apart := false }
def FnHoldsFindsElementSaid : Prop := fnHoldsFindsElementRow.holds Try.pinned (OpenSpec.ofChange fnHoldsFindsElementSpec)

/-- ITS FALSE NEIGHBOUR: 'it returns false'. Refute it at one input. -/
def fnHoldsFindsElementWrong : ChangeSpec := { name := "fnHoldsFindsElement", fn := fun _ => fun
  | [d1, d2] => { results := [.lit (.bool false)], args := [d1, d2] }
  | _ => none }
def FnHoldsFindsElementWrongFalsely : Prop := fnHoldsFindsElementRow.holds Try.pinned (OpenSpec.ofChange fnHoldsFindsElementWrong)

/-- 'zzlaws_terms_b1.FnHoldsOverConcat': WHATEVER THE INPUT: true; the input reads as it did. -/
def fnHoldsOverConcatSpec : ChangeSpec := { name := "fnHoldsOverConcat", fn := fun _ => fun
  | [d1, d2, d3] => { results := [.lit (.bool true)], args := [d1, d2, d3] }
  | _ => none }
def fnHoldsOverConcatRow : OpenClaim := { program := "qxb6000910a", sum := "c0473d49604d7fc0e00af61f6c2dc6cdaab83015fbd9e762415ade174c3e09a5", func := "example.com/tuoguan/tuoguan/zzlaws_terms_b1.FnHoldsOverConcat", spec := "fnHoldsOverConcat", apart := false }
def FnHoldsOverConcatSaid : Prop := fnHoldsOverConcatRow.holds Try.pinned (OpenSpec.ofChange fnHoldsOverConcatSpec)

/-- ITS FALSE NEIGHBOUR: 'it returns false'. Refute it at one input. -/
def fnHoldsOverConcatWrong : ChangeSpec := { name := "fnHoldsOverConcat", fn := fun _ => fun
  | [d1, d2, d3] => { results := [.lit (.bool false)], args := [d1, d2, d3] }
  | _ => none }
def FnHoldsOverConcatWrongFalsely : Prop := fnHoldsOverConcatRow.holds Try.pinned (OpenSpec.ofChange fnHoldsOverConcatWrong)

/-- 'zzlaws_terms_b1.FnHoldsIgnoresOrder': WHATEVER THE INPUT: true; the input reads as it did. -/
def fnHoldsIgnoresOrderSpec : ChangeSpec := { name := "fnHoldsIgnoresOrder", fn := fun _ => fun
  | [d1, d2] => { results := [.lit (.bool true)], args := [d1, d2] }
  | _ => none }
def fnHoldsIgnoresOrderRow : OpenClaim := { program := "qxb6000910a", sum := "c0473d49604d7fc0e00af61f6c2dc6cdaab83015fbd9e762415ade174c3e09a5", func := "example.com/tuoguan/tuoguan/zzlaws_terms_b1.FnHoldsIgnoresOrder", spec := "fnHoldsIgnoresOrder", apart := false }
def FnHoldsIgnoresOrderSaid : Prop := fnHoldsIgnoresOrderRow.holds Try.pinned (OpenSpec.ofChange fnHoldsIgnoresOrderSpec)

/-- ITS FALSE NEIGHBOUR: 'it returns false'. Refute it at one input. -/
def fnHoldsIgnoresOrderWrong : ChangeSpec := { name := "fnHoldsIgnoresOrder", fn := fun _ => fun
  | [d1, d2] => { results := [.lit (.bool false)], args := [d1, d2] }
  | _ => none }
def FnHoldsIgnoresOrderWrongFalsely : Prop := fnHoldsIgnoresOrderRow.holds Try.pinned (OpenSpec.ofChange fnHoldsIgnoresOrderWrong)

/-- 'zzlaws_terms_b1.FnHoldsAnySymmetric': WHATEVER THE INPUT: true; the input reads as it did. -/
def fnHoldsAnySymmetricSpec : ChangeSpec := { name := "fnHoldsAnySymmetric", fn := fun _ => fun
  | [d1, d2] => { results := [.lit (.bool true)], args := [d1, d2] }
  | _ => none }
def fnHoldsAnySymmetricRow : OpenClaim := { program := "qxb6000910a", sum := "c0473d49604d7fc0e00af61f6c2dc6cdaab83015fbd9e762415ade174c3e09a5", func := "example.com/tuoguan/tuoguan/zzlaws_terms_b1.FnHoldsAnySymmetric", spec := "fnHoldsAnySymmetric", apart := false }
def FnHoldsAnySymmetricSaid : Prop := fnHoldsAnySymmetricRow.holds Try.pinned (OpenSpec.ofChange fnHoldsAnySymmetricSpec)

/-- ITS FALSE NEIGHBOUR: 'it returns false'. Refute it at one input. -/
def fnHoldsAnySymmetricWrong : ChangeSpec := { name := "fnHoldsAnySymmetric", fn := fun _ => fun
  | [d1, d2] => { results := [.lit (.bool false)], args := [d1, d2] }
  | _ => none }
def FnHoldsAnySymmetricWrongFalsely : Prop := fnHoldsAnySymmetricRow.holds Try.pinned (OpenSpec.ofChange fnHoldsAnySymmetricWrong)

/-- 'zzlaws_terms_b1.FnHoldsAnySelfOverlap': WHATEVER THE INPUT: true; the input reads as it did. -/
def fnHoldsAnySelfOverlapSpec : ChangeSpec := { name := "fnHoldsAnySelfOverlap", fn := fun _ => fun
  | [d] => { results := [.lit (.bool true)], args := [d] }
  | _ => none }
def fnHoldsAnySelfOverlapRow : OpenClaim := { program := "qxb6000910a", sum := "c0473d49604d7fc0e00af61f6c2dc6cdaab83015fbd9e762415ade174c3e09a5", func := "example.com/tuoguan/tuoguan/zzlaws_terms_b1.FnHoldsAnySelfOverlap", spec := "fnHoldsAnySelfOverlap", apart := false }
def FnHoldsAnySelfOverlapSaid : Prop := fnHoldsAnySelfOverlapRow.holds Try.pinned (OpenSpec.ofChange fnHoldsAnySelfOverlapSpec)

/-- ITS FALSE NEIGHBOUR: 'it returns false'. Refute it at one input. -/
def fnHoldsAnySelfOverlapWrong : ChangeSpec := { name := "fnHoldsAnySelfOverlap", fn := fun _ => fun
  | [d] => { results := [.lit (.bool false)], args := [d] }
  | _ => none }
def FnHoldsAnySelfOverlapWrongFalsely : Prop := fnHoldsAnySelfOverlapRow.holds Try.pinned (OpenSpec.ofChange fnHoldsAnySelfOverlapWrong)

/-- 'zzlaws_terms_b1.FnSameNamesAgreesWithSortedModel': WHATEVER THE INPUT: true; the input reads as it did. -/
def fnSameNamesAgreesWithSortedModelSpec : ChangeSpec := { name := "fnSameNamesAgreesWithSortedModel", fn := fun _ => fun
  | [d1, d2] => { results := [.lit (.bool true)], args := [d1, d2] }
  | _ => none }
def fnSameNamesAgreesWithSortedModelRow : OpenClaim := { program := "qxb6000910a", sum := "c0473d49604d7fc0e00af61f6c2dc6cdaab83015fbd9e762415ade174c3e09a5", func := "example.com/tuoguan/tuoguan/zzlaws_terms_b1.FnSameNamesAgreesWithSortedModel", spec := "fnSameNamesAgreesWithSortedModel", apart := false }
def FnSameNamesAgreesWithSortedModelSaid : Prop := fnSameNamesAgreesWithSortedModelRow.holds Try.pinned (OpenSpec.ofChange fnSameNamesAgreesWithSortedModelSpec)

/-- ITS FALSE NEIGHBOUR: 'it returns false'. Refute it at one input. -/
def fnSameNamesAgreesWithSortedModelWrong : ChangeSpec := { name := "fnSameNamesAgreesWithSortedModel", fn := fun _ => fun
  | [d1, d2] => { results := [.lit (.bool false)], args := [d1, d2] }
  | _ => none }
def FnSameNamesAgreesWithSortedModelWrongFalsely : Prop := fnSameNamesAgreesWithSortedModelRow.holds Try.pinned (OpenSpec.ofChange fnSameNamesAgreesWithSortedModelWrong)

/-- 'zzlaws_terms_b1.FnSameNamesSymmetric': WHATEVER THE INPUT: true; the input reads as it did. -/
def fnSameNamesSymmetricSpec : ChangeSpec := { name := "fnSameNamesSymmetric", fn := fun _ => fun
  | [d1, d2] => { results := [.lit (.bool true)], args := [d1, d2] }
  | _ => none }
def fnSameNamesSymmetricRow : OpenClaim := { program := "qxb6000910a", sum := "c0473d49604d7fc0e00af61f6c2dc6cdaab83015fbd9e762415ade174c3e09a5", func := "example.com/tuoguan/tuoguan/zzlaws_terms_b1.FnSameNamesSymmetric", spec := "fnSameNamesSymmetric", apart := false }
def FnSameNamesSymmetricSaid : Prop := fnSameNamesSymmetricRow.holds Try.pinned (OpenSpec.ofChange fnSameNamesSymmetricSpec)

/-- ITS FALSE NEIGHBOUR: 'it returns false'. Refute it at one input. -/
def fnSameNamesSymmetricWrong : ChangeSpec := { name := "fnSameNamesSymmetric", fn := fun _ => fun
  | [d1, d2] => { results := [.lit (.bool false)], args := [d1, d2] }
  | _ => none }
def FnSameNamesSymmetricWrongFalsely : Prop := fnSameNamesSymmetricRow.holds Try.pinned (OpenSpec.ofChange fnSameNamesSymmetricWrong)

/-- 'zzlaws_terms_b1.FnSameNamesAcceptsReordering': WHATEVER THE INPUT: true; the input reads as it did. -/
def fnSameNamesAcceptsReorderingSpec : ChangeSpec := { name := "fnSameNamesAcceptsReordering", fn := fun _ => fun
  | [d] => { results := [.lit (.bool true)], args := [d] }
  | _ => none }
def fnSameNamesAcceptsReorderingRow : OpenClaim := { program := "qxb6000910a", sum := "c0473d49604d7fc0e00af61f6c2dc6cdaab83015fbd9e762415ade174c3e09a5", func := "example.com/tuoguan/tuoguan/zzlaws_terms_b1.FnSameNamesAcceptsReordering", spec := "fnSameNamesAcceptsReordering", apart := false }
def FnSameNamesAcceptsReorderingSaid : Prop := fnSameNamesAcceptsReorderingRow.holds Try.pinned (OpenSpec.ofChange fnSameNamesAcceptsReorderingSpec)

/-- ITS FALSE NEIGHBOUR: 'it returns false'. Refute it at one input. -/
def fnSameNamesAcceptsReorderingWrong : ChangeSpec := { name := "fnSameNamesAcceptsReordering", fn := fun _ => fun
  | [d] => { results := [.lit (.bool false)], args := [d] }
  | _ => none }
def FnSameNamesAcceptsReorderingWrongFalsely : Prop := fnSameNamesAcceptsReorderingRow.holds Try.pinned (OpenSpec.ofChange fnSameNamesAcceptsReorderingWrong)

end Rows
end Go.Proofs.Qxb6000910a
