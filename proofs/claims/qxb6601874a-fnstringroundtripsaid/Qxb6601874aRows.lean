/-
  No cell of these rows narrows 'for every input' (looked for: loops, veiled, ifaces, maps, wideKeys, modest, calm, conditions, laid).
  DERIVED. THE GIVEN ROWS OF THIS SEAT. 6 by the template 'for every input the law returns true; each argument reads behind the call as it read before'; 0 by the template 'total and deterministic' (their statements: Qxb6601874aTotals.lean).
  GIVEN WITH THE SEED: the statements are not yours to turn. If you find one false, say at which input.
  Laid BY PROGRAM, IN A SANDBOX (cutbox-rows.mjs): the forced cells as the released guide's own fill.sh prints them over the translation 0bed1a7ab835f988… (all of the seat's roots in one cut). By AI agents, Wed Nov 11 2026. No macro, syntax, notation, axiom, sorry.
-/
import Derived.Test.Qxb6601874aChecked
import GoSem.Claim
import GoSem.ClaimJoined
import GoSem.ClaimMapViews
import Derived.JoinedTies
import Derived.KernelRfl
namespace Go.Proofs.Qxb6601874a
/- THE CELL 'sum', in the pinned program and in every row, IS THE sha256 OF THE DUMP (.gsa) THAT Qxb6601874aProg.lean LOADS. Nothing in Lean hashes anything: it is a label: what it is worth is what the hold of that sum in a sandbox is worth. -/
noncomputable def Try.pinned : Pinned := { name := "qxb6601874a", sum := "0bed1a7ab835f9888d81c698dc50b4b9e2fba1bf33765e04cf66e0ffcfeed189", checked := Try.checked }
namespace Rows
def none {H : Type} : Left H := { results := [], args := [] }

/-- 'zzlaws_internal_cboritem_b1.FnHeadWholeAnswer': WHATEVER THE INPUT: true; the input reads as it did. -/
def fnHeadWholeAnswerSpec : ChangeSpec := { name := "fnHeadWholeAnswer", fn := fun _ => fun
  | [d1, d2] => { results := [.lit (.bool true)], args := [d1, d2] }
  | _ => none }
def fnHeadWholeAnswerRow : OpenClaim := { program := "qxb6601874a", sum := "0bed1a7ab835f9888d81c698dc50b4b9e2fba1bf33765e04cf66e0ffcfeed189", func := "example.com/proofstone/proofstone/zzlaws_internal_cboritem_b1.FnHeadWholeAnswer", spec := "fnHeadWholeAnswer", apart := false }
def FnHeadWholeAnswerSaid : Prop := fnHeadWholeAnswerRow.holds Try.pinned (OpenSpec.ofChange fnHeadWholeAnswerSpec)

/-- ITS FALSE NEIGHBOUR: 'it returns false'. Refute it at one input. -/
def fnHeadWholeAnswerWrong : ChangeSpec := { name := "fnHeadWholeAnswer", fn := fun _ => fun
  | [d1, d2] => { results := [.lit (.bool false)], args := [d1, d2] }
  | _ => none }
def FnHeadWholeAnswerWrongFalsely : Prop := fnHeadWholeAnswerRow.holds Try.pinned (OpenSpec.ofChange fnHeadWholeAnswerWrong)

/-- 'zzlaws_internal_cboritem_b1.FnHeadRoundTrip': WHATEVER THE INPUT: true; the input reads as it did. -/
def fnHeadRoundTripSpec : ChangeSpec := { name := "fnHeadRoundTrip", fn := fun _ => fun
  | [d1, d2, d3, d4] => { results := [.lit (.bool true)], args := [d1, d2, d3, d4] }
  | _ => none }
def fnHeadRoundTripRow : OpenClaim := { program := "qxb6601874a", sum := "0bed1a7ab835f9888d81c698dc50b4b9e2fba1bf33765e04cf66e0ffcfeed189", func := "example.com/proofstone/proofstone/zzlaws_internal_cboritem_b1.FnHeadRoundTrip", spec := "fnHeadRoundTrip", apart := false }
def FnHeadRoundTripSaid : Prop := fnHeadRoundTripRow.holds Try.pinned (OpenSpec.ofChange fnHeadRoundTripSpec)

/-- ITS FALSE NEIGHBOUR: 'it returns false'. Refute it at one input. -/
def fnHeadRoundTripWrong : ChangeSpec := { name := "fnHeadRoundTrip", fn := fun _ => fun
  | [d1, d2, d3, d4] => { results := [.lit (.bool false)], args := [d1, d2, d3, d4] }
  | _ => none }
def FnHeadRoundTripWrongFalsely : Prop := fnHeadRoundTripRow.holds Try.pinned (OpenSpec.ofChange fnHeadRoundTripWrong)

/-- 'zzlaws_internal_cboritem_b1.FnStringWholeAnswer': WHATEVER THE INPUT: true; the input reads as it did. -/
def fnStringWholeAnswerSpec : ChangeSpec := { name := "fnStringWholeAnswer", fn := fun _ => fun
  | [d1, d2, d3] => { results := [.lit (.bool true)], args := [d1, d2, d3] }
  | _ => none }
def fnStringWholeAnswerRow : OpenClaim := { program := "qxb6601874a", sum := "0bed1a7ab835f9888d81c698dc50b4b9e2fba1bf33765e04cf66e0ffcfeed189", func := "example.com/proofstone/proofstone/zzlaws_internal_cboritem_b1.FnStringWholeAnswer", spec := "fnStringWholeAnswer", apart := false }
def FnStringWholeAnswerSaid : Prop := fnStringWholeAnswerRow.holds Try.pinned (OpenSpec.ofChange fnStringWholeAnswerSpec)

/-- ITS FALSE NEIGHBOUR: 'it returns false'. Refute it at one input. -/
def fnStringWholeAnswerWrong : ChangeSpec := { name := "fnStringWholeAnswer", fn := fun _ => fun
  | [d1, d2, d3] => { results := [.lit (.bool false)], args := [d1, d2, d3] }
  | _ => none }
def FnStringWholeAnswerWrongFalsely : Prop := fnStringWholeAnswerRow.holds Try.pinned (OpenSpec.ofChange fnStringWholeAnswerWrong)

/-- 'zzlaws_internal_cboritem_b1.FnStringRoundTrip': WHATEVER THE INPUT: true; the input reads as it did. -/
def fnStringRoundTripSpec : ChangeSpec := { name := "fnStringRoundTrip", fn := fun _ => fun
  | [d1, d2, d3, d4, d5] => { results := [.lit (.bool true)], args := [d1, d2, d3, d4, d5] }
  | _ => none }
def fnStringRoundTripRow : OpenClaim := { program := "qxb6601874a", sum := "0bed1a7ab835f9888d81c698dc50b4b9e2fba1bf33765e04cf66e0ffcfeed189", func := "example.com/proofstone/proofstone/zzlaws_internal_cboritem_b1.FnStringRoundTrip", spec := "fnStringRoundTrip", apart := false }
def FnStringRoundTripSaid : Prop := fnStringRoundTripRow.holds Try.pinned (OpenSpec.ofChange fnStringRoundTripSpec)

/-- ITS FALSE NEIGHBOUR: 'it returns false'. Refute it at one input. -/
def fnStringRoundTripWrong : ChangeSpec := { name := "fnStringRoundTrip", fn := fun _ => fun
  | [d1, d2, d3, d4, d5] => { results := [.lit (.bool false)], args := [d1, d2, d3, d4, d5] }
  | _ => none }
def FnStringRoundTripWrongFalsely : Prop := fnStringRoundTripRow.holds Try.pinned (OpenSpec.ofChange fnStringRoundTripWrong)

/-- 'zzlaws_internal_cboritem_b1.FnBoolAgreesWithHead': WHATEVER THE INPUT: true; the input reads as it did. -/
def fnBoolAgreesWithHeadSpec : ChangeSpec := { name := "fnBoolAgreesWithHead", fn := fun _ => fun
  | [d1, d2] => { results := [.lit (.bool true)], args := [d1, d2] }
  | _ => none }
def fnBoolAgreesWithHeadRow : OpenClaim := { program := "qxb6601874a", sum := "0bed1a7ab835f9888d81c698dc50b4b9e2fba1bf33765e04cf66e0ffcfeed189", func := "example.com/proofstone/proofstone/zzlaws_internal_cboritem_b1.FnBoolAgreesWithHead", spec := "fnBoolAgreesWithHead", apart := false }
def FnBoolAgreesWithHeadSaid : Prop := fnBoolAgreesWithHeadRow.holds Try.pinned (OpenSpec.ofChange fnBoolAgreesWithHeadSpec)

/-- ITS FALSE NEIGHBOUR: 'it returns false'. Refute it at one input. -/
def fnBoolAgreesWithHeadWrong : ChangeSpec := { name := "fnBoolAgreesWithHead", fn := fun _ => fun
  | [d1, d2] => { results := [.lit (.bool false)], args := [d1, d2] }
  | _ => none }
def FnBoolAgreesWithHeadWrongFalsely : Prop := fnBoolAgreesWithHeadRow.holds Try.pinned (OpenSpec.ofChange fnBoolAgreesWithHeadWrong)

/-- 'zzlaws_internal_cboritem_b1.FnBoolRoundTrip': WHATEVER THE INPUT: true; the input reads as it did. -/
def fnBoolRoundTripSpec : ChangeSpec := { name := "fnBoolRoundTrip", fn := fun _ => fun
  | [d1, d2] => { results := [.lit (.bool true)], args := [d1, d2] }
  | _ => none }
def fnBoolRoundTripRow : OpenClaim := { program := "qxb6601874a", sum := "0bed1a7ab835f9888d81c698dc50b4b9e2fba1bf33765e04cf66e0ffcfeed189", func := "example.com/proofstone/proofstone/zzlaws_internal_cboritem_b1.FnBoolRoundTrip", spec := "fnBoolRoundTrip", apart := false }
def FnBoolRoundTripSaid : Prop := fnBoolRoundTripRow.holds Try.pinned (OpenSpec.ofChange fnBoolRoundTripSpec)

/-- ITS FALSE NEIGHBOUR: 'it returns false'. Refute it at one input. -/
def fnBoolRoundTripWrong : ChangeSpec := { name := "fnBoolRoundTrip", fn := fun _ => fun
  | [d1, d2] => { results := [.lit (.bool false)], args := [d1, d2] }
  | _ => none }
def FnBoolRoundTripWrongFalsely : Prop := fnBoolRoundTripRow.holds Try.pinned (OpenSpec.ofChange fnBoolRoundTripWrong)

end Rows
end Go.Proofs.Qxb6601874a
