/-
  No cell of these rows narrows 'for every input' (looked for: loops, veiled, ifaces, maps, wideKeys, modest, calm, conditions, laid).
  DERIVED. THE GIVEN ROWS OF THIS SEAT. 3 by the template 'for every input the law returns true; each argument reads behind the call as it read before'; 0 by the template 'total and deterministic' (their statements: Qxb6602294aTotals.lean).
  GIVEN WITH THE SEED: the statements are not yours to turn. If you find one false, say at which input.
  Laid BY PROGRAM, IN A SANDBOX (cutbox-rows.mjs): the forced cells as the released guide's own fill.sh prints them over the translation 8ae86f5cfa4ad1c5… (all of the seat's roots in one cut). By AI agents, Wed Nov 11 2026. No macro, syntax, notation, axiom, sorry.
-/
import Derived.Test.Qxb6602294aChecked
import GoSem.Claim
import GoSem.ClaimJoined
import GoSem.ClaimMapViews
import Derived.JoinedTies
import Derived.KernelRfl
namespace Go.Proofs.Qxb6602294a
/- THE CELL 'sum', in the pinned program and in every row, IS THE sha256 OF THE DUMP (.gsa) THAT Qxb6602294aProg.lean LOADS. Nothing in Lean hashes anything: it is a label: what it is worth is what the hold of that sum in a sandbox is worth. -/
noncomputable def Try.pinned : Pinned := { name := "qxb6602294a", sum := "8ae86f5cfa4ad1c5c2db54be54864ce8bdae754af4565835c720b09b218f4d4f", checked := Try.checked }
namespace Rows
def none {H : Type} : Left H := { results := [], args := [] }

/-- 'zzlaws_proxy_b1.FnFirstValueMatchesModel': WHATEVER THE INPUT: true; the input reads as it did. -/
def fnFirstValueMatchesModelSpec : ChangeSpec := { name := "fnFirstValueMatchesModel", fn := fun _ => fun
  | [d1, d2, d3, d4, d5, d6, d7] => { results := [.lit (.bool true)], args := [d1, d2, d3, d4, d5, d6, d7] }
  | _ => none }
def fnFirstValueMatchesModelRow : OpenClaim := { program := "qxb6602294a", sum := "8ae86f5cfa4ad1c5c2db54be54864ce8bdae754af4565835c720b09b218f4d4f", func := "example.com/watchgate/watchgate/zzlaws_proxy_b1.FnFirstValueMatchesModel", spec := "fnFirstValueMatchesModel", apart := false }
def FnFirstValueMatchesModelSaid : Prop := fnFirstValueMatchesModelRow.holds Try.pinned (OpenSpec.ofChange fnFirstValueMatchesModelSpec)

/-- ITS FALSE NEIGHBOUR: 'it returns false'. Refute it at one input. -/
def fnFirstValueMatchesModelWrong : ChangeSpec := { name := "fnFirstValueMatchesModel", fn := fun _ => fun
  | [d1, d2, d3, d4, d5, d6, d7] => { results := [.lit (.bool false)], args := [d1, d2, d3, d4, d5, d6, d7] }
  | _ => none }
def FnFirstValueMatchesModelWrongFalsely : Prop := fnFirstValueMatchesModelRow.holds Try.pinned (OpenSpec.ofChange fnFirstValueMatchesModelWrong)

/-- 'zzlaws_proxy_b1.FnFirstValueIgnoresCaseOfName': WHATEVER THE INPUT: true; the input reads as it did. -/
def fnFirstValueIgnoresCaseOfNameSpec : ChangeSpec := { name := "fnFirstValueIgnoresCaseOfName", fn := fun _ => fun
  | [d1, d2] => { results := [.lit (.bool true)], args := [d1, d2] }
  | _ => none }
def fnFirstValueIgnoresCaseOfNameRow : OpenClaim := { program := "qxb6602294a", sum := "8ae86f5cfa4ad1c5c2db54be54864ce8bdae754af4565835c720b09b218f4d4f", func := "example.com/watchgate/watchgate/zzlaws_proxy_b1.FnFirstValueIgnoresCaseOfName", spec := "fnFirstValueIgnoresCaseOfName", apart := false }
def FnFirstValueIgnoresCaseOfNameSaid : Prop := fnFirstValueIgnoresCaseOfNameRow.holds Try.pinned (OpenSpec.ofChange fnFirstValueIgnoresCaseOfNameSpec)

/-- ITS FALSE NEIGHBOUR: 'it returns false'. Refute it at one input. -/
def fnFirstValueIgnoresCaseOfNameWrong : ChangeSpec := { name := "fnFirstValueIgnoresCaseOfName", fn := fun _ => fun
  | [d1, d2] => { results := [.lit (.bool false)], args := [d1, d2] }
  | _ => none }
def FnFirstValueIgnoresCaseOfNameWrongFalsely : Prop := fnFirstValueIgnoresCaseOfNameRow.holds Try.pinned (OpenSpec.ofChange fnFirstValueIgnoresCaseOfNameWrong)

/-- 'zzlaws_proxy_b1.FnFirstValueAppendKeepsFirst': WHATEVER THE INPUT: true; the input reads as it did. -/
def fnFirstValueAppendKeepsFirstSpec : ChangeSpec := { name := "fnFirstValueAppendKeepsFirst", fn := fun _ => fun
  | [d1, d2, d3] => { results := [.lit (.bool true)], args := [d1, d2, d3] }
  | _ => none }
def fnFirstValueAppendKeepsFirstRow : OpenClaim := { program := "qxb6602294a", sum := "8ae86f5cfa4ad1c5c2db54be54864ce8bdae754af4565835c720b09b218f4d4f", func := "example.com/watchgate/watchgate/zzlaws_proxy_b1.FnFirstValueAppendKeepsFirst", spec := "fnFirstValueAppendKeepsFirst", apart := false }
def FnFirstValueAppendKeepsFirstSaid : Prop := fnFirstValueAppendKeepsFirstRow.holds Try.pinned (OpenSpec.ofChange fnFirstValueAppendKeepsFirstSpec)

/-- ITS FALSE NEIGHBOUR: 'it returns false'. Refute it at one input. -/
def fnFirstValueAppendKeepsFirstWrong : ChangeSpec := { name := "fnFirstValueAppendKeepsFirst", fn := fun _ => fun
  | [d1, d2, d3] => { results := [.lit (.bool false)], args := [d1, d2, d3] }
  | _ => none }
def FnFirstValueAppendKeepsFirstWrongFalsely : Prop := fnFirstValueAppendKeepsFirstRow.holds Try.pinned (OpenSpec.ofChange fnFirstValueAppendKeepsFirstWrong)

end Rows
end Go.Proofs.Qxb6602294a
