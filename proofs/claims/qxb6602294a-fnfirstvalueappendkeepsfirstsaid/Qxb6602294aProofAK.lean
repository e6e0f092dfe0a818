/-
  'Rows.FnFirstValueAppendKeepsFirstSaid' proved: the row's step (after the shells that the guide's program writes, turned to slices of structs and a struct by value) over the walk 'lawAK'.
-/
import Derived.Test.Qxb6602294aOpen
import Derived.Test.Qxb6602294aLawAK
import Derived.WalkKit
import Derived.ProofKit
import Derived.OpenShut
import Derived.ShutString
import Derived.ChangeOld
import Derived.Below
import Derived.Lib.SmallJoins
namespace Go.Proofs.Qxb6602294a.fnFirstValueAppendKeepsFirst
open Go.ChangeShapes Go.WideShapes Go.ChangeAt Go.RowKit
open Go.ChangeMaps (open_string shut_string)
set_option linter.unusedVariables false

theorem own : ownKnob Try.prog.godebug = none := by kernel_rfl
theorem laidOut : laidOutB Try.prog = true := by kernel_rfl
theorem cells38 : Try.prog.cellsOf 38 = 2 := by kernel_rfl

set_option maxRecDepth 100000 in
theorem lifted (os : Os) (started : os.Started) (H : Type) (enc : TypeId × Value → H) :
    ReturnsInHanded {} Try.checked os 5 .any (Rows.fnFirstValueAppendKeepsFirstSpec.pre6 enc Try.prog Try.f5 Rows.fnFirstValueAppendKeepsFirstRow.domain false) (Rows.fnFirstValueAppendKeepsFirstSpec.post enc Try.prog Try.f5 false true false false) := by
  refine returnsInHanded_of_change (C := Try.checked) own started (by kernel_rfl) Try.func5
    (ChangeSpec.witness6 (enc := enc) (C := Try.checked) false ⟨#[], #[.slice none 0 0, .agg #[.slice none 0 0, .slice none 0 0], .string ByteArray.empty], []⟩ 8 (by kernel_rfl) (by kernel_rfl) (by kernel_rfl) (by kernel_rfl)) ?_
  intro W base args ds gs before hval0 hW hcnd _
  have hval : ∀ (j : Nat) t v, Try.f5.params[j]? = some t → args[j]? = some v → Value.okWide Try.prog W .any base t v := hval0
  have hW' := hW
  obtain ⟨p, q, hA0, hV, rfl, hfz, hnd⟩ := hW
  have hA : DataW.TrodAll enc Try.prog W 0 (fun _ => true) true Try.f5.params.toList args.toList ds p := hA0
  rw [Try.params5] at hA hval
  obtain ⟨v0, vs0, d0, ds0, p0, q0, hargs, rfl, rfl, h0, r0⟩ := trodAll_cons hA
  obtain ⟨v1, vs1, d1, ds1, p1, q1, rfl, rfl, rfl, h1, r1⟩ := trodAll_cons r0
  obtain ⟨v2, vs2, d2, ds2, p2, q2, rfl, rfl, rfl, h2, r2⟩ := trodAll_cons r1
  obtain ⟨rfl, rfl, rfl⟩ := trodAll_nil r2
  obtain rfl : args = #[v0, v1, v2] := by cases args; simp_all
  obtain ⟨rfl, rfl⟩ := trodVars_none hV
  have lt0 : ∀ x ∈ p0, x.block < W.heap.size := by obtain ⟨m, hm⟩ := h0; exact DataW.trod_lt m _ _ _ hm
  have lt1 : ∀ x ∈ p1, x.block < W.heap.size := by obtain ⟨m, hm⟩ := h1; exact DataW.trod_lt m _ _ _ hm
  obtain ⟨a0, len0, cap0, rfl⟩ := okWide_slice Try.underlying23 (hval 0 23 v0 rfl rfl)
  obtain ⟨s, rfl, rfl, rfl, hs⟩ := open_string Try.underlying9 (hval 2 9 v2 rfl rfl) h2
  have k0 := h0
  have k1 := h1
  obtain ⟨F, hfr, hfo, hnc⟩ : ∃ F : Nat → Fld, FRow W W.heap.size a0 F len0 ∧ FOk W W.heap.size F len0 ∧ (a0 = none → cap0 = 0) := by
    obtain ⟨fuel, hf⟩ := h0
    exact open_fields (by simpa [Value.cells] using hf)
  obtain ⟨x, e1, okn, okv⟩ : ∃ x : Fld, v1 = .agg #[.slice x.nm.a x.nm.n x.nm.c, .slice x.vl.a x.vl.n x.vl.c] ∧ SlOk W W.heap.size x.nm ∧ SlOk W W.heap.size x.vl := by
    obtain ⟨c0, c1, y0, y1, m, hv, _, _, t0, t1⟩ := Joins.open_agg2 Try.underlying38 (by kernel_rfl) cells38 (hval 1 38 v1 rfl rfl) h1
    obtain ⟨b0, e0, ok0⟩ := open_bs t0
    obtain ⟨b1, e1, ok1⟩ := open_bs t1
    exact ⟨⟨b0, b1⟩, by rw [hv, e0, e1], ok0, ok1⟩
  clear hA0 hval0
  have hlaw := lawAK a0 len0 cap0 F x s W hfr hfo okn okv hnc hs
  rw [← e1] at hlaw
  refine hlaw.mono fun e W' ⟨he, bel⟩ => ?_
  subst he
  exact ⟨_, rfl, _, _, _, [], _, [], hW', trodAll_mk1 (shut_bool Try.underlying4 _), (trodAll_cons_mk (Below.trod laidOut (by kernel_rfl) (of_decide_eq_true (by kernel_rfl)) k0 bel lt0) (trodAll_cons_mk (Below.trod laidOut (by kernel_rfl) (of_decide_eq_true (by kernel_rfl)) k1 bel lt1) (trodAll_cons_mk (shut_string Try.underlying9 hs) trodAll_mk0))), rfl, bel.frame _, fun h => by cases h⟩

theorem over : Rows.fnFirstValueAppendKeepsFirstRow.holds Try.pinned (OpenSpec.ofChange Rows.fnFirstValueAppendKeepsFirstSpec) :=
  OpenClaim.holds_of_wide 5 Try.f5 rfl rfl rfl rfl rfl rfl rfl ⟨rfl, rfl, rfl, rfl, rfl⟩ rfl rfl rfl rfl rfl (by kernel_rfl) Try.func5 (by kernel_rfl)
    (of_decide_eq_true (by kernel_rfl)) (by unfold Func.isWrapper; first | (rw [if_pos (by decide +kernel)]; kernel_rfl) | (rw [if_neg (by decide +kernel)]; exact ⟨rfl, rfl⟩))
    (fun os started H enc _ => lifted os started H enc)
end Go.Proofs.Qxb6602294a.fnFirstValueAppendKeepsFirst

namespace Go.Proofs.Qxb6602294a
/-- THE STATEMENT. -/
theorem fnFirstValueAppendKeepsFirst_proved : Rows.FnFirstValueAppendKeepsFirstSaid := fnFirstValueAppendKeepsFirst.over
end Go.Proofs.Qxb6602294a
