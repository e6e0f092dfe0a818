/- From the reading of the arguments to the words of the walks. -/
import Derived.Test.Qxb6602294aFirst
import Derived.ProofKit
import Derived.Deep.SlicePairs
namespace Go.Proofs.Qxb6602294a
open Go.ChangeShapes Go.WideShapes Go.ChangeAt Go.RowKit

theorem addr_add (g o k : Nat) : (⟨g, o, none⟩ : Addr).add k = ⟨g, o + k, none⟩ := by unfold Addr.add; split <;> simp_all

theorem byte_of_wf {x : Int} (h : (Lit.int .u8 x).wf = true) : 0 ≤ x ∧ x < 256 := by
  simp [Lit.wf, IntKind.min, IntKind.max, IntKind.signed, IntKind.bits] at h
  omega

theorem row_of_cells {w : World} {x : Addr} {zs : List Int} {len : Nat} (hl : len ≤ zs.length) (hc : ∀ i, i < zs.length → w.cell? (x.add i) = some (.int .u8 (zs.getD i 0))) : Row w w.heap.size (some x) (zs.take len) := by
  intro i hi
  rw [List.length_take] at hi
  have h0 := hc 0 (by omega)
  obtain ⟨g, o, s⟩ := x
  obtain rfl : s = none := by simpa [Addr.add] using World.cell?_spot h0
  have h1 := hc i (by omega)
  rw [addr_add] at h1
  refine ⟨g, o, rfl, World.block_lt_of_cell? w ⟨g, o + i, none⟩ h1, ?_⟩
  rw [h1]
  simp only [List.getD_eq_getElem?_getD, List.getElem?_take]
  rw [if_pos (by omega)]

/-- A slice of bytes that is read. -/
theorem open_bs {H : Type} {enc : TypeId × Value → H} {w : World} {base : Nat} {spare : Nat → Bool} {held : Bool} {fuel : Nat} {v : Value} {x : DataW H × List MemPlace} (h : DataW.trod enc Try.prog w base spare held fuel 22 [v] = some x) :
    ∃ b : Bs, v = .slice b.a b.n b.c ∧ SlOk w w.heap.size b := by
  rcases open_ints Try.underlying22 Try.underlying5 (by kernel_rfl) h with ⟨hcs, _⟩ | ⟨a, len, cap, zs, hcs, _, hl, hm, hz, _, hcell, hwz⟩
  · obtain rfl : v = .slice none 0 0 := by simpa using hcs
    exact ⟨⟨none, 0, 0, []⟩, rfl, Row.nil _ _ _, rfl, fun x hx => by simp at hx, fun _ => rfl⟩
  · obtain rfl : v = .slice (some a) len cap := by simpa using hcs
    have hlz : len ≤ zs.length := by rw [hz]; split <;> omega
    exact ⟨⟨some a, len, cap, zs.take len⟩, rfl, row_of_cells hlz hcell, (by show (zs.take len).length = len; rw [List.length_take]; omega), fun y hy => byte_of_wf (hwz y (List.mem_of_mem_take hy)), fun h => by cases h⟩

theorem choose_fld {n : Nat} {p : Nat → Fld → Prop} (h : ∀ i, i < n → ∃ x, p i x) : ∃ f : Nat → Fld, ∀ i, i < n → p i (f i) := by
  classical
  refine ⟨fun i => if hi : i < n then Classical.choose (h i hi) else ⟨⟨none, 0, 0, []⟩, ⟨none, 0, 0, []⟩⟩, fun i hi => ?_⟩
  simp only [dif_pos hi]
  exact Classical.choose_spec (h i hi)

/-- A slice of fields that is read. -/
theorem open_fields {H : Type} {enc : TypeId × Value → H} {w : World} {base : Nat} {spare : Nat → Bool} {held : Bool} {fuel : Nat} {a : Option Addr} {len cap : Nat} {x : DataW H × List MemPlace} (h : DataW.trod enc Try.prog w base spare held fuel 23 [.slice a len cap] = some x) :
    ∃ F : Nat → Fld, FRow w w.heap.size a F len ∧ FOk w w.heap.size F len ∧ (a = none → cap = 0) := by
  rcases Deep.open_slice_pairs Try.underlying23 Try.underlying38 (by kernel_rfl) rfl rfl (by kernel_rfl) (by kernel_rfl) h with ⟨hcs, _⟩ | ⟨a', len', cap', m, n, V0, V1, D0, D1, P0, P1, hcs, _, hl, _, hm, _, hx⟩
  · simp at hcs
    obtain ⟨rfl, rfl, rfl⟩ := hcs
    exact ⟨fun _ => ⟨⟨none, 0, 0, []⟩, ⟨none, 0, 0, []⟩⟩, fun i hi => absurd hi (by omega), fun i hi => absurd hi (by omega), fun _ => rfl⟩
  · simp at hcs
    obtain ⟨rfl, rfl, rfl⟩ := hcs
    have hlm : len ≤ m := by rw [hm]; split <;> omega
    have each : ∀ i, i < len → ∃ f : Fld, V0 i = .slice f.nm.a f.nm.n f.nm.c ∧ V1 i = .slice f.vl.a f.vl.n f.vl.c ∧ SlOk w w.heap.size f.nm ∧ SlOk w w.heap.size f.vl := by
      intro i hi
      obtain ⟨_, _, t0, t1⟩ := hx i (by omega)
      obtain ⟨b0, e0, k0⟩ := open_bs t0
      obtain ⟨b1, e1, k1⟩ := open_bs t1
      exact ⟨⟨b0, b1⟩, e0, e1, k0, k1⟩
    obtain ⟨F, hF⟩ := choose_fld each
    refine ⟨F, ?_, fun i hi => ⟨(hF i hi).2.2.1, (hF i hi).2.2.2⟩, fun h => by cases h⟩
    intro i hi
    obtain ⟨c0, c1, _, _⟩ := hx i (by omega)
    rw [(hF i hi).1] at c0
    rw [(hF i hi).2.1] at c1
    obtain ⟨g, o, s⟩ := a'
    obtain rfl : s = none := by simpa [Addr.add] using World.cell?_spot (hx 0 (by omega)).1
    rw [addr_add] at c0 c1
    exact ⟨g, o, rfl, World.block_lt_of_cell? w ⟨g, o + i * 2, none⟩ c0, c0, c1⟩
end Go.Proofs.Qxb6602294a
