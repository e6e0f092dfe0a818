/- From what the row's step tells of a slice of bytes that came in to the words of the walks. -/
import Derived.Test.Qxb6601874aHead
namespace Go.Proofs.Qxb6601874a
open Go.RowKit

theorem bridge {w : World} {a : Option Addr} {len cap : Nat} {zs : List Int}
    (h : (a = none ∧ len = 0 ∧ cap = 0 ∧ zs = []) ∨
      ∃ x, a = some x ∧ len ≤ cap ∧ cap ≤ maxLen ∧ zs.length = cap ∧ (∀ i, i < zs.length → w.cell? (x.add i) = some (.int .u8 (zs.getD i 0))) ∧ ∀ n ∈ zs, (Lit.int .u8 n).wf = true) :
    Row w w.heap.size a (zs.take len) ∧ AllBytes (zs.take len) ∧ (zs.take len).length = len ∧ (a = none → cap = 0) := by
  rcases h with ⟨rfl, rfl, rfl, rfl⟩ | ⟨x, rfl, hl, _, hz, hc, hw⟩
  · exact ⟨Row.nil _ _ _, fun x hx => by simp at hx, rfl, fun _ => rfl⟩
  · refine ⟨?_, ?_, by rw [List.length_take]; omega, fun h => by cases h⟩
    · intro i hi
      rw [List.length_take] at hi
      have h0 := hc 0 (by omega)
      obtain ⟨g, o, s⟩ := x
      obtain rfl : s = none := by simpa [Addr.add] using World.cell?_spot h0
      have h1 := hc i (by omega)
      rw [addr_add] at h1
      refine ⟨g, o, rfl, World.block_lt_of_cell? w ⟨g, o + i, none⟩ h1, ?_⟩
      rw [h1]
      simp only [List.getD_eq_getElem?_getD, List.getElem?_take]
      rw [if_pos (by omega)]
    · intro y hy
      have := hw y (List.mem_of_mem_take hy)
      simp [Lit.wf, IntKind.min, IntKind.max, IntKind.signed, IntKind.bits] at this
      omega

theorem byte_of_wf {x : Int} (h : (Lit.int .u8 x).wf = true) : 0 ≤ x ∧ x < 256 := by
  simp [Lit.wf, IntKind.min, IntKind.max, IntKind.signed, IntKind.bits] at h
  omega

theorem word_of_wf {x : Int} (h : (Lit.int .u64 x).wf = true) : 0 ≤ x ∧ x < 18446744073709551616 := by
  simp [Lit.wf, IntKind.min, IntKind.max, IntKind.signed, IntKind.bits] at h
  omega
end Go.Proofs.Qxb6601874a
