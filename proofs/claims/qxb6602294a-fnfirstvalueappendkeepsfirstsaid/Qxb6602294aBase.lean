/- Shared words for the walks of this seat: a row of bytes below a block number; slices of fields. No walk here. -/
import Derived.Test.Qxb6602294aRows
import Derived.WalkKit
import Derived.WalkSpells
import Derived.WalkLawsBesides
namespace Go.Proofs.Qxb6602294a
open Go.RowKit

/-- The bytes 'l' lie at the address 'a', in a block below 'B'. (Nothing is said where 'l' is empty.) -/
def Row (w : World) (B : Nat) (a : Option Addr) (l : List Int) : Prop :=
  ∀ i, i < l.length → ∃ g o, a = some ⟨g, o, none⟩ ∧ g < B ∧ w.cell? ⟨g, o + i, none⟩ = some (.int .u8 (l.getD i 0))

/-- Every number of the list is a byte. -/
def AllBytes (l : List Int) : Prop := ∀ x ∈ l, 0 ≤ x ∧ x < 256

theorem Row.open {w : World} {B : Nat} {a : Option Addr} {l : List Int} (h : Row w B a l) (hl : 0 < l.length) :
    ∃ g o, a = some ⟨g, o, none⟩ ∧ g < B ∧ ∀ i, i < l.length → w.cell? ⟨g, o + i, none⟩ = some (.int .u8 (l.getD i 0)) := by
  obtain ⟨g, o, ha, hg, _⟩ := h 0 hl
  refine ⟨g, o, ha, hg, fun i hi => ?_⟩
  obtain ⟨g', o', ha', _, hc⟩ := h i hi
  rw [ha] at ha'
  simp only [Option.some.injEq, Addr.mk.injEq] at ha'
  obtain ⟨rfl, rfl, _⟩ := ha'
  exact hc

theorem Row.below {w w' : World} {B : Nat} {a : Option Addr} {l : List Int} (h : Row w B a l) (hb : Below B w w') : Row w' B a l := by
  intro i hi
  obtain ⟨g, o, ha, hg, hc⟩ := h i hi
  exact ⟨g, o, ha, hg, (hb.cell (p := ⟨g, o + i, none⟩) hg).trans hc⟩

theorem Row.mono {w : World} {B B' : Nat} {a : Option Addr} {l : List Int} (h : Row w B a l) (hb : B ≤ B') : Row w B' a l := by
  intro i hi
  obtain ⟨g, o, ha, hg, hc⟩ := h i hi
  exact ⟨g, o, ha, by omega, hc⟩

theorem Row.nil (w : World) (B : Nat) (a : Option Addr) : Row w B a [] := fun i hi => absurd hi (by simp)

/-- A cut of a row: 'x[k:..]'. -/
theorem Row.cut {w : World} {B : Nat} {a : Option Addr} {l : List Int} (h : Row w B a l) (k n m : Nat) (hm : m = k → (l.drop k).take n = []) :
    Row w B (if m = k then a else a.map (·.add (k * 1))) ((l.drop k).take n) := by
  by_cases e : m = k
  · rw [hm e]; exact Row.nil _ _ _
  · rw [if_neg e]
    intro i hi
    simp only [List.length_take, List.length_drop] at hi
    obtain ⟨g, o, ha, hg, hc⟩ := h (k + i) (by omega)
    refine ⟨g, o + k, by rw [ha]; simp [Addr.add], hg, ?_⟩
    rw [show o + k + i = o + (k + i) from by omega, hc]
    simp only [List.getD_eq_getElem?_getD, List.getElem?_take, List.getElem?_drop]
    rw [if_pos (by omega)]

/-- The same, where the walk has parted on the capacity. -/
theorem Row.drop {w : World} {B : Nat} {a : Option Addr} {l : List Int} (h : Row w B a l) (k : Nat) : Row w B (a.map (·.add k)) (l.drop k) := by
  intro i hi
  simp only [List.length_drop] at hi
  obtain ⟨g, o, ha, hg, hc⟩ := h (k + i) (by omega)
  refine ⟨g, o + k, by rw [ha]; simp [Addr.add], hg, ?_⟩
  rw [show o + k + i = o + (k + i) from by omega, hc]
  simp [List.getD_eq_getElem?_getD]

theorem Row.take {w : World} {B : Nat} {a : Option Addr} {l : List Int} (h : Row w B a l) (n : Nat) : Row w B a (l.take n) := by
  intro i hi
  simp only [List.length_take] at hi
  obtain ⟨g, o, ha, hg, hc⟩ := h i (by omega)
  refine ⟨g, o, ha, hg, ?_⟩
  rw [hc]
  simp only [List.getD_eq_getElem?_getD, List.getElem?_take]
  rw [if_pos (by omega)]

theorem Row.of_nil {w : World} {B : Nat} {a : Option Addr} {l : List Int} (h : l = []) : Row w B a l := by subst h; exact Row.nil _ _ _

theorem Try.cells5 : Try.prog.cellsOf 5 = 1 := by kernel_rfl
theorem Try.cells22 : Try.prog.cellsOf 22 = 1 := by kernel_rfl
theorem Try.info5 : (Try.prog.info? 5).map (fun i => (i.zero, i.size, i.bytes)) = some (some (.int .u8 0), 1, 1) := by kernel_rfl

theorem ret_bool {a b : Bool} (h : a = b) : Ending.returned (.bool a) = .returned (.bool b) := by rw [h]

end Go.Proofs.Qxb6602294a
