/- The walk of cloneBytes. -/
import Derived.Test.Qxb6602294aBase
import Derived.Deep.OwnRows
namespace Go.Proofs.Qxb6602294a
open Go.RowKit

/-- The cells of a new row of 'n' bytes whose first ones are 'l'. -/
def cellsTo (l : List Int) (n : Nat) : Array Value := ((l.map (Value.int .u8)) ++ List.replicate (n - l.length) (Value.int .u8 0)).toArray

theorem cellsTo_nil (n : Nat) : cellsTo [] n = madeCells #[.int .u8 0] n := by
  apply Array.toList_inj.1
  rw [toList_madeCells_one]
  simp [cellsTo]

theorem cellsTo_full (l : List Int) : cellsTo l l.length = (l.map (Value.int .u8)).toArray := by simp [cellsTo]

theorem cellsTo_next {l : List Int} {n : Nat} (h : l.length < n) : (cellsTo l n)[l.length]? = some (.int .u8 0) := by
  have h2 : 0 < n - l.length := by omega
  simp [cellsTo, h2]

theorem cellsTo_set {l : List Int} {n : Nat} (x : Int) (h : l.length < n) : (cellsTo l n).setIfInBounds l.length (.int .u8 x) = cellsTo (l ++ [x]) n := by
  obtain ⟨m, hm⟩ : ∃ m, n - l.length = m + 1 := ⟨n - l.length - 1, by omega⟩
  unfold cellsTo
  apply Array.toList_inj.1
  simp only [Array.toList_setIfInBounds, List.map_append, List.length_append, List.map_cons, List.map_nil, List.length_cons, List.length_nil]
  rw [hm, show n - (l.length + (0 + 1)) = m from by omega, List.replicate_succ]
  rw [List.set_append_right _ _ (by simp)]
  simp

theorem take_step {l : List Int} {k : Nat} (h : k < l.length) : l.take k ++ [l.getD k 0] = l.take (k + 1) := by
  rw [List.take_succ_eq_append_getElem h, List.getD_eq_getElem?_getD, List.getElem?_eq_getElem h]; rfl

theorem take_next {l : List Int} {k n : Nat} (h : k ≤ l.length) (hn : k < n) : (cellsTo (l.take k) n)[k]? = some (.int .u8 0) := by
  have := cellsTo_next (l := l.take k) (n := n) (by simp; omega)
  rwa [List.length_take, Nat.min_eq_left h] at this

theorem take_set {l : List Int} {k n : Nat} (h : k < l.length) (hn : k < n) : (cellsTo (l.take k) n).setIfInBounds k (.int .u8 (l.getD k 0)) = cellsTo (l.take (k + 1)) n := by
  have := cellsTo_set (l := l.take k) (n := n) (l.getD k 0) (by simp; omega)
  rwa [List.length_take, Nat.min_eq_left (by omega), take_step h] at this

theorem hide {p : Prop} (h : p) : Hid p := h
theorem unhide {p : Prop} (h : Hid p) : p := h

set_option maxHeartbeats 400000 in
theorem clone_some (g o : Nat) (len cap : Nat) (l : List Int) (w : World) (hlen : l.length = len) (hmax : len ≤ 1048576)
    (hc : ∀ i, i < l.length → w.cell? ⟨g, o + i, none⟩ = some (.int .u8 (l.getD i 0))) (hg : g < w.heap.size) :
    Calls Try.prog 8 #[.slice (some ⟨g, o, none⟩) len cap] w fun e w' => e = .returned (.slice (some ⟨w.heap.size, 0, none⟩) len len) ∧ w' = w.alloc (.cells (cellsTo l len) 5) := by
  have hmk := run_make_row' (P := Try.prog) 22 5 (.int .u8 0) 1 Try.underlying22 Try.info5 rfl .i64 .i64 len (by omega) (by omega)
  have hnil := fun w => Lib.run_eql_slice_nil (P := Try.prog) w 22 5 (some ⟨g, o, none⟩) len cap 0 0 Try.underlying22
  go_enter Try.func8, Try.ntmps8
  go_wp2
  rw [← cellsTo_nil]
  clear hmk hnil
  go_loopw [4] (fun i wr => ∃ k : Nat, k ≤ len ∧ i = .int .i64 k ∧ wr = w.alloc (.cells (cellsTo (l.take k) len) 5)) (fun i _ => len - (intOf i).toNat)
  case atStart => exact ⟨0, Nat.zero_le _, rfl, rfl⟩
  case round =>
    obtain ⟨k, hk, rfl, rfl⟩ := hrel
    by_cases hlt : k < len
    · obtain ⟨x, hck, hset⟩ : ∃ x, w.cell? ⟨g, o + k, none⟩ = some (.int .u8 x) ∧ (cellsTo (l.take k) len).setIfInBounds k (.int .u8 x) = cellsTo (l.take (k + 1)) len := ⟨_, hc k (by omega), take_set (by omega) hlt⟩
      have hnext := take_next (l := l) (k := k) (n := len) (by omega) hlt
      have HS := hide hset
      clear hset hc
      go_wp2
      go_roundw
      case rel => exact ⟨k + 1, by omega, by go_num, by rw [unhide HS]⟩
      case measure => simp [intOf]; omega
    · go_wp2
      go_ret
      exact ⟨rfl, by rw [List.take_of_length_le (by omega)]⟩

/-- An empty slice that is not nil: a new row without cells. -/
theorem clone_empty (x : Addr) (cap : Nat) (w : World) :
    Calls Try.prog 8 #[.slice (some x) 0 cap] w fun e w' => e = .returned (.slice (some ⟨w.heap.size, 0, none⟩) 0 0) ∧ w' = w.alloc (.cells (cellsTo [] 0) 5) := by
  have hmk := run_make_row' (P := Try.prog) 22 5 (.int .u8 0) 1 Try.underlying22 Try.info5 rfl .i64 .i64 0 (by omega) (by omega)
  simp only [Int.natCast_zero] at hmk
  have hnil := fun w => Lib.run_eql_slice_nil (P := Try.prog) w 22 5 (some x) 0 cap 0 0 Try.underlying22
  go_enter Try.func8, Try.ntmps8
  go_wp2
  rw [← cellsTo_nil]
  clear hmk hnil
  go_loopw [4] (fun i wr => i = .int .i64 0 ∧ wr = w.alloc (.cells (cellsTo [] 0) 5)) (fun i _ => 0)
  case atStart => exact ⟨rfl, rfl⟩
  case round =>
    obtain ⟨rfl, rfl⟩ := hrel
    go_wp2
    go_ret
    exact ⟨rfl, rfl⟩

theorem clone_none (w : World) :
    Calls Try.prog 8 #[.slice none 0 0] w fun e w' => e = .returned (.slice none 0 0) ∧ w' = w := by
  have hnil := fun w => Lib.run_eql_slice_nil (P := Try.prog) w 22 5 none 0 0 0 0 Try.underlying22
  go_enter Try.func8, Try.ntmps8
  go_wp2
  go_ret
  exact ⟨rfl, rfl⟩
/-- A new row reads as what was laid in it. -/
theorem row_new (w : World) (l : List Int) (n : Nat) (h : l.length = n) (B : Nat) (hB : w.heap.size < B) : Row (w.alloc (.cells (cellsTo l n) 5)) B (some ⟨w.heap.size, 0, none⟩) l := by
  subst h
  intro i hi
  refine ⟨w.heap.size, 0, rfl, hB, ?_⟩
  rw [cellsTo_full, World.cell?_alloc_at (hn := rfl)]
  simp [List.getD_eq_getElem?_getD, hi]

theorem clone_any (a : Option Addr) (len cap : Nat) (l : List Int) (w : World) (hr : Row w w.heap.size a l) (hlen : l.length = len) (hmax : len ≤ 1048576) (hn : a = none → cap = 0) :
    Calls Try.prog 8 #[.slice a len cap] w fun e w' => ∃ a', e = .returned (.slice a' len len) ∧ Row w' w'.heap.size a' l ∧ Below w.heap.size w w' := by
  have fin : ∀ (e : Ending) (w' : World), e = .returned (.slice (some ⟨w.heap.size, 0, none⟩) len len) ∧ w' = w.alloc (.cells (cellsTo l len) 5) →
      ∃ a', e = .returned (.slice a' len len) ∧ Row w' w'.heap.size a' l ∧ Below w.heap.size w w' := by
    rintro e w' ⟨rfl, rfl⟩
    exact ⟨_, rfl, row_new w l len hlen _ (by simp), (Below.refl _ _).alloc (Nat.le_refl _) _⟩
  by_cases h0 : 0 < l.length
  · obtain ⟨g, o, rfl, hg, hc⟩ := hr.open h0
    exact (clone_some g o len cap l w hlen hmax hc hg).mono fin
  · obtain rfl : l = [] := List.eq_nil_of_length_eq_zero (by omega)
    obtain rfl : len = 0 := by simpa using hlen.symm
    cases a with
    | none =>
      obtain rfl := hn rfl
      refine (clone_none w).mono ?_
      rintro e w' ⟨rfl, rfl⟩
      exact ⟨none, rfl, Row.nil _ _ _, Below.refl _ _⟩
    | some x => exact (clone_empty x cap w).mono fin

end Go.Proofs.Qxb6602294a
