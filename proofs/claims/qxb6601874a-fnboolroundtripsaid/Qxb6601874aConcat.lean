/- The walk of zzCbConcat; the contract of zzCbClone whatever the slice. -/
import Derived.Test.Qxb6601874aCopy
namespace Go.Proofs.Qxb6601874a
open Go.RowKit

/-- A new row reads as what was laid in it. -/
theorem row_new (w : World) (l : List Int) (n : Nat) (h : l.length = n) (B : Nat) (hB : w.heap.size < B) : Row (w.alloc (.cells (cellsTo l n) 5)) B (some ⟨w.heap.size, 0, none⟩) l := by
  subst h
  intro i hi
  refine ⟨w.heap.size, 0, rfl, hB, ?_⟩
  rw [cellsTo_full, World.cell?_alloc_at (hn := rfl)]
  simp [List.getD_eq_getElem?_getD, hi]

theorem clone_any (a : Option Addr) (len cap : Nat) (l : List Int) (w : World) (hr : Row w w.heap.size a l) (hlen : l.length = len) (hmax : len ≤ 1048576) (hn : a = none → cap = 0) :
    Calls Try.prog 10 #[.slice a len cap] w fun e w' => ∃ a', e = .returned (.slice a' len len) ∧ Row w' w'.heap.size a' l ∧ Below w.heap.size w w' := by
  have fin : ∀ (e : Ending) (w' : World), e = .returned (.slice (some ⟨w.heap.size, 0, none⟩) len len) ∧ w' = w.alloc (.cells (cellsTo l len) 5) →
      ∃ a', e = .returned (.slice a' len len) ∧ Row w' w'.heap.size a' l ∧ Below w.heap.size w w' := by
    rintro e w' ⟨rfl, rfl⟩
    exact ⟨_, rfl, row_new w l len hlen _ (by simp), (Below.refl _ _).alloc (Nat.le_refl _) _⟩
  by_cases h0 : 0 < l.length
  · obtain ⟨g, o, rfl, hg, hc⟩ := hr.open h0
    exact (clone_some g o len cap l w hlen hmax hc hg).mono fin
  · obtain rfl : l = [] := List.eq_nil_of_length_eq_zero (by omega)
    obtain rfl : len = 0 := by simpa using hlen.symm
    cases a with
    | none =>
      obtain rfl := hn rfl
      refine (clone_none w).mono ?_
      rintro e w' ⟨rfl, rfl⟩
      exact ⟨none, rfl, Row.nil _ _ _, Below.refl _ _⟩
    | some x => exact (clone_empty x cap w).mono fin

theorem app_take {A C : List Int} {k : Nat} (h : k < C.length) (n : Nat) (hn : A.length + k < n) : (cellsTo (A ++ C.take k) n).setIfInBounds (A.length + k) (.int .u8 (C.getD k 0)) = cellsTo (A ++ C.take (k + 1)) n := by
  have := cellsTo_set (l := A ++ C.take k) (n := n) (C.getD k 0) (by simp; omega)
  rw [List.length_append, List.length_take, Nat.min_eq_left (by omega), List.append_assoc, take_step h] at this
  exact this

theorem app_next {A C : List Int} {k : Nat} (h : k < C.length) (n : Nat) (hn : A.length + k < n) : (cellsTo (A ++ C.take k) n)[A.length + k]? = some (.int .u8 0) := by
  have := cellsTo_next (l := A ++ C.take k) (n := n) (by simp; omega)
  rwa [List.length_append, List.length_take, Nat.min_eq_left (by omega)] at this

set_option maxHeartbeats 1000000 in
theorem concat_any (a b c : Option Addr) (la lb lc ca cb cc : Nat) (A B C : List Int) (w : World) (ha : Row w w.heap.size a A) (hb : Row w w.heap.size b B) (hc : Row w w.heap.size c C)
    (hla : A.length = la) (hlb : B.length = lb) (hlc : C.length = lc) (ma : la ≤ 1048576) (mb : lb ≤ 1048576) (mc : lc ≤ 1048576) :
    Calls Try.prog 20 #[.slice a la ca, .slice b lb cb, .slice c lc cc] w fun e w' => e = .returned (.slice (some ⟨w.heap.size, 0, none⟩) (la + lb + lc) (la + lb + lc)) ∧ w' = w.alloc (.cells (cellsTo (A ++ B ++ C) (la + lb + lc)) 5) := by
  have hmk := run_make_row' (P := Try.prog) 22 5 (.int .u8 0) 1 Try.underlying22 Try.info5 rfl .i64 .i64 (la + lb + lc) (by omega) (by omega)
  simp only [Int.natCast_add] at hmk
  have HA := hide hla
  have HB := hide hlb
  have HC := hide hlc
  have RA := hide ha
  have RB := hide hb
  have RC := hide hc
  clear hla hlb hlc ha hb hc
  go_enter Try.func20, Try.ntmps20
  go_wp2
  rw [← cellsTo_nil]
  clear hmk
  go_loopw [8, 9] (fun j i wr => ∃ k : Nat, k ≤ la ∧ i = .int .i64 k ∧ j = .int .i64 k ∧ wr = w.alloc (.cells (cellsTo (A.take k) (la + lb + lc)) 5)) (fun _ i _ => la - (intOf i).toNat)
  case atStart => exact ⟨0, Nat.zero_le _, rfl, rfl, rfl⟩
  case round =>
    obtain ⟨k, hk, rfl, rfl, rfl⟩ := hrel
    by_cases hlt : k < la
    · obtain ⟨g, o, rfl, hg, hck⟩ := (unhide RA).open (by have := unhide HA; omega)
      obtain ⟨x, hck, hset⟩ : ∃ x, w.cell? ⟨g, o + k, none⟩ = some (.int .u8 x) ∧ (cellsTo (A.take k) (la + lb + lc)).setIfInBounds k (.int .u8 x) = cellsTo (A.take (k + 1)) (la + lb + lc) :=
        ⟨_, hck k (by have := unhide HA; omega), take_set (by have := unhide HA; omega) (by omega)⟩
      have hnext := take_next (l := A) (k := k) (n := la + lb + lc) (by have := unhide HA; omega) (by omega)
      have HS := hide hset
      clear hset
      go_wp2
      go_roundw
      case rel => exact ⟨k + 1, by omega, by go_num, by go_num, by rw [unhide HS]⟩
      case measure => simp [intOf]; omega
    · obtain rfl : k = la := by omega
      rw [show A.take k = A from List.take_of_length_le (by have := unhide HA; omega)]
      go_wp2
      go_loopw [8, 10] (fun j i wr => ∃ q : Nat, q ≤ lb ∧ i = .int .i64 q ∧ j = .int .i64 (k + q : Nat) ∧ wr = w.alloc (.cells (cellsTo (A ++ B.take q) (k + lb + lc)) 5)) (fun _ i _ => lb - (intOf i).toNat)
      case atStart => exact ⟨0, Nat.zero_le _, rfl, rfl, by simp⟩
      case round =>
        obtain ⟨q, hq, rfl, rfl, rfl⟩ := hrel
        simp only [Int.natCast_add]
        by_cases hltq : q < lb
        · obtain ⟨g, o, rfl, hg, hck⟩ := (unhide RB).open (by have := unhide HB; omega)
          obtain ⟨x, hck, hset⟩ : ∃ x, w.cell? ⟨g, o + q, none⟩ = some (.int .u8 x) ∧ (cellsTo (A ++ B.take q) (k + lb + lc)).setIfInBounds (k + q) (.int .u8 x) = cellsTo (A ++ B.take (q + 1)) (k + lb + lc) :=
            ⟨_, hck q (by have := unhide HB; omega), by have h1 := app_take (A := A) (C := B) (k := q) (by have := unhide HB; omega) (k + lb + lc) (by have := unhide HA; omega); rwa [unhide HA] at h1⟩
          have hnext : (cellsTo (A ++ B.take q) (k + lb + lc))[k + q]? = some (.int .u8 0) := by
            have h1 := app_next (A := A) (C := B) (k := q) (by have := unhide HB; omega) (k + lb + lc) (by have := unhide HA; omega)
            rwa [unhide HA] at h1
          have HS := hide hset
          clear hset
          go_wp2
          go_roundw
          case rel => exact ⟨q + 1, by omega, by go_num, by go_num, by rw [unhide HS]⟩
          case measure => simp [intOf]; omega
        · obtain rfl : q = lb := by omega
          rw [show B.take q = B from List.take_of_length_le (by have := unhide HB; omega)]
          go_wp2
          go_loopw [8, 11] (fun j i wr => ∃ p : Nat, p ≤ lc ∧ i = .int .i64 p ∧ j = .int .i64 (k + q + p : Nat) ∧ wr = w.alloc (.cells (cellsTo (A ++ B ++ C.take p) (k + q + lc)) 5)) (fun _ i _ => lc - (intOf i).toNat)
          case atStart => exact ⟨0, Nat.zero_le _, rfl, by simp, by simp⟩
          case round =>
            obtain ⟨p, hp, rfl, rfl, rfl⟩ := hrel
            simp only [Int.natCast_add]
            have HL : Hid ((A ++ B).length = k + q) := by have h1 := unhide HA; have h2 := unhide HB; unfold Hid; simp; omega
            by_cases hltp : p < lc
            · obtain ⟨g, o, rfl, hg, hck⟩ := (unhide RC).open (by have := unhide HC; omega)
              obtain ⟨x, hck, hset⟩ : ∃ x, w.cell? ⟨g, o + p, none⟩ = some (.int .u8 x) ∧ (cellsTo (A ++ B ++ C.take p) (k + q + lc)).setIfInBounds (k + q + p) (.int .u8 x) = cellsTo (A ++ B ++ C.take (p + 1)) (k + q + lc) :=
                ⟨_, hck p (by have := unhide HC; omega), by have h1 := app_take (A := A ++ B) (C := C) (k := p) (by have := unhide HC; omega) (k + q + lc) (by have := unhide HL; omega); rwa [unhide HL] at h1⟩
              have hnext : (cellsTo (A ++ B ++ C.take p) (k + q + lc))[k + q + p]? = some (.int .u8 0) := by
                have h1 := app_next (A := A ++ B) (C := C) (k := p) (by have := unhide HC; omega) (k + q + lc) (by have := unhide HL; omega)
                rwa [unhide HL] at h1
              have HS := hide hset
              clear hset
              generalize A ++ B ++ C.take p = D at *
              obtain ⟨E, HE⟩ : ∃ E, Hid (A ++ B ++ C.take (p + 1) = E) := ⟨_, rfl⟩
              rw [unhide HE] at HS
              go_wp2
              go_roundw
              case rel => exact ⟨p + 1, by omega, by go_num, by go_num, by rw [unhide HS, unhide HE]⟩
              case measure => simp [intOf]; omega
            · obtain rfl : p = lc := by omega
              rw [show C.take p = C from List.take_of_length_le (by have := unhide HC; omega)]
              go_wp2
              go_ret
              exact ⟨rfl, by rw [List.append_assoc]⟩
end Go.Proofs.Qxb6601874a
