/- The walks of zzCbEqual, zzCbIsSuffix, zzCbHeadWidth, ZZNewReader, ZZRest, ZZOK and the bounds laid by program. -/
import Derived.Test.Qxb6601874aConcat
import Derived.Deep.QuietTactic
import Derived.BigQuiet
namespace Go.Proofs.Qxb6601874a
open Go.RowKit

theorem take_eq_step {A B : List Int} {k : Nat} (ha : k < A.length) (hb : k < B.length) (h : A.take k = B.take k) (e : A.getD k 0 = B.getD k 0) : A.take (k + 1) = B.take (k + 1) := by
  rw [← take_step ha, ← take_step hb, h, e]

theorem ne_of_getD {A B : List Int} {k : Nat} (e : ¬ A.getD k 0 = B.getD k 0) : ¬ A = B := fun h => e (by rw [h])

set_option maxHeartbeats 400000 in
theorem equal_any (a b : Option Addr) (la lb ca cb : Nat) (A B : List Int) (w : World) (Ba Bb : Nat) (ha : Row w Ba a A) (hb : Row w Bb b B) (hla : A.length = la) (hlb : B.length = lb) (ma : la ≤ 4194304) :
    Calls Try.prog 18 #[.slice a la ca, .slice b lb cb] w fun e w' => e = .returned (.bool (decide (A = B))) ∧ ∃ n, w' = w.drewN n := by
  have HA := hide hla
  have HB := hide hlb
  have RA := hide ha
  have RB := hide hb
  clear hla hlb ha hb
  by_cases hne : la = lb
  · subst hne
    go_enter Try.func18, Try.ntmps18
    go_wp2
    go_loopw [5] (fun i wr => ∃ k n : Nat, k ≤ la ∧ i = .int .i64 k ∧ A.take k = B.take k ∧ wr = w.drewN n) (fun i _ => la - (intOf i).toNat)
    case atStart => exact ⟨0, 0, Nat.zero_le _, rfl, rfl, rfl⟩
    case round =>
      obtain ⟨k, n, hk, rfl, htk, rfl⟩ := hrel
      have HT := hide htk
      clear htk
      by_cases hlt : k < la
      · obtain ⟨g, o, rfl, hg, hck⟩ := (unhide RA).open (by have := unhide HA; omega)
        obtain ⟨g', o', rfl, hg', hck'⟩ := (unhide RB).open (by have := unhide HB; omega)
        obtain ⟨x, hx, ex⟩ : ∃ x, w.cell? ⟨g, o + k, none⟩ = some (.int .u8 x) ∧ Hid (A.getD k 0 = x) := ⟨_, hck k (by have := unhide HA; omega), rfl⟩
        obtain ⟨y, hy, ey⟩ : ∃ y, w.cell? ⟨g', o' + k, none⟩ = some (.int .u8 y) ∧ Hid (B.getD k 0 = y) := ⟨_, hck' k (by have := unhide HB; omega), rfl⟩
        clear hck hck'
        have hlz : (k : Int) < (la : Int) := by omega
        by_cases hxy : x = y
        · subst hxy
          go_wp2
          go_quiet (fail)
          go_wp2
          go_roundw
          case rel => exact ⟨k + 1, _, by omega, by go_num, take_eq_step (by have := unhide HA; omega) (by have := unhide HB; omega) (unhide HT) (by rw [unhide ex, unhide ey]), rfl⟩
          case measure => simp [intOf]; omega
        · have hb : (x == y) = false := by simpa using hxy
          go_wp2
          go_quiet (fail)
          go_wp2
          go_ret
          exact ⟨ret_bool (by rw [decide_eq_false]; exact ne_of_getD (k := k) (by rw [unhide ex, unhide ey]; exact hxy)), _, World.drewN_drewN ..⟩
      · go_wp2
        go_ret
        have h1 := unhide HA
        have h2 := unhide HB
        have h3 := unhide HT
        rw [List.take_of_length_le (by omega), List.take_of_length_le (by omega)] at h3
        exact ⟨ret_bool (by simp [h3]), n, rfl⟩
  · go_enter Try.func18, Try.ntmps18
    go_wp2
    go_ret
    refine ⟨ret_bool ?_, 0, rfl⟩
    rw [decide_eq_false]
    intro h
    have h1 := unhide HA
    have h2 := unhide HB
    rw [h] at h1
    omega

/-- 's reads as the last bytes of whole'. -/
def suffixB (S L : List Int) : Bool := decide (S.length ≤ L.length ∧ S = L.drop (L.length - S.length))

set_option maxHeartbeats 400000 in
theorem suffix_any (a b : Option Addr) (la lb ca cb : Nat) (A B : List Int) (w : World) (Ba Bb : Nat) (ha : Row w Ba a A) (hb : Row w Bb b B) (hla : A.length = la) (hlb : B.length = lb) (ma : lb ≤ 4194304) (hcb : lb ≤ cb) :
    Calls Try.prog 16 #[.slice a la ca, .slice b lb cb] w fun e w' => e = .returned (.bool (suffixB A B)) ∧ ∃ n, w' = w.drewN n := by
  have HA := hide hla
  have HB := hide hlb
  have RA := hide ha
  have RB := hide hb
  clear hla hlb ha hb
  by_cases hle : la ≤ lb
  · go_enter Try.func16, Try.ntmps16
    go_wp2_with fail
    case' inl => refine (equal_any a b la (lb - (lb - la)) ca 0 A (B.drop (lb - la)) w Ba Bb (unhide RA) (Row.of_nil (by have := unhide HB; exact List.drop_eq_nil_of_le (by omega))) (unhide HA) (by have := unhide HB; simp; omega) (by omega)).mono ?_
    case' inr => refine (equal_any a (b.map (·.add (lb - la))) la (lb - (lb - la)) ca (cb - (lb - la)) A (B.drop (lb - la)) w Ba Bb (unhide RA) ((unhide RB).drop _) (unhide HA) (by have := unhide HB; simp; omega) (by omega)).mono ?_
    all_goals
      rintro e w' ⟨rfl, n, rfl⟩
      go_wp2
      go_ret
      refine ⟨ret_bool ?_, n, rfl⟩
      unfold suffixB
      rw [unhide HA, unhide HB]
      simp [hle]
  · have hlt : (lb : Int) < (la : Int) := by omega
    go_enter Try.func16, Try.ntmps16
    go_wp2
    go_ret
    refine ⟨ret_bool ?_, 0, rfl⟩
    unfold suffixB
    rw [decide_eq_false]
    rw [unhide HA, unhide HB]
    exact fun h => hle h.1

theorem newReader_any (a : Option Addr) (len cap : Nat) (ok : Bool) (w : World) :
    Calls Try.prog 11 #[.slice a len cap, .bool ok] w fun e w' => e = .returned (.pointer (some ⟨w.heap.size, 0, none⟩)) ∧ Rd w' w.heap.size (.slice a len cap) ok ∧ Below w.heap.size w w' := by
  go_enter Try.func11, Try.ntmps11
  go_wp2
  go_ret
  refine ⟨rfl, ⟨?_, ?_, ?_, ?_, ?_⟩, (Below.refl _ _).alloc (Nat.le_refl _) _⟩ <;> simp [go_sem]

theorem rest_any (r : Nat) (a : Option Addr) (len cap : Nat) (ok : Bool) (w : World) (h : Rd w r (.slice a len cap) ok) :
    Calls Try.prog 13 #[.pointer (some ⟨r, 0, none⟩)] w fun e w' => e = .returned (.slice a len cap) ∧ w' = w := by
  have h0 := h.rest
  clear h
  go_enter Try.func13, Try.ntmps13
  go_wp2
  go_ret
  exact ⟨rfl, rfl⟩

theorem ok_any (r : Nat) (v : Value) (ok : Bool) (w : World) (h : Rd w r v ok) :
    Calls Try.prog 14 #[.pointer (some ⟨r, 0, none⟩)] w fun e w' => e = .returned (.bool ok) ∧ w' = w := by
  have h0 := h.ok
  clear h
  go_enter Try.func14, Try.ntmps14
  go_wp2
  go_ret
  exact ⟨rfl, rfl⟩

/-- How many bytes of argument the low five bits call for. -/
def widthOf (i : Int) : Int := if i < 24 then 0 else if i = 24 then 1 else if i = 25 then 2 else if i = 26 then 4 else if i = 27 then 8 else -1

theorem width_any (i : Int) (w : World) :
    Calls Try.prog 15 #[.int .u8 i] w fun e w' => e = .returned (.int .i64 (widthOf i)) ∧ w' = w := by
  go_enter Try.func15, Try.ntmps15
  go_wp2
  all_goals (go_ret; refine ⟨?_, rfl⟩; congr 2; unfold widthOf; simp_all; try omega)

theorem small9 (a : Option Addr) (len cap : Nat) (ok : Bool) (w : World) (h : len ≤ 1048576) :
    Calls Try.prog 9 #[.slice a len cap, .bool ok] w fun e w' => e = .returned (.bool true) ∧ w' = w := by
  go_enter Try.func9, Try.ntmps9
  go_wp2
  go_ret
  exact ⟨rfl, rfl⟩

theorem great9 (a : Option Addr) (len cap : Nat) (ok : Bool) (w : World) (h : ¬ len ≤ 1048576) (hm : len ≤ maxLen) :
    Calls Try.prog 9 #[.slice a len cap, .bool ok] w fun e w' => e = .returned (.bool false) ∧ w' = w := by
  unfold maxLen at hm
  go_enter Try.func9, Try.ntmps9
  go_wp2
  go_ret
  exact ⟨rfl, rfl⟩
end Go.Proofs.Qxb6601874a
