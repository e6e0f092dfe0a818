/- The walks of (*Reader).Bool, Expect, String. -/
import Derived.Test.Qxb6601874aHead
namespace Go.Proofs.Qxb6601874a
open Go.RowKit

/-- What Bool answers: the value, whether it accepts, how many bytes it moves. -/
structure BoolAns where
  v : Bool
  ok : Bool
  k : Nat

def boolOf : Bool → List Int → BoolAns
  | true, x :: _ => if x = 244 then ⟨false, true, 1⟩ else if x = 245 then ⟨true, true, 1⟩ else ⟨false, false, 0⟩
  | _, _ => ⟨false, false, 0⟩

set_option maxHeartbeats 400000 in
theorem bool_dead (r : Nat) (a : Option Addr) (len cap : Nat) (ok : Bool) (w : World) (h : Rd w r (.slice a len cap) ok) (hd : ok = false ∨ len = 0) :
    Calls Try.prog 25 #[.pointer (some ⟨r, 0, none⟩)] w fun e w' => e = .returned (.bool false) ∧ w' = w.setCell ⟨r, 1, none⟩ (.bool false) := by
  obtain ⟨h0, h1, f0, f1, hs⟩ := h
  cases ok with
  | false =>
    go_enter Try.func25, Try.ntmps25
    go_wp2
    go_ret
    exact ⟨rfl, rfl⟩
  | true =>
    obtain rfl : len = 0 := by simpa using hd
    go_enter Try.func25, Try.ntmps25
    go_wp2
    go_ret
    exact ⟨rfl, rfl⟩

set_option maxHeartbeats 400000 in
theorem bool_other (r g o : Nat) (len cap : Nat) (x : Int) (w : World) (h : Rd w r (.slice (some ⟨g, o, none⟩) len cap) true) (hlen : 0 < len) (hx : w.cell? ⟨g, o, none⟩ = some (.int .u8 x)) (h4 : ¬ x = 244) (h5 : ¬ x = 245) :
    Calls Try.prog 25 #[.pointer (some ⟨r, 0, none⟩)] w fun e w' => e = .returned (.bool false) ∧ w' = w.setCell ⟨r, 1, none⟩ (.bool false) := by
  obtain ⟨h0, h1, f0, f1, hs⟩ := h
  have hl0 : (0 : Int) < (len : Int) := by omega
  have hlb : ((len : Int) == 0) = false := by simp; omega
  have h4' : (x != 244) = true := by simpa using h4
  have h5' : (x != 245) = true := by simpa using h5
  go_enter Try.func25, Try.ntmps25
  go_wp2
  go_ret
  exact ⟨rfl, rfl⟩

set_option maxHeartbeats 400000 in
theorem bool_yes (r g o : Nat) (len cap : Nat) (x : Int) (w : World) (h : Rd w r (.slice (some ⟨g, o, none⟩) len cap) true) (hlen : 0 < len) (hx : w.cell? ⟨g, o, none⟩ = some (.int .u8 x)) (h4 : x = 244 ∨ x = 245) :
    Calls Try.prog 25 #[.pointer (some ⟨r, 0, none⟩)] w fun e w' => e = .returned (.bool (decide (x = 245))) ∧ ∃ a', stepA g o cap 1 a' ∧ w' = w.setCell ⟨r, 0, none⟩ (.slice a' (len - 1) (cap - 1)) := by
  obtain ⟨h0, h1, f0, f1, hs⟩ := h
  have hl0 : (0 : Int) < (len : Int) := by omega
  have hlb : ((len : Int) == 0) = false := by simp; omega
  rcases h4 with rfl | rfl
  all_goals
    go_enter Try.func25, Try.ntmps25
    go_wp2
    case' inl => go_ret; exact ⟨rfl, _, .inl ⟨by first | rfl | assumption, rfl⟩, by first | rfl | (subst_vars; rfl)⟩
    case' inr => go_ret; exact ⟨rfl, _, .inr rfl, rfl⟩

theorem bool_any (r : Nat) (a : Option Addr) (len cap : Nat) (ok : Bool) (l : List Int) (w : World) (B : Nat) (h : Rd w r (.slice a len cap) ok) (hr : Row w B a l) (hB : B ≤ r) (hl : l.length = len) (hcap : len ≤ cap) :
    Calls Try.prog 25 #[.pointer (some ⟨r, 0, none⟩)] w fun e w' => ∃ a', e = .returned (.bool (boolOf ok l).v) ∧
      Rd w' r (.slice a' (len - (boolOf ok l).k) (cap - (boolOf ok l).k)) (boolOf ok l).ok ∧ Row w' B a' (l.drop (boolOf ok l).k) ∧ Below r w w' := by
  have fin : boolOf ok l = ⟨false, false, 0⟩ → ∀ (e : Ending) (w' : World), e = .returned (.bool false) ∧ w' = w.setCell ⟨r, 1, none⟩ (.bool false) → ∃ a', e = .returned (.bool (boolOf ok l).v) ∧
      Rd w' r (.slice a' (len - (boolOf ok l).k) (cap - (boolOf ok l).k)) (boolOf ok l).ok ∧ Row w' B a' (l.drop (boolOf ok l).k) ∧ Below r w w' := by
    rintro he e w' ⟨rfl, rfl⟩
    rw [he]
    have hbl : Below r w (w.setCell ⟨r, 1, none⟩ (.bool false)) := below_set (Below.refl _ _) 1 _
    exact ⟨a, rfl, by simpa using h.set1 false, by simpa using hr.below (hbl.mono hB), hbl⟩
  cases ok with
  | false => exact (bool_dead r a len cap false w h (.inl rfl)).mono (fin rfl)
  | true =>
    cases l with
    | nil => exact (bool_dead r a len cap true w h (.inr (by simpa using hl.symm))).mono (fin rfl)
    | cons x t =>
      obtain ⟨g, o, rfl, hg, hc⟩ := hr.open (by simp)
      have hx : w.cell? ⟨g, o, none⟩ = some (.int .u8 x) := by simpa using hc 0 (by simp)
      have hlen : t.length + 1 = len := by simpa using hl
      by_cases h4 : x = 244 ∨ x = 245
      · have he : boolOf true (x :: t) = ⟨decide (x = 245), true, 1⟩ := by rcases h4 with rfl | rfl <;> simp [boolOf]
        rw [he]
        refine (bool_yes r g o len cap x w h (by omega) hx h4).mono ?_
        rintro e w' ⟨rfl, a', hs, rfl⟩
        have hbl : Below r w (w.setCell ⟨r, 0, none⟩ (.slice a' (len - 1) (cap - 1))) := below_set (Below.refl _ _) 0 _
        exact ⟨a', rfl, h.set0 _, (stepA_row hs hr (by omega)).below (hbl.mono hB), hbl⟩
      · have h5 : ¬ x = 244 := fun h => h4 (.inl h)
        have h6 : ¬ x = 245 := fun h => h4 (.inr h)
        exact (bool_other r g o len cap x w h (by omega) hx h5 h6).mono (fin (by simp [boolOf, h5, h6]))

set_option maxHeartbeats 400000 in
theorem expect_any (r : Nat) (a : Option Addr) (len cap : Nat) (ok : Bool) (l : List Int) (major : Int) (w : World) (B : Nat) (h : Rd w r (.slice a len cap) ok) (hr : Row w B a l) (hB : B ≤ r) (hl : l.length = len) (hcap : len ≤ cap) (hb : AllBytes l) :
    Calls Try.prog 27 #[.pointer (some ⟨r, 0, none⟩), .int .u8 major] w fun e w' => ∃ a', e = .returned (.int .u64 (headOf ok l).n) ∧
      Rd w' r (.slice a' (len - (headOf ok l).k) (cap - (headOf ok l).k)) ((headOf ok l).ok && decide ((headOf ok l).m = major)) ∧ Row w' B a' (l.drop (headOf ok l).k) ∧ Below r w w' := by
  have hh := head_any r a len cap ok l w B h hr hB hl hcap hb
  generalize headOf ok l = H at *
  have HH := hide hh
  clear hh h hr hl hb
  by_cases hm : H.m = major
  · have hmb : (H.m != major) = false := by simpa using hm
    have Hm := hide hm
    clear hm
    go_enter Try.func27, Try.ntmps27
    go_wp2_with (go_at_call 12; refine (unhide HH).mono ?_; rintro e w' ⟨a', rfl, h1, h2, h3⟩)
    go_ret
    exact ⟨a', rfl, by rw [decide_eq_true (unhide Hm), Bool.and_true]; exact h1, h2, h3⟩
  · have hmb : (H.m != major) = true := by simpa using hm
    have Hm := hide hm
    clear hm
    go_enter Try.func27, Try.ntmps27
    go_wp2_with (go_at_call 12; refine (unhide HH).mono ?_; rintro e w' ⟨a', rfl, h1, h2, h3⟩; have c1 := h1.ok; have f1 := h1.frozen1)
    go_ret
    have hbl : Below r w (w'.setCell ⟨r, 1, none⟩ (.bool false)) := below_set h3 1 _
    exact ⟨a', rfl, by rw [decide_eq_false (unhide Hm), Bool.and_false]; exact h1.set1 false, h2.below ((below_set (Below.refl _ _) 1 _).mono hB), hbl⟩

/-- Whether String accepts: the head is read, of that major type, and its argument is at most the bytes left behind it. -/
def strOk (ok : Bool) (l : List Int) (major : Int) : Bool :=
  ((headOf ok l).ok && decide ((headOf ok l).m = major)) && decide ((headOf ok l).n ≤ (l.drop (headOf ok l).k).length)

set_option maxHeartbeats 400000 in
theorem string_no (r : Nat) (a : Option Addr) (len cap : Nat) (ok : Bool) (l : List Int) (major : Int) (w : World) (B : Nat) (h : Rd w r (.slice a len cap) ok) (hr : Row w B a l) (hB : B ≤ r) (hl : l.length = len) (hcap : len ≤ cap) (hb : AllBytes l)
    (hlen : len ≤ 4194304) (hno : strOk ok l major = false) :
    Calls Try.prog 22 #[.pointer (some ⟨r, 0, none⟩), .int .u8 major] w fun e w' => ∃ a', e = .returned (.slice none 0 0) ∧
      Rd w' r (.slice a' (len - (headOf ok l).k) (cap - (headOf ok l).k)) false ∧ Row w' B a' (l.drop (headOf ok l).k) ∧ Below r w w' := by
  have hh := expect_any r a len cap ok l major w B h hr hB hl hcap hb
  unfold strOk at hno
  rw [List.length_drop, hl] at hno
  generalize headOf ok l = H at *
  have HH := hide hh
  clear hh h hr hl hb
  cases hk : (H.ok && decide (H.m = major)) with
  | false =>
    rw [hk] at HH
    clear hno hk
    go_enter Try.func22, Try.ntmps22
    go_wp2_with (go_at_call 27; refine (unhide HH).mono ?_; rintro e w' ⟨a', rfl, h1, h2, h3⟩; have c1 := h1.ok; have f1 := h1.frozen1)
    go_ret
    have hbl : Below r w (w'.setCell ⟨r, 1, none⟩ (.bool false)) := below_set h3 1 _
    exact ⟨a', rfl, h1.set1 false, h2.below ((below_set (Below.refl _ _) 1 _).mono hB), hbl⟩
  | true =>
    rw [hk] at HH hno
    have hgt : ((len - H.k : Nat) : Int) < H.n := by simpa using hno
    clear hno hk
    generalize hL : len - H.k = L at *
    have hLs : L ≤ 4194304 := by omega
    clear hL
    go_enter Try.func22, Try.ntmps22
    go_wp2_with (go_at_call 27; refine (unhide HH).mono ?_; rintro e w' ⟨a', rfl, h1, h2, h3⟩; have c1 := h1.ok; have c0 := h1.rest; have f1 := h1.frozen1)
    go_ret
    have hbl : Below r w (w'.setCell ⟨r, 1, none⟩ (.bool false)) := below_set h3 1 _
    exact ⟨a', rfl, h1.set1 false, h2.below ((below_set (Below.refl _ _) 1 _).mono hB), hbl⟩

/-- What String leaves where it accepts: 'T': the bytes behind the head. -/
def StrPost (w : World) (r B : Nat) (T : List Int) (L C N : Nat) (e : Ending) (w' : World) : Prop :=
  ∃ a1 a2, e = .returned (.slice a1 N N) ∧ Row w' B a1 (T.take N) ∧ Rd w' r (.slice a2 (L - N) (C - N)) true ∧ Row w' B a2 (T.drop N) ∧ Below r w w'

set_option maxHeartbeats 400000 in
theorem string_yes (r : Nat) (a : Option Addr) (len cap : Nat) (ok : Bool) (l : List Int) (major : Int) (N : Nat) (w : World) (B : Nat) (h : Rd w r (.slice a len cap) ok) (hr : Row w B a l) (hB : B ≤ r) (hl : l.length = len) (hcap : len ≤ cap) (hb : AllBytes l)
    (hlen : len ≤ 4194304) (hN : (headOf ok l).n = N) (hyes : strOk ok l major = true) :
    Calls Try.prog 22 #[.pointer (some ⟨r, 0, none⟩), .int .u8 major] w (StrPost w r B (l.drop (headOf ok l).k) (len - (headOf ok l).k) (cap - (headOf ok l).k) N) := by
  have hh := expect_any r a len cap ok l major w B h hr hB hl hcap hb
  unfold strOk at hyes
  rw [List.length_drop] at hyes
  obtain ⟨hk, hle⟩ := Bool.and_eq_true_iff.1 hyes
  rw [hk] at hh
  have hle' := of_decide_eq_true hle
  clear hyes
  have HR := hide hr
  have HLL := hide hl
  generalize headOf ok l = H at *
  rw [hN] at hh hle'
  rw [hl] at hle'
  have hle2 : N ≤ len - H.k := by omega
  have hle3 : N ≤ cap - H.k := by omega
  have HH := hide hh
  clear hh h hr hl hb hk hle hN hle'
  generalize hL : len - H.k = L at *
  generalize hC : cap - H.k = C at *
  have hLs : L ≤ 4194304 := by omega
  have HL := hide hL
  have HC := hide hC
  clear hL hC
  go_enter Try.func22, Try.ntmps22
  go_wp2_with (go_at_call 27; refine (unhide HH).mono ?_; rintro e w' ⟨a', rfl, h1, h2, h3⟩; have c1 := h1.ok; have c0 := h1.rest; have f0 := h1.frozen0)
  case' inl =>
    go_ret
    have hCN : C = N := by assumption
    subst hCN
    have hbl : Below r w (w'.setCell ⟨r, 0, none⟩ (.slice a' (L - C) 0)) := below_set h3 0 _
    have hk : Below B w' (w'.setCell ⟨r, 0, none⟩ (.slice a' (L - C) 0)) := (below_set (Below.refl _ _) 0 _).mono hB
    exact ⟨a', a', rfl, (h2.take _).below hk, by rw [Nat.sub_self]; exact h1.set0 _, Row.of_nil (List.drop_eq_nil_of_le (by rw [List.length_drop, unhide HLL]; have := unhide HL; have := unhide HC; omega)), hbl⟩
  case' inr =>
    go_ret
    have hbl : Below r w (w'.setCell ⟨r, 0, none⟩ (.slice (a'.map (·.add N)) (L - N) (C - N))) := below_set h3 0 _
    have hk : Below B w' (w'.setCell ⟨r, 0, none⟩ (.slice (a'.map (·.add N)) (L - N) (C - N))) := (below_set (Below.refl _ _) 0 _).mono hB
    exact ⟨a', a'.map (·.add N), rfl, (h2.take _).below hk, h1.set0 _, (h2.drop _).below hk, hbl⟩
end Go.Proofs.Qxb6601874a
