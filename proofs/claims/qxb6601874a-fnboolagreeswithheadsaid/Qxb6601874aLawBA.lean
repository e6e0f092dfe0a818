/- FnBoolAgreesWithHead: the walk, and the plain law beneath it. -/
import Derived.Test.Qxb6601874aStr
namespace Go.Proofs.Qxb6601874a
open Go.RowKit

theorem small24 (a : Option Addr) (len cap : Nat) (ok : Bool) (w : World) (h : len ≤ 1048576) :
    Calls Try.prog 24 #[.slice a len cap, .bool ok] w fun e w' => e = .returned (.bool true) ∧ w' = w := by
  go_enter Try.func24, Try.ntmps24
  go_wp2
  go_ret
  exact ⟨rfl, rfl⟩

theorem great24 (a : Option Addr) (len cap : Nat) (ok : Bool) (w : World) (h : ¬ len ≤ 1048576) :
    Calls Try.prog 24 #[.slice a len cap, .bool ok] w fun e w' => e = .returned (.bool false) ∧ w' = w := by
  go_enter Try.func24, Try.ntmps24
  go_wp2
  go_ret
  exact ⟨rfl, rfl⟩

/-- THE PLAIN LAW: where Bool accepts, and what it then answers, against Head. -/
theorem bool_head (ok : Bool) (l : List Int) (hb : AllBytes l) :
    ((boolOf ok l).ok = false ∧ (boolOf ok l).v = false ∧ (boolOf ok l).k = 0 ∧
      ((headOf ok l).ok = false ∨ ((headOf ok l).ok = true ∧ ¬ (headOf ok l).m = 224) ∨ ((headOf ok l).ok = true ∧ (headOf ok l).m = 224 ∧ ¬ (headOf ok l).n = 20 ∧ ¬ (headOf ok l).n = 21) ∨
        ((headOf ok l).ok = true ∧ (headOf ok l).m = 224 ∧ ((headOf ok l).n = 20 ∨ (headOf ok l).n = 21) ∧ 2 ≤ (headOf ok l).k ∧ (headOf ok l).k ≤ l.length))) ∨
    ((boolOf ok l).ok = true ∧ (boolOf ok l).k = 1 ∧ (headOf ok l).ok = true ∧ (headOf ok l).m = 224 ∧ (headOf ok l).k = 1 ∧ 1 ≤ l.length ∧
      (((headOf ok l).n = 20 ∧ (boolOf ok l).v = false) ∨ ((headOf ok l).n = 21 ∧ (boolOf ok l).v = true))) := by
  cases ok with
  | false => exact .inl ⟨rfl, rfl, rfl, .inl rfl⟩
  | true =>
    cases l with
    | nil => exact .inl ⟨rfl, rfl, rfl, .inl rfl⟩
    | cons x t =>
      obtain ⟨x0, x1⟩ := hb x (by simp)
      by_cases h4 : x = 244
      · subst h4; exact .inr ⟨rfl, rfl, rfl, rfl, rfl, by simp, .inl ⟨rfl, rfl⟩⟩
      · by_cases h5 : x = 245
        · subst h5; exact .inr ⟨rfl, rfl, rfl, rfl, rfl, by simp, .inr ⟨rfl, rfl⟩⟩
        · have hbo : boolOf true (x :: t) = ⟨false, false, 0⟩ := by simp [boolOf, h4, h5]
          rw [hbo]
          refine .inl ⟨rfl, rfl, rfl, ?_⟩
          by_cases h1 : x % 32 < 24
          · have he : headOf true (x :: t) = ⟨x - x % 32, x % 32, true, 1⟩ := by simp [headOf, h1]
            rw [he]
            by_cases h6 : x - x % 32 = 224
            · exact .inr (.inr (.inl ⟨rfl, h6, show ¬ x % 32 = 20 by omega, show ¬ x % 32 = 21 by omega⟩))
            · exact .inr (.inl ⟨rfl, h6⟩)
          · by_cases h2 : x % 32 ≤ 27 ∧ szOf (x % 32) ≤ t.length
            · have he : headOf true (x :: t) = ⟨x - x % 32, num 0 (t.take (szOf (x % 32))), true, 1 + szOf (x % 32)⟩ := by simp [headOf, h1, h2]
              rw [he]
              have hs : 1 ≤ szOf (x % 32) := by rcases szOf_cases (i := x % 32) (by omega) h2.1 with h | h | h | h <;> omega
              by_cases h6 : x - x % 32 = 224
              · by_cases h7 : num 0 (t.take (szOf (x % 32))) = 20 ∨ num 0 (t.take (szOf (x % 32))) = 21
                · exact .inr (.inr (.inr ⟨rfl, h6, h7, show 2 ≤ 1 + szOf (x % 32) by omega, show 1 + szOf (x % 32) ≤ (x :: t).length by simp; omega⟩))
                · exact .inr (.inr (.inl ⟨rfl, h6, fun h => h7 (.inl h), fun h => h7 (.inr h)⟩))
              · exact .inr (.inl ⟨rfl, h6⟩)
            · have he : headOf true (x :: t) = ⟨0, 0, false, 1⟩ := by simp only [headOf]; rw [if_neg h1, if_neg h2]
              rw [he]
              exact .inl rfl

theorem Below.le {B : Nat} {w w' : World} (h : Below B w w') : w.heap.size ≤ w'.heap.size := h.size

set_option maxHeartbeats 1000000 in
theorem lawBA (a : Option Addr) (len cap : Nat) (ok : Bool) (l : List Int) (w : World) (hr : Row w w.heap.size a l) (hl : l.length = len) (hb : AllBytes l) (hn : a = none → cap = 0) :
    Calls Try.prog 7 #[.slice a len cap, .bool ok] w fun e w' => e = .returned (.bool true) ∧ Below w.heap.size w w' := by
  by_cases hmax : len ≤ 1048576
  · have HL := hide (bool_head ok l hb)
    have HA := hide hl
    have hbb := hide hb
    have hnn := hide hn
    clear hl hb hn
    go_enter Try.func7, Try.ntmps7
    go_wp2_with fail
    refine (small24 a len cap ok w hmax).mono ?_
    rintro e w' ⟨rfl, hw⟩
    obtain rfl := hw.symm
    go_wp2_with fail
    refine (clone_any a len cap l w hr (unhide HA) hmax (unhide hnn)).mono ?_
    rintro e w1 ⟨a1, rfl, hr1, b1⟩
    go_wp2_with fail
    refine (newReader_any a1 len len ok w1).mono ?_
    rintro e w2 ⟨rfl, rd2, b2⟩
    go_wp2_with fail
    refine (bool_any w1.heap.size a1 len len ok l w2 w1.heap.size rd2 (hr1.below b2) (Nat.le_refl _) (unhide HA) (Nat.le_refl _)).mono ?_
    rintro e w3 ⟨a3, rfl, rd3, hr3, b3⟩
    go_wp2_with fail
    refine (rest_any w1.heap.size a3 _ _ _ w3 rd3).mono ?_
    rintro e w' ⟨rfl, hw⟩
    obtain rfl := hw.symm
    go_wp2_with fail
    refine (ok_any w1.heap.size _ _ w3 rd3).mono ?_
    rintro e w' ⟨rfl, hw⟩
    obtain rfl := hw.symm
    go_wp2_with fail
    refine (newReader_any a1 len len ok w3).mono ?_
    rintro e w4 ⟨rfl, rd4, b4⟩
    have le2 := b2.size
    have le3 := b3.size
    have hr4 : Row w4 w1.heap.size a1 l := (hr1.below b2).below b3 |>.below (b4.mono (by omega))
    go_wp2_with fail
    refine (head_any w3.heap.size a1 len len ok l w4 w1.heap.size rd4 hr4 (by omega) (unhide HA) (Nat.le_refl _) (unhide hbb)).mono ?_
    rintro e w5 ⟨a5, rfl, rd5, hr5, b5⟩
    have hB : Below w.heap.size w w5 := (b1.trans ((b2.trans (b3.trans ((b4.mono (by omega)).trans (b5.mono (by omega))))).mono b1.size))
    have hr3' : Row w5 w1.heap.size a3 (l.drop (boolOf ok l).k) := (hr3.below (b4.mono (by omega))).below (b5.mono (by omega))
    have hr1' : Row w5 w1.heap.size a1 l := hr4.below (b5.mono (by omega))
    have hlb : (l.drop (boolOf ok l).k).length = len - (boolOf ok l).k := by rw [List.length_drop, unhide HA]
    have hlh : (l.drop (headOf ok l).k).length = len - (headOf ok l).k := by rw [List.length_drop, unhide HA]
    clear b1 b2 b3 b4 b5 hr1 hr3 hr4 rd2 rd3 rd4 le2 le3
    generalize boolOf ok l = Bo at *
    generalize headOf ok l = H at *
    have Hlb := hide hlb
    have Hlh := hide hlh
    clear hlb hlh
    go_wp2_with fail
    refine (rest_any w3.heap.size a5 _ _ _ w5 rd5).mono ?_
    rintro e w' ⟨rfl, hw⟩
    obtain rfl := hw.symm
    rcases unhide HL with ⟨e1, e2, e3, h | ⟨h1, h2⟩ | ⟨h1, h2, h3, h4⟩ | ⟨h1, h2, h3 | h3, h4, h5⟩⟩ | ⟨e1, e2, h1, h2, h3, h4, ⟨h5, e3⟩ | ⟨h5, e3⟩⟩
    case' inl.inr.inr.inr.inl => have h6 : H.k ≤ len := (unhide HA) ▸ h5
    case' inl.inr.inr.inr.inr => have h6 : H.k ≤ len := (unhide HA) ▸ h5
    case' inr.inl => have h6 : 1 ≤ len := (unhide HA) ▸ h4
    case' inr.inr => have h6 : 1 ≤ len := (unhide HA) ▸ h4
    case inr.inl | inr.inr =>
      all_goals
        have hra : Row w5 w1.heap.size a3 (l.drop 1) := e2 ▸ hr3'
        have hrb : Row w5 w1.heap.size a5 (l.drop 1) := h3 ▸ hr5
        have Hl1 : Hid ((l.drop 1).length = len - 1) := by unfold Hid; rw [List.length_drop, unhide HA]
        have hacc : (((len - 1 : Nat) : Int) + 1 == (len : Int)) = true := by simp; omega
        clear h4 hr3' hr5 HL
        go_wp2_with fail
        refine (ok_any w3.heap.size _ _ w5 rd5).mono ?_
        rintro e w' ⟨rfl, hw⟩
        obtain rfl := hw.symm
        go_wp2_with fail
        refine (equal_any a3 a5 (len - 1) (len - 1) (len - 1) (len - 1) (l.drop 1) (l.drop 1) w5 w1.heap.size w1.heap.size hra hrb (unhide Hl1) (unhide Hl1) (by omega)).mono ?_
        rintro e w6 ⟨rfl, n, rfl⟩
        go_wp2
        go_ret
        exact ⟨by simp, below_drewN hB n⟩
    all_goals
      have hrl : Row w5 w1.heap.size a3 l := by rw [e3] at hr3'; exact hr3'
      clear hr3' hr5 HL
      go_wp2_with fail
      refine (ok_any w3.heap.size _ _ w5 rd5).mono ?_
      rintro e w' ⟨rfl, hw⟩
      obtain rfl := hw.symm
      go_wp2_with fail
      refine (equal_any a3 a1 len len len len l l w5 w1.heap.size w1.heap.size hrl hr1' (unhide HA) (unhide HA) (by omega)).mono ?_
      rintro e w6 ⟨rfl, n, rfl⟩
      go_wp2
      go_ret
      exact ⟨by simp, below_drewN hB n⟩
  · go_enter Try.func7, Try.ntmps7
    go_wp2_with fail
    refine (great24 a len cap ok w hmax).mono ?_
    rintro e w' ⟨rfl, hw⟩
    obtain rfl := hw.symm
    go_wp2
    go_ret
    exact ⟨rfl, Below.refl _ _⟩
end Go.Proofs.Qxb6601874a
