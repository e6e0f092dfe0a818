/- FnBoolRoundTrip: the walk. -/
import Derived.Test.Qxb6601874aStr
namespace Go.Proofs.Qxb6601874a
open Go.RowKit

theorem small26 (v : Bool) (a : Option Addr) (len cap : Nat) (w : World) (h : len ≤ 1048576) :
    Calls Try.prog 26 #[.bool v, .slice a len cap] w fun e w' => e = .returned (.bool true) ∧ w' = w := by
  go_enter Try.func26, Try.ntmps26
  go_wp2
  go_ret
  exact ⟨rfl, rfl⟩

theorem great26 (v : Bool) (a : Option Addr) (len cap : Nat) (w : World) (h : ¬ len ≤ 1048576) :
    Calls Try.prog 26 #[.bool v, .slice a len cap] w fun e w' => e = .returned (.bool false) ∧ w' = w := by
  go_enter Try.func26, Try.ntmps26
  go_wp2
  go_ret
  exact ⟨rfl, rfl⟩

theorem row_one (w : World) (x : Int) : Row (w.alloc (.cells #[.int .u8 x] 5)) (w.alloc (.cells #[.int .u8 x] 5)).heap.size (some ⟨w.heap.size, 0, none⟩) [x] := by
  have := row_new w [x] 1 rfl (w.alloc (.cells #[.int .u8 x] 5)).heap.size (by simp)
  simpa [cellsTo] using this

theorem below_new (w : World) (o : Obj) : Below w.heap.size w (w.alloc o) := (Below.refl _ _).alloc (Nat.le_refl _) _

/-- What concat leaves, in the words of the walks above it. -/
theorem concat_row (a b c : Option Addr) (la lb lc ca cb cc : Nat) (A B C : List Int) (w : World) (ha : Row w w.heap.size a A) (hb : Row w w.heap.size b B) (hc : Row w w.heap.size c C)
    (hla : A.length = la) (hlb : B.length = lb) (hlc : C.length = lc) (ma : la ≤ 1048576) (mb : lb ≤ 1048576) (mc : lc ≤ 1048576) :
    Calls Try.prog 20 #[.slice a la ca, .slice b lb cb, .slice c lc cc] w fun e w' => ∃ a', e = .returned (.slice a' (la + lb + lc) (la + lb + lc)) ∧ Row w' w'.heap.size a' (A ++ B ++ C) ∧ Below w.heap.size w w' := by
  refine (concat_any a b c la lb lc ca cb cc A B C w ha hb hc hla hlb hlc ma mb mc).mono ?_
  rintro e w' ⟨rfl, rfl⟩
  exact ⟨_, rfl, row_new w _ _ (by simp only [List.length_append]; omega) _ (by simp), below_new _ _⟩

theorem first_bool (v : Bool) (l : List Int) : ∃ (fst : Int) (L : List Int), Hid ([fst] ++ l ++ [] = L) ∧ Hid (boolOf true L = ⟨v, true, 1⟩) ∧ Hid (L.drop 1 = l) ∧ Hid (L.length = 1 + l.length) ∧ fst = (if v then 245 else 244) := by
  refine ⟨if v then 245 else 244, [if v then 245 else 244] ++ l ++ [], rfl, ?_, ?_, ?_, rfl⟩
  · cases v <;> rfl
  · show List.drop 1 _ = _
    simp
  · show List.length _ = _
    simp
    omega

set_option maxHeartbeats 1000000 in
theorem lawBR (v : Bool) (a : Option Addr) (len cap : Nat) (l : List Int) (w : World) (hr : Row w w.heap.size a l) (hl : l.length = len) (hn : a = none → cap = 0) :
    Calls Try.prog 8 #[.bool v, .slice a len cap] w fun e w' => e = .returned (.bool true) ∧ Below w.heap.size w w' := by
  by_cases hmax : len ≤ 1048576
  · have HA := hide hl
    have hnn := hide hn
    clear hl hn
    obtain ⟨fst, L, HL, Hf, Hd, Hn, hfst⟩ := first_bool v l
    rw [unhide HA] at Hn
    cases v
    all_goals
      simp only [if_true, if_false, Bool.false_eq_true] at hfst
      subst hfst
      go_enter Try.func8, Try.ntmps8
      go_wp2_with fail
      refine (small26 _ a len cap w hmax).mono ?_
      rintro e w' ⟨rfl, hw⟩
      obtain rfl := hw.symm
      go_wp2_with fail
      refine (clone_any a len cap l w hr (unhide HA) hmax (unhide hnn)).mono ?_
      rintro e w1 ⟨a1, rfl, hr1, b1⟩
      go_wp2_with fail
      refine (concat_row _ a1 none 1 len 0 1 len 0 _ l [] _ (row_one w1 _) ((hr1.below (below_new _ _)).mono (by simp)) (Row.nil _ _ _) rfl (unhide HA) rfl (by omega) hmax (by omega)).mono ?_
      rintro e w2 ⟨a2, rfl, hr2, b2⟩
      rw [unhide HL] at hr2
      have b2' : Below w.heap.size w w2 := b1.trans (((below_new _ _).trans (b2.mono (by simp))).mono b1.size)
      have hr1' : Row w2 w2.heap.size a1 l := ((hr1.below (below_new _ _)).below (b2.mono (by simp))).mono (by have := b2.size; simp at this; omega)
      clear b2 hr1 HL
      go_wp2_with fail
      refine (newReader_any a2 (1 + len) (1 + len) true w2).mono ?_
      rintro e w3 ⟨rfl, rd3, b3⟩
      have hb := bool_any w2.heap.size a2 (1 + len) (1 + len) true L w3 w2.heap.size rd3 (hr2.below b3) (Nat.le_refl _) (unhide Hn) (Nat.le_refl _)
      rw [unhide Hf, unhide Hd, show 1 + len - 1 = len from by omega] at hb
      go_wp2_with fail
      refine hb.mono ?_
      clear hb
      rintro e w4 ⟨a4, rfl, rd4, hr4, b4⟩
      have hr4' : Row w4 w2.heap.size a1 l := (hr1'.below b3).below b4
      have hr2' : Row w4 w2.heap.size a2 L := (hr2.below b3).below b4
      have b4' : Below w.heap.size w w4 := b2'.trans ((b3.trans b4).mono b2'.size)
      have hle : w2.heap.size ≤ w4.heap.size := (b3.trans b4).size
      clear b3 b4 rd3 hr1' b2' hr2
      go_wp2_with fail
      refine (ok_any w2.heap.size _ _ w4 rd4).mono ?_
      rintro e w' ⟨rfl, hw⟩
      obtain rfl := hw.symm
      go_wp2_with fail
      refine (rest_any w2.heap.size a4 _ _ _ w4 rd4).mono ?_
      rintro e w' ⟨rfl, hw⟩
      obtain rfl := hw.symm
      go_wp2_with fail
      refine (equal_any a4 a1 len len len len l l w4 w2.heap.size w2.heap.size hr4 hr4' (unhide HA) (unhide HA) (by omega)).mono ?_
      rintro e w' ⟨rfl, n, rfl⟩
      have hr5 : Row (w4.drewN n) w2.heap.size a2 L := hr2'.below (below_drewN (Below.refl _ _) n)
      have b5 : Below w.heap.size w (w4.drewN n) := below_drewN b4' n
      have hle5 : w2.heap.size ≤ (w4.drewN n).heap.size := hle
      clear hr4 hr4' hr2' b4' hle rd4
      generalize w4.drewN n = w5 at *
      go_wp2_with fail
      refine (newReader_any a2 (1 + len) (1 + len) false w5).mono ?_
      rintro e w6 ⟨rfl, rd6, b6⟩
      have hb := bool_any w5.heap.size a2 (1 + len) (1 + len) false L w6 w2.heap.size rd6 (hr5.below (b6.mono hle5)) hle5 (unhide Hn) (Nat.le_refl _)
      rw [show boolOf false L = ⟨false, false, 0⟩ from rfl] at hb
      go_wp2_with fail
      refine hb.mono ?_
      clear hb
      rintro e w7 ⟨a7, rfl, rd7, hr7, b7⟩
      go_wp2_with fail
      refine (ok_any w5.heap.size _ _ w7 rd7).mono ?_
      rintro e w' ⟨rfl, hw⟩
      obtain rfl := hw.symm
      go_wp2
      go_ret
      exact ⟨rfl, b5.trans ((b6.trans b7).mono b5.size)⟩
  · go_enter Try.func8, Try.ntmps8
    go_wp2_with fail
    refine (great26 v a len cap w hmax).mono ?_
    rintro e w' ⟨rfl, hw⟩
    obtain rfl := hw.symm
    go_wp2
    go_ret
    exact ⟨rfl, Below.refl _ _⟩
end Go.Proofs.Qxb6601874a
