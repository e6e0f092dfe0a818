/- FnStringWholeAnswer: the walk. -/
import Derived.Test.Qxb6601874aLawHW
namespace Go.Proofs.Qxb6601874a
open Go.RowKit

theorem small21 (a : Option Addr) (len cap : Nat) (ok : Bool) (m : Int) (w : World) (h : len ≤ 1048576) :
    Calls Try.prog 21 #[.slice a len cap, .bool ok, .int .u8 m] w fun e w' => e = .returned (.bool true) ∧ w' = w := by
  go_enter Try.func21, Try.ntmps21
  go_wp2
  go_ret
  exact ⟨rfl, rfl⟩

theorem over21 (a : Option Addr) (len cap : Nat) (ok : Bool) (m : Int) (w : World) (h : ¬ len ≤ 1048576) :
    Calls Try.prog 21 #[.slice a len cap, .bool ok, .int .u8 m] w fun e w' => e = .returned (.bool false) ∧ w' = w := by
  go_enter Try.func21, Try.ntmps21
  go_wp2
  go_ret
  exact ⟨rfl, rfl⟩

theorem headOf_k_le (ok : Bool) (l : List Int) : (headOf ok l).k ≤ l.length := by
  cases ok with
  | false => simp [headOf]
  | true =>
    cases l with
    | nil => simp [headOf]
    | cons x t =>
      simp only [headOf]
      split
      · simp
      · split
        · simp; omega
        · simp

/-- Where String refuses, one of Head's three tests says no. -/
theorem strOk_no {ok : Bool} {l : List Int} {major : Int} (h : strOk ok l major = false) :
    (headOf ok l).ok = false ∨ ((headOf ok l).ok = true ∧ ¬ (headOf ok l).m = major) ∨ ((headOf ok l).ok = true ∧ (headOf ok l).m = major ∧ ((l.length - (headOf ok l).k : Nat) : Int) < (headOf ok l).n) := by
  unfold strOk at h
  rw [List.length_drop] at h
  cases h1 : (headOf ok l).ok with
  | false => exact .inl rfl
  | true =>
    by_cases h2 : (headOf ok l).m = major
    · refine .inr (.inr ⟨rfl, h2, ?_⟩)
      rw [h1, decide_eq_true h2] at h
      simpa using h
    · exact .inr (.inl ⟨rfl, h2⟩)

set_option maxHeartbeats 1000000 in
theorem lawSW_no (a : Option Addr) (len cap : Nat) (ok : Bool) (major : Int) (l : List Int) (w : World) (hr : Row w w.heap.size a l) (hl : l.length = len) (hb : AllBytes l) (hn : a = none → cap = 0) (hmax : len ≤ 1048576) (hno : strOk ok l major = false) :
    Calls Try.prog 5 #[.slice a len cap, .bool ok, .int .u8 major] w fun e w' => e = .returned (.bool true) ∧ Below w.heap.size w w' := by
  have HN := hide hno
  have hcase := strOk_no hno
  have hsf := suffix_drop l (headOf ok l).k (headOf_k_le ok l)
  rw [hl] at hcase
  have HC := hide hcase
  have HF := hide hsf
  have HA := hide hl
  have hbb := hide hb
  have hnn := hide hn
  have hnil := fun w => Lib.run_eql_slice_nil (P := Try.prog) w 22 5 none 0 0 0 0 Try.underlying22
  clear hl hb hn hno hcase hsf
  go_enter Try.func5, Try.ntmps5
  go_wp2_with fail
  refine (small21 a len cap ok major w hmax).mono ?_
  rintro e w' ⟨rfl, hw⟩
  obtain rfl := hw.symm
  go_wp2_with fail
  refine (clone_any a len cap l w hr (unhide HA) hmax (unhide hnn)).mono ?_
  rintro e w1 ⟨a1, rfl, hr1, b1⟩
  go_wp2_with fail
  refine (newReader_any a1 len len ok w1).mono ?_
  rintro e w2 ⟨rfl, rd2, b2⟩
  go_wp2_with fail
  refine (string_no w1.heap.size a1 len len ok l major w2 w1.heap.size rd2 (hr1.below b2) (Nat.le_refl _) (unhide HA) (Nat.le_refl _) (unhide hbb) (by omega) (unhide HN)).mono ?_
  rintro e w3 ⟨a3, rfl, rd3, hr3, b3⟩
  go_wp2_with fail
  refine (rest_any w1.heap.size a3 _ _ _ w3 rd3).mono ?_
  rintro e w' ⟨rfl, hw⟩
  obtain rfl := hw.symm
  go_wp2_with fail
  refine (ok_any w1.heap.size _ _ w3 rd3).mono ?_
  rintro e w' ⟨rfl, hw⟩
  obtain rfl := hw.symm
  go_wp2_with fail
  refine (newReader_any a1 len len ok w3).mono ?_
  rintro e w4 ⟨rfl, rd4, b4⟩
  have le3 : w1.heap.size ≤ w3.heap.size := (b2.trans b3).size
  have hr4 : Row w4 w1.heap.size a1 l := ((hr1.below b2).below b3).below (b4.mono le3)
  go_wp2_with fail
  refine (head_any w3.heap.size a1 len len ok l w4 w1.heap.size rd4 hr4 le3 (unhide HA) (Nat.le_refl _) (unhide hbb)).mono ?_
  rintro e w5 ⟨a5, rfl, rd5, hr5, b5⟩
  have hB : Below w.heap.size w w5 := b1.trans ((b2.trans (b3.trans ((b4.trans b5).mono le3))).mono b1.size)
  have hr3' : Row w5 w1.heap.size a3 (l.drop (headOf ok l).k) := hr3.below ((b4.trans b5).mono le3)
  have hr1' : Row w5 w1.heap.size a1 l := hr4.below (b5.mono le3)
  have Hlh : Hid ((l.drop (headOf ok l).k).length = len - (headOf ok l).k) := by unfold Hid; rw [List.length_drop, unhide HA]
  clear b1 b2 b3 b4 b5 hr1 hr3 hr4 rd2 rd3 rd4 HN
  generalize headOf ok l = H at *
  go_wp2_with fail
  refine (rest_any w3.heap.size a5 _ _ _ w5 rd5).mono ?_
  rintro e w' ⟨rfl, hw⟩
  obtain rfl := hw.symm
  rcases unhide HC with h | ⟨h1, h2⟩ | ⟨h1, h2, h3⟩
  case' inr.inr => have hd : decide (H.n ≤ ((len - H.k : Nat) : Int)) = false := by simp; omega
  all_goals
    clear HC
    go_wp2_with fail
    refine (ok_any w3.heap.size _ _ w5 rd5).mono ?_
    rintro e w' ⟨rfl, hw⟩
    obtain rfl := hw.symm
    go_wp2_with fail
    refine (suffix_any a3 a1 (len - H.k) len (len - H.k) len (l.drop H.k) l w5 w1.heap.size w1.heap.size hr3' hr1' (unhide Hlh) (unhide HA) (by omega) (Nat.le_refl _)).mono ?_
    rintro e w' ⟨rfl, n, rfl⟩
    rw [unhide HF]
    go_wp2_with fail
    refine (equal_any a3 a5 (len - H.k) (len - H.k) (len - H.k) (len - H.k) (l.drop H.k) (l.drop H.k) (w5.drewN n) w1.heap.size w1.heap.size (hr3'.below (below_drewN (Below.refl _ _) n)) (hr5.below (below_drewN (Below.refl _ _) n)) (unhide Hlh) (unhide Hlh) (by omega)).mono ?_
    rintro e w' ⟨rfl, q, rfl⟩
    go_wp2
    go_ret
    exact ⟨by simp, below_drewN hB _⟩

/-- Where String accepts: the bytes are the head of (major, N), N bytes, the rest. -/
theorem strOk_yes {ok : Bool} {l : List Int} {major : Int} (hb : AllBytes l) (h : strOk ok l major = true) :
    ∃ K N R : Nat, l.length = K + 1 + N + R ∧ headOf ok l = ⟨major, N, true, K + 1⟩ ∧ enc major N K = some (l.take (K + 1)) ∧ 0 ≤ major ∧ major < 256 := by
  unfold strOk at h
  obtain ⟨c1, c2⟩ := Bool.and_eq_true_iff.1 h
  obtain ⟨h1, c3⟩ := Bool.and_eq_true_iff.1 c1
  have h2 := of_decide_eq_true c2
  have h3 := of_decide_eq_true c3
  clear h c1 c2 c3
  rw [List.length_drop] at h2
  cases ok with
  | false => simp [headOf] at h1
  | true =>
    cases l with
    | nil => simp [headOf] at h1
    | cons x t =>
      obtain ⟨_, _, k1, k2, he, m0, m1, n0, _⟩ := head_back x t hb h1
      generalize headOf true (x :: t) = H at *
      obtain ⟨m, n, o, k⟩ := H
      simp only at *
      obtain ⟨N, rfl⟩ := Int.eq_ofNat_of_zero_le n0
      obtain ⟨K, rfl⟩ : ∃ K, k = K + 1 := ⟨k - 1, by omega⟩
      refine ⟨K, N, (x :: t).length - (K + 1) - N, by omega, by rw [h3, h1], ?_, by omega, by omega⟩
      rw [← he, h3]
      congr 1
      omega

theorem row_drop {w : World} {B : Nat} {a : Option Addr} {l : List Int} (h : Row w B a l) (k : Nat) : Row w B (a.map (fun x => ⟨x.block, x.off + k, none⟩)) (l.drop k) := by
  intro i hi
  simp only [List.length_drop] at hi
  obtain ⟨g, o, ha, hg, hc⟩ := h (k + i) (by omega)
  refine ⟨g, o + k, by rw [ha]; rfl, hg, ?_⟩
  rw [show o + k + i = o + (k + i) from by omega, hc]
  simp [List.getD_eq_getElem?_getD]

set_option maxHeartbeats 1000000 in
theorem lawSW_yes (a : Option Addr) (cap : Nat) (ok : Bool) (major : Int) (l : List Int) (K N R : Nat) (w : World) (hr : Row w w.heap.size a l) (hl : l.length = K + 1 + N + R) (hb : AllBytes l) (hn : a = none → cap = 0) (hmax : K + 1 + N + R ≤ 1048576)
    (hH : headOf ok l = ⟨major, N, true, K + 1⟩) (henc : enc major N K = some (l.take (K + 1))) (m0 : 0 ≤ major) (m1 : major < 256) (hyes : strOk ok l major = true) :
    Calls Try.prog 5 #[.slice a (K + 1 + N + R) cap, .bool ok, .int .u8 major] w fun e w' => e = .returned (.bool true) ∧ Below w.heap.size w w' := by
  have hsf := suffix_drop l (K + 1 + N) (by omega)
  have HY := hide hyes
  have HH := hide hH
  have HE := hide henc
  have HF := hide hsf
  have HA := hide hl
  have hbb := hide hb
  have hnn := hide hn
  clear hl hb hn hyes hsf hH henc
  go_enter Try.func5, Try.ntmps5
  go_wp2_with fail
  refine (small21 a (K + 1 + N + R) cap ok major w hmax).mono ?_
  rintro e w' ⟨rfl, hw⟩
  obtain rfl := hw.symm
  go_wp2_with fail
  refine (clone_any a (K + 1 + N + R) cap l w hr (unhide HA) hmax (unhide hnn)).mono ?_
  rintro e w1 ⟨a1, rfl, hr1, b1⟩
  go_wp2_with fail
  refine (newReader_any a1 (K + 1 + N + R) (K + 1 + N + R) ok w1).mono ?_
  rintro e w2 ⟨rfl, rd2, b2⟩
  have hs := string_yes w1.heap.size a1 (K + 1 + N + R) (K + 1 + N + R) ok l major N w2 w1.heap.size rd2 (hr1.below b2) (Nat.le_refl _) (unhide HA) (Nat.le_refl _) (unhide hbb) (by omega) (by rw [unhide HH]) (unhide HY)
  rw [unhide HH] at hs
  simp only at hs
  go_wp2_with fail
  refine hs.mono ?_
  clear hs
  rintro e w3 ⟨a3, a3', rfl, hr3, rd3, hr3', b3⟩
  rw [show K + 1 + N + R - (K + 1) - N = R from by omega] at rd3
  rw [List.drop_drop] at hr3'
  go_wp2_with fail
  refine (rest_any w1.heap.size a3' _ _ _ w3 rd3).mono ?_
  rintro e w' ⟨rfl, hw⟩
  obtain rfl := hw.symm
  go_wp2_with fail
  refine (ok_any w1.heap.size _ _ w3 rd3).mono ?_
  rintro e w' ⟨rfl, hw⟩
  obtain rfl := hw.symm
  go_wp2_with fail
  refine (newReader_any a1 (K + 1 + N + R) (K + 1 + N + R) ok w3).mono ?_
  rintro e w4 ⟨rfl, rd4, b4⟩
  have le3 : w1.heap.size ≤ w3.heap.size := (b2.trans b3).size
  have hr4 : Row w4 w1.heap.size a1 l := ((hr1.below b2).below b3).below (b4.mono le3)
  have hh := head_any w3.heap.size a1 (K + 1 + N + R) (K + 1 + N + R) ok l w4 w1.heap.size rd4 hr4 le3 (unhide HA) (Nat.le_refl _) (unhide hbb)
  rw [unhide HH] at hh
  simp only at hh
  rw [show K + 1 + N + R - (K + 1) = N + R from by omega] at hh
  go_wp2_with fail
  refine hh.mono ?_
  clear hh
  rintro e w5 ⟨a5, rfl, rd5, hr5, b5⟩
  have hB : Below w.heap.size w w5 := b1.trans ((b2.trans (b3.trans ((b4.trans b5).mono le3))).mono b1.size)
  have hrb : Row w5 w1.heap.size a3 ((l.drop (K + 1)).take N) := hr3.below ((b4.trans b5).mono le3)
  have hra : Row w5 w1.heap.size a3' (l.drop (K + 1 + N)) := hr3'.below ((b4.trans b5).mono le3)
  have hr1' : Row w5 w1.heap.size a1 l := hr4.below (b5.mono le3)
  have le5 : w1.heap.size ≤ w5.heap.size := Nat.le_trans le3 (b4.trans b5).size
  clear b1 b2 b3 b4 b5 hr1 hr3 hr3' hr4 rd2 rd3 rd4
  go_wp2_with fail
  refine (rest_any w3.heap.size a5 _ _ _ w5 rd5).mono ?_
  rintro e w' ⟨rfl, hw⟩
  obtain rfl := hw.symm
  go_wp2_with fail
  refine (ok_any w3.heap.size _ _ w5 rd5).mono ?_
  rintro e w' ⟨rfl, hw⟩
  obtain rfl := hw.symm
  clear rd5 hr5
  have hd : decide ((N : Int) ≤ (N : Int) + (R : Int)) = true := by simp; omega
  go_wp2_with fail
  refine (suffix_any a3' a1 R (K + 1 + N + R) R (K + 1 + N + R) (l.drop (K + 1 + N)) l w5 w1.heap.size w1.heap.size hra hr1' (by rw [List.length_drop, unhide HA]; omega) (unhide HA) (by omega) (Nat.le_refl _)).mono ?_
  rintro e w' ⟨rfl, n, rfl⟩
  rw [unhide HF]
  have hrb' : Row (w5.drewN n) w1.heap.size a3 ((l.drop (K + 1)).take N) := hrb.below (below_drewN (Below.refl _ _) n)
  have hr1'' : Row (w5.drewN n) w1.heap.size a1 l := hr1'.below (below_drewN (Below.refl _ _) n)
  have hB' : Below w.heap.size w (w5.drewN n) := below_drewN hB n
  have le6 : w1.heap.size ≤ (w5.drewN n).heap.size := le5
  clear hrb hr1' hB le5 hra
  generalize w5.drewN n = w6 at *
  go_wp2_with fail
  refine (enc_some major N K (l.take (K + 1)) w6 m0 m1 (by omega) (by omega) (unhide HE)).mono ?_
  rintro e w7 ⟨a7, rfl, hr7, b7⟩
  have hlt : (l.take (K + 1)).length = K + 1 := by rw [List.length_take, unhide HA]; omega
  rw [hlt]
  have Hlt := hide hlt
  clear hlt
  go_wp2_with fail
  refine (equal_any a7 a1 (K + 1) (K + 1) (K + 1) (K + 1 + N + R) (l.take (K + 1)) (l.take (K + 1)) w7 w7.heap.size w1.heap.size hr7 ((hr1''.take _).below (b7.mono le6)) (unhide Hlt) (unhide Hlt) (by omega)).mono ?_
  rintro e w' ⟨rfl, q, rfl⟩
  have hrb2 : Row (w7.drewN q) w1.heap.size a3 ((l.drop (K + 1)).take N) := (hrb'.below (b7.mono le6)).below (below_drewN (Below.refl _ _) q)
  have hr12 : Row (w7.drewN q) w1.heap.size a1 l := (hr1''.below (b7.mono le6)).below (below_drewN (Below.refl _ _) q)
  have hB2 : Below w.heap.size w (w7.drewN q) := below_drewN (hB'.trans (b7.mono hB'.size)) q
  have Hln : Hid (((l.drop (K + 1)).take N).length = N) := by unfold Hid; rw [List.length_take, List.length_drop, unhide HA]; omega
  clear hrb' hr1'' hB' b7 le6 hr7
  generalize w7.drewN q = w8 at *
  simp only [decide_true]
  go_wp2_with fail
  case' inl => refine (equal_any a3 a1 N N N 0 ((l.drop (K + 1)).take N) ((l.drop (K + 1)).take N) w8 w1.heap.size w1.heap.size hrb2 (Row.of_nil (List.eq_nil_of_length_eq_zero (by rw [unhide Hln]; omega))) (unhide Hln) (unhide Hln) (by omega)).mono ?_
  case' inr => refine (equal_any a3 (a1.map (fun x => ⟨x.block, x.off + (K + 1), none⟩)) N N N (K + 1 + N + R - (K + 1)) ((l.drop (K + 1)).take N) ((l.drop (K + 1)).take N) w8 w1.heap.size w1.heap.size hrb2 ((row_drop hr12 (K + 1)).take N) (unhide Hln) (unhide Hln) (by omega)).mono ?_
  all_goals
    rintro e w' ⟨rfl, j, rfl⟩
    simp only [decide_true]
    go_wp2
    go_ret
    exact ⟨by simp, below_drewN hB2 _⟩

theorem lawSW (a : Option Addr) (len cap : Nat) (ok : Bool) (major : Int) (l : List Int) (w : World) (hr : Row w w.heap.size a l) (hl : l.length = len) (hb : AllBytes l) (hn : a = none → cap = 0) :
    Calls Try.prog 5 #[.slice a len cap, .bool ok, .int .u8 major] w fun e w' => e = .returned (.bool true) ∧ Below w.heap.size w w' := by
  by_cases hmax : len ≤ 1048576
  · cases hs : strOk ok l major with
    | false => exact lawSW_no a len cap ok major l w hr hl hb hn hmax hs
    | true =>
      obtain ⟨K, N, R, h1, h2, h3, h4, h5⟩ := strOk_yes hb hs
      rw [hl] at h1
      subst h1
      exact lawSW_yes a cap ok major l K N R w hr hl hb hn hmax h2 h3 h4 h5 hs
  · go_enter Try.func5, Try.ntmps5
    go_wp2_with fail
    refine (over21 a len cap ok major w hmax).mono ?_
    rintro e w' ⟨rfl, hw⟩
    obtain rfl := hw.symm
    go_wp2
    go_ret
    exact ⟨rfl, Below.refl _ _⟩
end Go.Proofs.Qxb6601874a
