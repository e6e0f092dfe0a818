/- FnStringRoundTrip: the walk. -/
import Derived.Test.Qxb6601874aLawHR
namespace Go.Proofs.Qxb6601874a
open Go.RowKit

theorem small23 (m q k : Int) (a b : Option Addr) (la ca lb cb : Nat) (w : World) (h : la + lb ≤ 1048576) :
    Calls Try.prog 23 #[.int .u8 m, .int .u8 q, .int .i64 k, .slice a la ca, .slice b lb cb] w fun e w' => e = .returned (.bool true) ∧ w' = w := by
  go_enter Try.func23, Try.ntmps23
  go_wp2
  go_ret
  exact ⟨rfl, rfl⟩

theorem over23 (m q k : Int) (a b : Option Addr) (la ca lb cb : Nat) (w : World) (h : ¬ la + lb ≤ 1048576) :
    Calls Try.prog 23 #[.int .u8 m, .int .u8 q, .int .i64 k, .slice a la ca, .slice b lb cb] w fun e w' => e = .returned (.bool false) ∧ w' = w := by
  by_cases h1 : la ≤ 1048576
  · by_cases h2 : lb ≤ 1048576
    all_goals
      go_enter Try.func23, Try.ntmps23
      go_wp2
      go_ret
      exact ⟨rfl, rfl⟩
  · go_enter Try.func23, Try.ntmps23
    go_wp2
    go_ret
    exact ⟨rfl, rfl⟩

set_option maxHeartbeats 1000000 in
theorem lawSR (m q k : Int) (a b : Option Addr) (lp cp lt ct : Nat) (P T : List Int) (w : World) (m0 : 0 ≤ m) (m1 : m < 256)
    (hr : Row w w.heap.size a P) (hl : P.length = lp) (hb : AllBytes P) (hn : a = none → cp = 0) (hr' : Row w w.heap.size b T) (hl' : T.length = lt) (hb' : AllBytes T) (hn' : b = none → ct = 0) :
    Calls Try.prog 6 #[.int .u8 m, .int .u8 q, .int .i64 k, .slice a lp cp, .slice b lt ct] w fun e w' => e = .returned (.bool true) ∧ Below w.heap.size w w' := by
  by_cases hmax : lp + lt ≤ 1048576
  · have HP := hide hl
    have HT := hide hl'
    have hnn := hide hn
    have hnn' := hide hn'
    have hbb := hide hb
    have hbb' := hide hb'
    clear hl hn hb hl' hn' hb'
    cases he : enc m lp k with
    | none =>
      have HE := hide he
      clear he
      go_enter Try.func6, Try.ntmps6
      go_wp2_with fail
      refine (small23 m q k a b lp cp lt ct w hmax).mono ?_
      rintro e w' ⟨rfl, hw⟩
      obtain rfl := hw.symm
      go_wp2_with fail
      refine (enc_none m lp k w m0 m1 (by omega) (by omega) (unhide HE)).mono ?_
      rintro e w' ⟨rfl, hw⟩
      obtain rfl := hw.symm
      go_wp2
      go_ret
      exact ⟨rfl, Below.refl _ _⟩
    | some E =>
      have HE := hide he
      obtain ⟨ebb, el1, el9⟩ := enc_bytes m0 m1 (by omega) he
      have Hbb := hide ebb
      obtain ⟨L, HL, Hf, Hd, Hn, HLb⟩ : ∃ L : List Int, Hid (E ++ P ++ T = L) ∧ Hid (headOf true L = ⟨m, lp, true, E.length⟩) ∧ Hid (L.drop E.length = P ++ T) ∧ Hid (L.length = E.length + lp + lt) ∧ Hid (AllBytes L) := by
        refine ⟨E ++ P ++ T, rfl, ?_, ?_, ?_, ?_⟩
        · rw [List.append_assoc]; exact head_enc (by omega) (by omega) he (P ++ T)
        · show List.drop _ _ = _; simp
        · show List.length _ = _; rw [List.length_append, List.length_append, unhide HP, unhide HT]
        · intro x hx
          rcases List.mem_append.1 hx with hx | hx
          · rcases List.mem_append.1 hx with hx | hx
            · exact ebb x hx
            · exact unhide hbb x hx
          · exact unhide hbb' x hx
      clear he ebb
      obtain ⟨ne, hne⟩ : ∃ ne, Hid (E.length = ne) := ⟨_, rfl⟩
      rw [unhide hne] at el1 el9 Hf Hd Hn
      have hnil := fun w => Lib.run_eql_slice_nil (P := Try.prog) w 22 5 none 0 0 0 0 Try.underlying22
      go_enter Try.func6, Try.ntmps6
      go_wp2_with fail
      refine (small23 m q k a b lp cp lt ct w hmax).mono ?_
      rintro e w' ⟨rfl, hw⟩
      obtain rfl := hw.symm
      go_wp2_with fail
      refine (enc_some m lp k E w m0 m1 (by omega) (by omega) (unhide HE)).mono ?_
      rintro e w0 ⟨a0, rfl, hr0, b0⟩
      rw [unhide hne]
      have hra := (hr.below b0).mono b0.size
      have hrb := (hr'.below b0).mono b0.size
      go_wp2_with fail
      refine (clone_any a lp cp P w0 hra (unhide HP) (by omega) (unhide hnn)).mono ?_
      rintro e w1 ⟨a1, rfl, hr1, b1⟩
      have hr0' := (hr0.below b1).mono b1.size
      have hrb' := (hrb.below b1).mono b1.size
      go_wp2_with fail
      refine (clone_any b lt ct T w1 hrb' (unhide HT) (by omega) (unhide hnn')).mono ?_
      rintro e w2 ⟨a2, rfl, hr2, b2⟩
      have hr0'' := (hr0'.below b2).mono b2.size
      have hr1' := (hr1.below b2).mono b2.size
      go_wp2_with fail
      refine (concat_row a0 a1 a2 ne lp lt ne lp lt E P T w2 hr0'' hr1' hr2 (unhide hne) (unhide HP) (unhide HT) (by omega) (by omega) (by omega)).mono ?_
      rintro e w3 ⟨a3, rfl, hr3, b3⟩
      rw [unhide HL] at hr3
      have b3' : Below w.heap.size w w3 := b0.trans ((b1.trans ((b2.trans (b3.mono b2.size)).mono b1.size)).mono b0.size)
      have hrP : Row w3 w3.heap.size a1 P := (hr1'.below b3).mono b3.size
      have hrT : Row w3 w3.heap.size a2 T := (hr2.below b3).mono b3.size
      clear b3 hr1' hr1 hr2 HL b1 b0 b2 hr0 hr0' hr0'' hra hrb hrb'
      go_wp2_with fail
      refine (newReader_any a3 (ne + lp + lt) (ne + lp + lt) true w3).mono ?_
      rintro e w4 ⟨rfl, rd4, b4⟩
      by_cases hq : q = m
      · obtain rfl := hq.symm
        have hok : strOk true L m = true := by
          unfold strOk
          rw [unhide Hf]
          simp only
          rw [unhide Hd]
          simp [unhide HP]
          omega
        have hs := string_yes w3.heap.size a3 (ne + lp + lt) (ne + lp + lt) true L m lp w4 w3.heap.size rd4 (hr3.below b4) (Nat.le_refl _) (unhide Hn) (Nat.le_refl _) (unhide HLb) (by omega) (by rw [unhide Hf]) hok
        rw [unhide Hf] at hs
        simp only at hs
        rw [unhide Hd] at hs
        clear hok
        go_wp2_with fail
        refine hs.mono ?_
        clear hs
        rintro e w5 ⟨a5, a6, rfl, hr5, rd5, hr6, b5⟩
        rw [List.take_append_of_le_length (by have := unhide HP; omega), List.take_of_length_le (by have := unhide HP; omega)] at hr5
        rw [List.drop_append_of_le_length (by have := unhide HP; omega), List.drop_of_length_le (by have := unhide HP; omega), List.nil_append] at hr6
        rw [show ne + lp + lt - ne - lp = lt from by omega] at rd5
        have hrP' : Row w5 w3.heap.size a1 P := (hrP.below b4).below b5
        have hrT' : Row w5 w3.heap.size a2 T := (hrT.below b4).below b5
        have b5' : Below w.heap.size w w5 := b3'.trans ((b4.trans b5).mono b3'.size)
        have hle5 : w3.heap.size < w5.heap.size := rd5.size
        go_wp2_with fail
        refine (ok_any w3.heap.size _ _ w5 rd5).mono ?_
        rintro e w' ⟨rfl, hw⟩
        obtain rfl := hw.symm
        go_wp2_with fail
        refine (equal_any a5 a1 lp lp lp lp P P w5 w3.heap.size w3.heap.size hr5 hrP' (unhide HP) (unhide HP) (by omega)).mono ?_
        rintro e w' ⟨rfl, i, rfl⟩
        have rd6 := rd5.drewN i
        have hr7 : Row (w5.drewN i) w3.heap.size a6 T := hr6.below (below_drewN (Below.refl _ _) i)
        have hr8 : Row (w5.drewN i) w3.heap.size a2 T := hrT'.below (below_drewN (Below.refl _ _) i)
        have b6 : Below w.heap.size w (w5.drewN i) := below_drewN b5' i
        generalize w5.drewN i = w6 at *
        go_wp2_with fail
        refine (rest_any w3.heap.size a6 _ _ _ w6 rd6).mono ?_
        rintro e w' ⟨rfl, hw⟩
        obtain rfl := hw.symm
        go_wp2_with fail
        refine (equal_any a6 a2 lt lt lt lt T T w6 w3.heap.size w3.heap.size hr7 hr8 (unhide HT) (unhide HT) (by omega)).mono ?_
        rintro e w' ⟨rfl, j, rfl⟩
        go_wp2
        go_ret
        exact ⟨by simp, below_drewN b6 j⟩
      · have hno : strOk true L q = false := by
          unfold strOk
          rw [unhide Hf]
          simp only
          rw [decide_eq_false (fun h => hq h.symm)]
          rfl
        have hs := string_no w3.heap.size a3 (ne + lp + lt) (ne + lp + lt) true L q w4 w3.heap.size rd4 (hr3.below b4) (Nat.le_refl _) (unhide Hn) (Nat.le_refl _) (unhide HLb) (by omega) hno
        have hqb : (q != m) = true := by simpa using hq
        clear hno hq
        go_wp2_with fail
        refine hs.mono ?_
        clear hs
        rintro e w5 ⟨a5, rfl, rd5, hr5, b5⟩
        go_wp2_with fail
        refine (ok_any w3.heap.size _ _ w5 rd5).mono ?_
        rintro e w' ⟨rfl, hw⟩
        obtain rfl := hw.symm
        go_wp2
        go_ret
        exact ⟨rfl, b3'.trans ((b4.trans b5).mono b3'.size)⟩
  · go_enter Try.func6, Try.ntmps6
    go_wp2_with fail
    refine (over23 m q k a b lp cp lt ct w hmax).mono ?_
    rintro e w' ⟨rfl, hw⟩
    obtain rfl := hw.symm
    go_wp2
    go_ret
    exact ⟨rfl, Below.refl _ _⟩
end Go.Proofs.Qxb6601874a
