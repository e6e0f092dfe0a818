/- FnHeadRoundTrip: the plain law and the walk. -/
import Derived.Test.Qxb6601874aLawBR
import Derived.Test.Qxb6601874aEnc
namespace Go.Proofs.Qxb6601874a
open Go.RowKit

theorem infoOf_cases {k : Int} (h : k = 1 ∨ k = 2 ∨ k = 4 ∨ k = 8) : 24 ≤ infoOf k ∧ infoOf k ≤ 27 ∧ szOf (infoOf k) = k.toNat := by
  rcases h with rfl | rfl | rfl | rfl <;> decide

theorem enc_bytes {m n k : Int} {e : List Int} (h0 : 0 ≤ m) (h1 : m < 256) (h2 : 0 ≤ n) (h : enc m n k = some e) : AllBytes e ∧ 1 ≤ e.length ∧ e.length ≤ 9 := by
  unfold enc at h
  by_cases hm : m % 32 = 0
  · rw [if_neg (by simpa using hm)] at h
    by_cases hk0 : k = 0
    · rw [if_pos hk0] at h
      by_cases hn : 24 ≤ n
      · rw [if_pos hn] at h; cases h
      · rw [if_neg hn] at h
        cases h
        exact ⟨fun x hx => by simp at hx; omega, by simp, by simp⟩
    · rw [if_neg hk0] at h
      by_cases hk : k = 1 ∨ k = 2 ∨ k = 4 ∨ k = 8
      · rw [if_pos hk] at h
        by_cases hw : k < 8 ∧ 256 ^ k.toNat ≤ n
        · rw [if_pos hw] at h; cases h
        · rw [if_neg hw] at h
          cases h
          obtain ⟨i1, i2, _⟩ := infoOf_cases hk
          refine ⟨fun x hx => ?_, by simp, by rw [List.length_cons, be_length]; omega⟩
          rcases List.mem_cons.1 hx with rfl | hx
          · omega
          · exact be_bytes _ _ x hx
      · rw [if_neg hk] at h; cases h
  · rw [if_pos (by simpa using hm)] at h; cases h

/-- THE PLAIN LAW: what the encoder writes, Head reads back. -/
theorem head_enc {m n k : Int} {e : List Int} (h2 : 0 ≤ n) (h3 : n < 18446744073709551616) (h : enc m n k = some e) (T : List Int) : headOf true (e ++ T) = ⟨m, n, true, e.length⟩ := by
  unfold enc at h
  by_cases hm : m % 32 = 0
  · rw [if_neg (by simpa using hm)] at h
    by_cases hk0 : k = 0
    · rw [if_pos hk0] at h
      by_cases hn : 24 ≤ n
      · rw [if_pos hn] at h; cases h
      · rw [if_neg hn] at h
        cases h
        have e1 : (m + n) % 32 = n := by omega
        simp only [List.cons_append, List.nil_append, headOf, e1]
        rw [if_pos (by omega), show m + n - n = m from by omega]
        rfl
    · rw [if_neg hk0] at h
      by_cases hk : k = 1 ∨ k = 2 ∨ k = 4 ∨ k = 8
      · rw [if_pos hk] at h
        by_cases hw : k < 8 ∧ 256 ^ k.toNat ≤ n
        · rw [if_pos hw] at h; cases h
        · rw [if_neg hw] at h
          cases h
          obtain ⟨i1, i2, i3⟩ := infoOf_cases hk
          have e1 : (m + infoOf k) % 32 = infoOf k := by omega
          have e2 : n < (256 : Int) ^ k.toNat := by
            by_cases h8 : k = 8
            · subst h8; exact h3
            · by_cases hh : (256 : Int) ^ k.toNat ≤ n
              · exact absurd ⟨by omega, hh⟩ hw
              · omega
          simp only [List.cons_append, headOf, e1, i3]
          rw [if_neg (by omega), if_pos ⟨i2, by rw [List.length_append, be_length]; omega⟩, show m + infoOf k - infoOf k = m from by omega,
            List.take_append_of_le_length (by rw [be_length]; omega), List.take_of_length_le (by rw [be_length]; omega), num_be n h2 _ e2, List.length_cons, be_length, Nat.add_comm]
      · rw [if_neg hk] at h; cases h
  · rw [if_pos (by simpa using hm)] at h; cases h

theorem small19 (m n k : Int) (a : Option Addr) (len cap : Nat) (w : World) (h : len ≤ 1048576) :
    Calls Try.prog 19 #[.int .u8 m, .int .u64 n, .int .i64 k, .slice a len cap] w fun e w' => e = .returned (.bool true) ∧ w' = w := by
  go_enter Try.func19, Try.ntmps19
  go_wp2
  go_ret
  exact ⟨rfl, rfl⟩

theorem great19 (m n k : Int) (a : Option Addr) (len cap : Nat) (w : World) (h : ¬ len ≤ 1048576) :
    Calls Try.prog 19 #[.int .u8 m, .int .u64 n, .int .i64 k, .slice a len cap] w fun e w' => e = .returned (.bool false) ∧ w' = w := by
  go_enter Try.func19, Try.ntmps19
  go_wp2
  go_ret
  exact ⟨rfl, rfl⟩

set_option maxHeartbeats 1000000 in
theorem lawHR (m n k : Int) (a : Option Addr) (len cap : Nat) (l : List Int) (w : World) (m0 : 0 ≤ m) (m1 : m < 256) (n0 : 0 ≤ n) (n1 : n < 18446744073709551616)
    (hr : Row w w.heap.size a l) (hl : l.length = len) (hb : AllBytes l) (hn : a = none → cap = 0) :
    Calls Try.prog 4 #[.int .u8 m, .int .u64 n, .int .i64 k, .slice a len cap] w fun e w' => e = .returned (.bool true) ∧ Below w.heap.size w w' := by
  by_cases hmax : len ≤ 1048576
  · have HA := hide hl
    have hnn := hide hn
    have hbb := hide hb
    clear hl hn hb
    cases he : enc m n k with
    | none =>
      have HE := hide he
      clear he
      go_enter Try.func4, Try.ntmps4
      go_wp2_with fail
      refine (small19 m n k a len cap w hmax).mono ?_
      rintro e w' ⟨rfl, hw⟩
      obtain rfl := hw.symm
      go_wp2_with fail
      refine (enc_none m n k w m0 m1 n0 n1 (unhide HE)).mono ?_
      rintro e w' ⟨rfl, hw⟩
      obtain rfl := hw.symm
      go_wp2
      go_ret
      exact ⟨rfl, Below.refl _ _⟩
    | some E =>
      have HE := hide he
      obtain ⟨ebb, el1, el9⟩ := enc_bytes m0 m1 n0 he
      have Hbb := hide ebb
      obtain ⟨L, HL, Hf, Hd, Hn, HLb⟩ : ∃ L : List Int, Hid (E ++ l ++ [] = L) ∧ Hid (headOf true L = ⟨m, n, true, E.length⟩) ∧ Hid (L.drop E.length = l) ∧ Hid (L.length = E.length + len) ∧ Hid (AllBytes L) := by
        refine ⟨E ++ l, ?_, head_enc n0 n1 he l, ?_, ?_, ?_⟩
        · show _ = _; simp
        · show List.drop _ _ = _; simp
        · show List.length _ = _; rw [List.length_append, unhide HA]
        · intro x hx
          rcases List.mem_append.1 hx with hx | hx
          · exact ebb x hx
          · exact unhide hbb x hx
      clear he ebb
      obtain ⟨ne, hne⟩ : ∃ ne, Hid (E.length = ne) := ⟨_, rfl⟩
      rw [unhide hne] at el1 el9 Hf Hd Hn
      go_enter Try.func4, Try.ntmps4
      go_wp2_with fail
      refine (small19 m n k a len cap w hmax).mono ?_
      rintro e w' ⟨rfl, hw⟩
      obtain rfl := hw.symm
      go_wp2_with fail
      refine (enc_some m n k E w m0 m1 n0 n1 (unhide HE)).mono ?_
      rintro e w0 ⟨a0, rfl, hr0, b0⟩
      rw [unhide hne]
      have hra := (hr.below b0).mono b0.size
      go_wp2_with fail
      refine (clone_any a len cap l w0 hra (unhide HA) hmax (unhide hnn)).mono ?_
      rintro e w1 ⟨a1, rfl, hr1, b1⟩
      have hr0' := (hr0.below b1).mono b1.size
      go_wp2_with fail
      refine (concat_row a0 a1 none ne len 0 ne len 0 E l [] w1 hr0' hr1 (Row.nil _ _ _) (unhide hne) (unhide HA) rfl (by omega) hmax (by omega)).mono ?_
      rintro e w2 ⟨a2, rfl, hr2, b2⟩
      rw [unhide HL] at hr2
      have b2' : Below w.heap.size w w2 := b0.trans ((b1.trans (b2.mono b1.size)).mono b0.size)
      have hr1' : Row w2 w2.heap.size a1 l := (hr1.below b2).mono b2.size
      clear b2 hr1 HL b1 b0 hr0 hr0' hra
      go_wp2_with fail
      refine (newReader_any a2 (ne + len) (ne + len) true w2).mono ?_
      rintro e w3 ⟨rfl, rd3, b3⟩
      have hb := head_any w2.heap.size a2 (ne + len) (ne + len) true L w3 w2.heap.size rd3 (hr2.below b3) (Nat.le_refl _) (unhide Hn) (Nat.le_refl _) (unhide HLb)
      rw [unhide Hf] at hb
      simp only at hb
      rw [unhide Hd, show ne + len - ne = len from by omega] at hb
      go_wp2_with fail
      refine hb.mono ?_
      clear hb
      rintro e w4 ⟨a4, rfl, rd4, hr4, b4⟩
      have hr4' : Row w4 w2.heap.size a1 l := (hr1'.below b3).below b4
      have hr2' : Row w4 w2.heap.size a2 L := (hr2.below b3).below b4
      have b4' : Below w.heap.size w w4 := b2'.trans ((b3.trans b4).mono b2'.size)
      have hle : w2.heap.size ≤ w4.heap.size := (b3.trans b4).size
      clear b3 b4 rd3 hr1' b2' hr2
      go_wp2_with fail
      refine (ok_any w2.heap.size _ _ w4 rd4).mono ?_
      rintro e w' ⟨rfl, hw⟩
      obtain rfl := hw.symm
      go_wp2_with fail
      refine (rest_any w2.heap.size a4 _ _ _ w4 rd4).mono ?_
      rintro e w' ⟨rfl, hw⟩
      obtain rfl := hw.symm
      go_wp2_with fail
      refine (equal_any a4 a1 len len len len l l w4 w2.heap.size w2.heap.size hr4 hr4' (unhide HA) (unhide HA) (by omega)).mono ?_
      rintro e w' ⟨rfl, q, rfl⟩
      have hr5 : Row (w4.drewN q) w2.heap.size a2 L := hr2'.below (below_drewN (Below.refl _ _) q)
      have b5 : Below w.heap.size w (w4.drewN q) := below_drewN b4' q
      have hle5 : w2.heap.size ≤ (w4.drewN q).heap.size := hle
      clear hr4 hr4' hr2' b4' hle rd4
      generalize w4.drewN q = w5 at *
      go_wp2_with fail
      refine (newReader_any a2 (ne + len) (ne + len) false w5).mono ?_
      rintro e w6 ⟨rfl, rd6, b6⟩
      have hb := head_any w5.heap.size a2 (ne + len) (ne + len) false L w6 w2.heap.size rd6 (hr5.below (b6.mono hle5)) hle5 (unhide Hn) (Nat.le_refl _) (unhide HLb)
      rw [show headOf false L = ⟨0, 0, false, 0⟩ from rfl] at hb
      go_wp2_with fail
      refine hb.mono ?_
      clear hb
      rintro e w7 ⟨a7, rfl, rd7, hr7, b7⟩
      go_wp2_with fail
      refine (ok_any w5.heap.size _ _ w7 rd7).mono ?_
      rintro e w' ⟨rfl, hw⟩
      obtain rfl := hw.symm
      go_wp2
      go_ret
      exact ⟨rfl, b5.trans ((b6.trans b7).mono b5.size)⟩
  · go_enter Try.func4, Try.ntmps4
    go_wp2_with fail
    refine (great19 m n k a len cap w hmax).mono ?_
    rintro e w' ⟨rfl, hw⟩
    obtain rfl := hw.symm
    go_wp2
    go_ret
    exact ⟨rfl, Below.refl _ _⟩
end Go.Proofs.Qxb6601874a
