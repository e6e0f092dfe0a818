/- FnHeadWholeAnswer: the plain law and the walk. -/
import Derived.Test.Qxb6601874aLawHR
namespace Go.Proofs.Qxb6601874a
open Go.RowKit

theorem widthOf_short {i : Int} (h : i < 24) : widthOf i = 0 := by unfold widthOf; rw [if_pos h]
theorem widthOf_long {i : Int} (h0 : 24 ≤ i) (h1 : i ≤ 27) : widthOf i = szOf i ∧ infoOf (szOf i) = i ∧ (szOf i = 1 ∨ szOf i = 2 ∨ szOf i = 4 ∨ szOf i = 8) := by
  have : i = 24 ∨ i = 25 ∨ i = 26 ∨ i = 27 := by omega
  rcases this with rfl | rfl | rfl | rfl <;> decide
theorem widthOf_none {i : Int} (h : 27 < i) : widthOf i = -1 := by
  unfold widthOf
  rw [if_neg (by omega), if_neg (by omega), if_neg (by omega), if_neg (by omega), if_neg (by omega)]

/-- THE PLAIN LAW of a head that is read: the bytes consumed are just the head of (major, argument) in that width, as the independent encoder writes it. -/
theorem head_back (x : Int) (t : List Int) (hb : AllBytes (x :: t)) (h : (headOf true (x :: t)).ok = true) :
    0 ≤ widthOf (x % 32) ∧ 1 + widthOf (x % 32) ≤ ((x :: t).length : Int) ∧ 1 ≤ (headOf true (x :: t)).k ∧ (headOf true (x :: t)).k ≤ (x :: t).length ∧
    enc (headOf true (x :: t)).m (headOf true (x :: t)).n (((headOf true (x :: t)).k : Int) - 1) = some ((x :: t).take (headOf true (x :: t)).k) ∧
    0 ≤ (headOf true (x :: t)).m ∧ (headOf true (x :: t)).m < 256 ∧ 0 ≤ (headOf true (x :: t)).n ∧ (headOf true (x :: t)).n < 18446744073709551616 := by
  obtain ⟨x0, x1⟩ := hb x (by simp)
  by_cases h1 : x % 32 < 24
  · have he : headOf true (x :: t) = ⟨x - x % 32, x % 32, true, 1⟩ := by simp [headOf, h1]
    rw [he, widthOf_short h1]
    simp only
    refine ⟨by omega, by rw [List.length_cons]; omega, by omega, by simp, ?_, by omega, by omega, by omega, by omega⟩
    unfold enc
    rw [if_neg (by omega), if_pos (by simp), if_neg (by omega), show x - x % 32 + x % 32 = x from by omega]
    rfl
  · by_cases h2 : x % 32 ≤ 27 ∧ szOf (x % 32) ≤ t.length
    · have he : headOf true (x :: t) = ⟨x - x % 32, num 0 (t.take (szOf (x % 32))), true, 1 + szOf (x % 32)⟩ := by simp [headOf, h1, h2]
      rw [he]
      simp only
      obtain ⟨h2, h3⟩ := h2
      obtain ⟨w1, w2, w3⟩ := widthOf_long (i := x % 32) (by omega) h2
      have hl : (t.take (szOf (x % 32))).length = szOf (x % 32) := by rw [List.length_take]; omega
      have hbt : AllBytes (t.take (szOf (x % 32))) := fun y hy => hb y (by simp [List.mem_of_mem_take hy])
      obtain ⟨n0, n1⟩ := num_bound 0 _ (by omega) hbt
      rw [hl, Int.zero_add, Int.one_mul] at n1
      have n2 : num 0 (t.take (szOf (x % 32))) < 18446744073709551616 := by
        refine Int.lt_of_lt_of_le n1 ?_
        rcases w3 with h | h | h | h <;> rw [h] <;> decide
      refine ⟨by omega, by rw [List.length_cons]; omega, by omega, by rw [List.length_cons]; omega, ?_, by omega, by omega, n0, n2⟩
      have e2 : (((1 + szOf (x % 32) : Nat) : Int) - 1) = (szOf (x % 32) : Int) := by omega
      have e3 := be_num 0 _ hbt
      rw [hl] at e3
      unfold enc
      rw [e2, if_neg (by omega), if_neg (by omega), if_pos (by omega), Int.toNat_natCast, if_neg (by omega), w2, show x - x % 32 + x % 32 = x from by omega, e3, Nat.add_comm, List.take_succ_cons]
    · have he : headOf true (x :: t) = ⟨0, 0, false, 1⟩ := by simp only [headOf]; rw [if_neg h1, if_neg h2]
      rw [he] at h
      cases h

/-- .. of one that is refused. -/
theorem head_refused (x : Int) (t : List Int) (h : (headOf true (x :: t)).ok = false) :
    headOf true (x :: t) = ⟨0, 0, false, 1⟩ ∧ (widthOf (x % 32) = -1 ∨ (0 ≤ widthOf (x % 32) ∧ widthOf (x % 32) ≤ 8 ∧ ((x :: t).length : Int) < 1 + widthOf (x % 32))) := by
  by_cases h1 : x % 32 < 24
  · have he : headOf true (x :: t) = ⟨x - x % 32, x % 32, true, 1⟩ := by simp [headOf, h1]
    rw [he] at h; cases h
  · by_cases h2 : x % 32 ≤ 27 ∧ szOf (x % 32) ≤ t.length
    · have he : headOf true (x :: t) = ⟨x - x % 32, num 0 (t.take (szOf (x % 32))), true, 1 + szOf (x % 32)⟩ := by simp [headOf, h1, h2]
      rw [he] at h; cases h
    · refine ⟨by simp only [headOf]; rw [if_neg h1, if_neg h2], ?_⟩
      by_cases h3 : 27 < x % 32
      · exact .inl (widthOf_none h3)
      · obtain ⟨w1, w2, w3⟩ := widthOf_long (i := x % 32) (by omega) (by omega)
        have h4 : ¬ szOf (x % 32) ≤ t.length := fun h => h2 ⟨by omega, h⟩
        refine .inr ⟨by omega, by omega, ?_⟩
        rw [w1, List.length_cons]
        omega

theorem suffix_drop (l : List Int) (k : Nat) (h : k ≤ l.length) : suffixB (l.drop k) l = true := by
  unfold suffixB
  rw [decide_eq_true]
  rw [List.length_drop]
  exact ⟨by omega, by rw [show l.length - (l.length - k) = k from by omega]⟩

theorem over9 (a : Option Addr) (len cap : Nat) (ok : Bool) (w : World) (h : ¬ len ≤ 1048576) :
    Calls Try.prog 9 #[.slice a len cap, .bool ok] w fun e w' => e = .returned (.bool false) ∧ w' = w := by
  go_enter Try.func9, Try.ntmps9
  go_wp2
  go_ret
  exact ⟨rfl, rfl⟩

set_option maxHeartbeats 1000000 in
theorem lawHW (a : Option Addr) (len cap : Nat) (ok : Bool) (l : List Int) (w : World) (hr : Row w w.heap.size a l) (hl : l.length = len) (hb : AllBytes l) (hn : a = none → cap = 0) :
    Calls Try.prog 3 #[.slice a len cap, .bool ok] w fun e w' => e = .returned (.bool true) ∧ Below w.heap.size w w' := by
  by_cases hmax : len ≤ 1048576
  · have HA := hide hl
    have hbb := hide hb
    have hnn := hide hn
    clear hl hb hn
    go_enter Try.func3, Try.ntmps3
    go_wp2_with fail
    refine (small9 a len cap ok w hmax).mono ?_
    rintro e w' ⟨rfl, hw⟩
    obtain rfl := hw.symm
    go_wp2_with fail
    refine (clone_any a len cap l w hr (unhide HA) hmax (unhide hnn)).mono ?_
    rintro e w1 ⟨a1, rfl, hr1, b1⟩
    go_wp2_with fail
    refine (newReader_any a1 len len ok w1).mono ?_
    rintro e w2 ⟨rfl, rd2, b2⟩
    go_wp2_with fail
    refine (head_any w1.heap.size a1 len len ok l w2 w1.heap.size rd2 (hr1.below b2) (Nat.le_refl _) (unhide HA) (Nat.le_refl _) (unhide hbb)).mono ?_
    rintro e w3 ⟨a3, rfl, rd3, hr3, b3⟩
    have hB : Below w.heap.size w w3 := b1.trans ((b2.trans b3).mono b1.size)
    have hr1' : Row w3 w1.heap.size a1 l := (hr1.below b2).below b3
    have hle3 : w1.heap.size ≤ w3.heap.size := (b2.trans b3).size
    clear b1 b2 b3 hr1 rd2
    go_wp2_with fail
    refine (rest_any w1.heap.size a3 _ _ _ w3 rd3).mono ?_
    rintro e w' ⟨rfl, hw⟩
    obtain rfl := hw.symm
    go_wp2_with fail
    refine (ok_any w1.heap.size _ _ w3 rd3).mono ?_
    rintro e w' ⟨rfl, hw⟩
    obtain rfl := hw.symm
    clear rd3
    by_cases hdead : ok = false ∨ l = []
    · have he : headOf ok l = ⟨0, 0, false, 0⟩ := by
        rcases hdead with rfl | rfl
        · rfl
        · cases ok <;> rfl
      rw [he] at hr3 ⊢
      have hsf := suffix_drop l 0 (by omega)
      have hsu := suffix_any a3 a1 len len len len (l.drop 0) l w3 w1.heap.size w1.heap.size hr3 hr1' (unhide HA) (unhide HA) (by omega) (Nat.le_refl _)
      rw [hsf] at hsu
      have HS := hide hsu
      clear hsu hsf he
      have hlen0 : ok = true → len = 0 := fun h => by
        rcases hdead with h' | h'
        · rw [h] at h'; cases h'
        · rw [← unhide HA, h']; rfl
      clear hdead
      simp only [Nat.sub_zero]
      cases ok with
      | false =>
        go_wp2_with fail
        refine (unhide HS).mono ?_
        rintro e w' ⟨rfl, n, rfl⟩
        go_wp2
        go_ret
        exact ⟨by simp, below_drewN hB n⟩
      | true =>
        obtain rfl : len = 0 := hlen0 rfl
        go_wp2_with fail
        refine (unhide HS).mono ?_
        rintro e w' ⟨rfl, n, rfl⟩
        go_wp2
        go_ret
        exact ⟨by simp, below_drewN hB n⟩
    · obtain rfl : ok = true := by cases ok <;> simp_all
      cases l with
      | nil => exact absurd (.inr rfl) hdead
      | cons x t =>
        clear hdead
        obtain ⟨x0, x1⟩ := unhide hbb x (by simp)
        obtain ⟨g, o, rfl, hg, hc⟩ := hr1'.open (by simp)
        have hx : w3.cell? ⟨g, o, none⟩ = some (.int .u8 x) := by simpa using hc 0 (by simp)
        clear hc
        have hpos : 1 ≤ len := by rw [← unhide HA]; simp
        have hpz : (0 : Int) < (len : Int) := by omega
        have e31 := u8_and31 x x0 x1
        cases hok : (headOf true (x :: t)).ok with
        | false =>
          obtain ⟨he, hw⟩ := head_refused x t hok
          rw [unhide HA] at hw
          rw [he] at hr3 ⊢
          clear he hok
          simp only
          have hsf := suffix_drop (x :: t) 1 (by simp)
          have hsu := suffix_any a3 (some ⟨g, o, none⟩) (len - 1) len (len - 1) len ((x :: t).drop 1) (x :: t) w3 w1.heap.size w1.heap.size hr3 hr1' (by rw [List.length_drop, unhide HA]) (unhide HA) (by omega) (Nat.le_refl _)
          rw [hsf] at hsu
          have HS := hide hsu
          clear hsu hsf
          have hacc : (((len - 1 : Nat) : Int) + 1 == (len : Int)) = true := by simp; omega
          go_wp2_with fail
          refine (width_any (x % 32) w3).mono ?_
          rintro e w' ⟨rfl, hww⟩
          obtain rfl := hww.symm
          generalize widthOf (x % 32) = wd at *
          rcases hw with rfl | ⟨hw0, hw8, hw1⟩
          case' inr => have hd : decide (1 + wd ≤ (len : Int)) = false := by simp; omega
          all_goals
            go_wp2_with fail
            refine (unhide HS).mono ?_
            rintro e w' ⟨rfl, n, rfl⟩
            go_wp2
            go_ret
            exact ⟨by simp, below_drewN hB n⟩
        | true =>
          have hf := head_back x t (unhide hbb) hok
          rw [unhide HA] at hf
          generalize headOf true (x :: t) = H at *
          obtain ⟨wd0, wd1, hk1, hk2, henc, m0, m1, n0, n1⟩ := hf
          have hsf := suffix_drop (x :: t) H.k (by rw [unhide HA]; exact hk2)
          have hsu := suffix_any a3 (some ⟨g, o, none⟩) (len - H.k) len (len - H.k) len ((x :: t).drop H.k) (x :: t) w3 w1.heap.size w1.heap.size hr3 hr1' (by rw [List.length_drop, unhide HA]) (unhide HA) (by omega) (Nat.le_refl _)
          rw [hsf] at hsu
          have HS := hide hsu
          have HE := hide henc
          have HO := hide hok
          clear hsu hsf henc hok
          go_wp2_with fail
          refine (width_any (x % 32) w3).mono ?_
          rintro e w' ⟨rfl, hww⟩
          obtain rfl := hww.symm
          generalize widthOf (x % 32) = wd at *
          have wd1' : 1 + wd ≤ 1048576 := by omega
          go_wp2_with fail
          refine (unhide HS).mono ?_
          rintro e w' ⟨rfl, n, rfl⟩
          go_wp2_with fail
          have hr1'' : Row (w3.drewN n) w1.heap.size (some ⟨g, o, none⟩) (x :: t) := hr1'.below (below_drewN (Below.refl _ _) n)
          have hB' : Below w.heap.size w (w3.drewN n) := below_drewN hB n
          have hs3 : w1.heap.size ≤ (w3.drewN n).heap.size := hle3
          clear hr3 hr1' hx hB hle3
          generalize w3.drewN n = w4 at *
          refine (enc_some H.m H.n _ ((x :: t).take H.k) w4 m0 m1 n0 n1 (by rw [← unhide HE]; congr 1; omega)).mono ?_
          rintro e w5 ⟨a5, rfl, hr5, b5⟩
          rw [show ((x :: t).take H.k).length = H.k from by rw [List.length_take, unhide HA]; omega]
          go_wp2_with fail
          have hlt : ((x :: t).take H.k).length = H.k := by rw [List.length_take, unhide HA]; omega
          refine (equal_any a5 (some ⟨g, o, none⟩) H.k (len - (len - H.k)) H.k len ((x :: t).take H.k) ((x :: t).take H.k) w5 w5.heap.size w1.heap.size hr5 ((hr1''.take H.k).below (b5.mono hs3)) hlt (by rw [hlt]; omega) (by omega)).mono ?_
          rintro e w' ⟨rfl, q, rfl⟩
          go_wp2
          go_ret
          exact ⟨by simp, below_drewN (hB'.trans (b5.mono hB'.size)) q⟩
  · go_enter Try.func3, Try.ntmps3
    go_wp2_with fail
    refine (over9 a len cap ok w hmax).mono ?_
    rintro e w' ⟨rfl, hw⟩
    obtain rfl := hw.symm
    go_wp2
    go_ret
    exact ⟨rfl, Below.refl _ _⟩
end Go.Proofs.Qxb6601874a
