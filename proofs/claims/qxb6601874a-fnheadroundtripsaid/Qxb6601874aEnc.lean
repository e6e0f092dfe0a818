/- The walk of zzCbEncodeHead. -/
import Derived.Test.Qxb6601874aPlain
namespace Go.Proofs.Qxb6601874a
open Go.RowKit

set_option maxHeartbeats 400000 in
theorem enc_major (m n k : Int) (w : World) (h0 : 0 ≤ m) (h1 : m < 256) (hm : ¬ m % 32 = 0) :
    Calls Try.prog 17 #[.int .u8 m, .int .u64 n, .int .i64 k] w fun e w' => e = .returned (.tuple #[.slice none 0 0, .bool false]) ∧ w' = w := by
  have ha := u8_and31 m h0 h1
  have hb : (m % 32 != 0) = true := by simpa using hm
  go_enter Try.func17, Try.ntmps17
  go_wp2
  go_ret2
  exact ⟨rfl, rfl⟩

set_option maxHeartbeats 400000 in
theorem enc_zero_no (m n : Int) (w : World) (h0 : 0 ≤ m) (h1 : m < 256) (hm : m % 32 = 0) (hn : 24 ≤ n) :
    Calls Try.prog 17 #[.int .u8 m, .int .u64 n, .int .i64 0] w fun e w' => e = .returned (.tuple #[.slice none 0 0, .bool false]) ∧ w' = w := by
  have ha := u8_and31 m h0 h1
  go_enter Try.func17, Try.ntmps17
  go_wp2
  go_ret2
  exact ⟨rfl, rfl⟩

set_option maxHeartbeats 400000 in
theorem enc_zero_yes (m n : Int) (w : World) (h0 : 0 ≤ m) (h1 : m < 256) (hm : m % 32 = 0) (hn0 : 0 ≤ n) (hn : ¬ 24 ≤ n) :
    Calls Try.prog 17 #[.int .u8 m, .int .u64 n, .int .i64 0] w fun e w' => e = .returned (.tuple #[.slice (some ⟨w.heap.size, 0, none⟩) 1 1, .bool true]) ∧ w' = w.alloc (.cells (cellsTo [m + n] 1) 5) := by
  have ha := u8_and31 m h0 h1
  have ho := u8_or_join m n h0 h1 hm hn0 (by omega)
  go_enter Try.func17, Try.ntmps17
  go_wp2
  go_ret2
  exact ⟨rfl, by simp [cellsTo]⟩

set_option maxHeartbeats 400000 in
theorem enc_other (m n k : Int) (w : World) (h0 : 0 ≤ m) (h1 : m < 256) (hm : m % 32 = 0) (h2 : ¬ k = 0) (h3 : ¬ (k = 1 ∨ k = 2 ∨ k = 4 ∨ k = 8)) :
    Calls Try.prog 17 #[.int .u8 m, .int .u64 n, .int .i64 k] w fun e w' => e = .returned (.tuple #[.slice none 0 0, .bool false]) ∧ w' = w := by
  have ha := u8_and31 m h0 h1
  go_enter Try.func17, Try.ntmps17
  go_wp2
  go_ret2
  exact ⟨rfl, rfl⟩

set_option maxHeartbeats 400000 in
theorem enc_wide_no (m n : Int) (k : Nat) (w : World) (h0 : 0 ≤ m) (h1 : m < 256) (hm : m % 32 = 0) (hk : k = 1 ∨ k = 2 ∨ k = 4) (h2 : 0 ≤ n) (h3 : n < 18446744073709551616) (hn : (256 ^ k : Int) ≤ n) :
    Calls Try.prog 17 #[.int .u8 m, .int .u64 n, .int .i64 k] w fun e w' => e = .returned (.tuple #[.slice none 0 0, .bool false]) ∧ w' = w := by
  have ha := u8_and31 m h0 h1
  rcases hk with rfl | rfl | rfl
  all_goals
    simp at hn
    go_enter Try.func17, Try.ntmps17
    go_wp2
    go_ret2
    exact ⟨rfl, rfl⟩

/-- The new row while the argument's bytes are laid from its end: the first byte, 'i' bytes still nought, the rest laid. -/
def encArr (hd : Int) (i : Nat) (tl : List Int) : Array Value := ((hd :: List.replicate i 0 ++ tl).map (Value.int .u8)).toArray

theorem encArr_made (hd : Int) (k : Nat) : (madeCells #[.int .u8 0] (k + 1)).setIfInBounds 0 (.int .u8 hd) = encArr hd k [] := by
  apply Array.toList_inj.1
  rw [Array.toList_setIfInBounds, toList_madeCells_one]
  simp [encArr, List.replicate_succ]

theorem encArr_at (hd : Int) (i : Nat) (tl : List Int) : (encArr hd (i + 1) tl)[i + 1]? = some (.int .u8 0) := by
  simp [encArr, List.getElem?_append]

theorem encArr_set (hd : Int) (i : Nat) (tl : List Int) (x : Int) : (encArr hd (i + 1) tl).setIfInBounds (i + 1) (.int .u8 x) = encArr hd i (x :: tl) := by
  unfold encArr
  apply Array.toList_inj.1
  rw [Array.toList_setIfInBounds, List.replicate_succ']
  simp

theorem encArr_end (hd : Int) (tl : List Int) : encArr hd 0 tl = cellsTo (hd :: tl) (tl.length + 1) := by
  simp [encArr, cellsTo]

set_option maxHeartbeats 400000 in
theorem enc_wide_yes (m n : Int) (k : Nat) (w : World) (h0 : 0 ≤ m) (h1 : m < 256) (hm : m % 32 = 0) (hk : k = 1 ∨ k = 2 ∨ k = 4 ∨ k = 8) (h2 : 0 ≤ n) (h3 : n < 18446744073709551616) (hn : n < (256 ^ k : Int)) :
    Calls Try.prog 17 #[.int .u8 m, .int .u64 n, .int .i64 k] w fun e w' => e = .returned (.tuple #[.slice (some ⟨w.heap.size, 0, none⟩) (k + 1) (k + 1), .bool true]) ∧ w' = w.alloc (.cells (cellsTo ((m + infoOf k) :: be n k) (k + 1)) 5) := by
  have ha := u8_and31 m h0 h1
  have ho : bits .or .u8 m (infoOf k) = m + infoOf k := u8_or_join m _ h0 h1 hm (by unfold infoOf; repeat' split; all_goals omega) (by unfold infoOf; repeat' split; all_goals omega)
  have hmk := run_make_row' (P := Try.prog) 22 5 (.int .u8 0) 1 Try.underlying22 Try.info5 rfl .i64 .i64 (k + 1) (by omega) (by omega)
  have hea := encArr_made (m + infoOf k) k
  have hm0 : (madeCells #[.int .u8 0] (k + 1))[0]? = some (.int .u8 0) := by rw [← Array.getElem?_toList, toList_madeCells_one]; simp
  obtain ⟨hd, Hd⟩ : ∃ hd, Hid (m + infoOf k = hd) := ⟨_, rfl⟩
  obtain ⟨F, HF⟩ : ∃ F, Hid (be n k = F) := ⟨_, rfl⟩
  obtain ⟨K, HK⟩ : ∃ K, Hid (k = K) := ⟨_, rfl⟩
  have hKk : K ≤ k := Nat.le_of_eq (unhide HK).symm
  rw [unhide Hd] at ho hea
  rw [unhide Hd, unhide HF]
  rcases hk with rfl | rfl | rfl | rfl
  case' inl => have hq : (n / 256 != 0) = false := by simp at hn ⊢; omega
  case' inr.inl => have hq : (n / 65536 != 0) = false := by simp at hn ⊢; omega
  case' inr.inr.inl => have hq : (n / 4294967296 != 0) = false := by simp at hn ⊢; omega
  all_goals
    simp only [infoOf] at ho
    simp at hn hmk ho hea hm0
    have HE := hide hea
    clear hea hn
    go_enter Try.func17, Try.ntmps17
    go_wp2
    rw [unhide HE]
    clear hmk hm0 HE
    go_loopw [10, 11] (fun v i wr => ∃ (j : Nat) (V : Int) (tl : List Int), j ≤ K ∧ i = .int .i64 j ∧ v = .int .u64 V ∧ 0 ≤ V ∧ V < 18446744073709551616 ∧ be V j ++ tl = F ∧ wr = w.alloc (.cells (encArr hd j tl) 5)) (fun _ i _ => (intOf i).toNat)
    case atStart => exact ⟨_, n, [], Nat.le_of_eq (unhide HK), rfl, rfl, h2, h3, by rw [unhide HF, List.append_nil], rfl⟩
    case round =>
      obtain ⟨j, V, tl, hj, rfl, rfl, hV0, hV1, hbe, rfl⟩ := hrel
      have HB := hide hbe
      clear hbe
      by_cases hj1 : 1 ≤ j
      · obtain ⟨q, rfl⟩ : ∃ q, j = q + 1 := ⟨j - 1, by omega⟩
        have hat := encArr_at hd q tl
        have HS := hide (encArr_set hd q tl (V % 256))
        have hand := u64_and255 V hV0 hV1
        go_wp2
        go_roundw
        case rel => exact ⟨q, V / 256, V % 256 :: tl, by omega, by go_num, rfl, by omega, by omega, by rw [← unhide HB, be]; simp, by rw [unhide HS]⟩
        case measure => simp [intOf]
      · obtain rfl : j = 0 := by omega
        go_wp2
        go_ret2
        refine ⟨rfl, ?_⟩
        have e : tl = F := unhide HB
        have e2 := congrArg List.length (unhide HF)
        rw [be_length] at e2
        rw [encArr_end, e, ← e2]

/-- It refuses. -/
theorem enc_none (m n k : Int) (w : World) (h0 : 0 ≤ m) (h1 : m < 256) (h2 : 0 ≤ n) (h3 : n < 18446744073709551616) (h : enc m n k = none) :
    Calls Try.prog 17 #[.int .u8 m, .int .u64 n, .int .i64 k] w fun e w' => e = .returned (.tuple #[.slice none 0 0, .bool false]) ∧ w' = w := by
  unfold enc at h
  by_cases hm : m % 32 = 0
  · rw [if_neg (by simpa using hm)] at h
    by_cases hk0 : k = 0
    · subst hk0
      rw [if_pos rfl] at h
      by_cases hn : 24 ≤ n
      · exact enc_zero_no m n w h0 h1 hm hn
      · rw [if_neg hn] at h; cases h
    · rw [if_neg hk0] at h
      by_cases hk : k = 1 ∨ k = 2 ∨ k = 4 ∨ k = 8
      · rw [if_pos hk] at h
        by_cases hw : k < 8 ∧ 256 ^ k.toNat ≤ n
        · obtain ⟨q, rfl⟩ := Int.eq_ofNat_of_zero_le (show 0 ≤ k by omega)
          exact enc_wide_no m n q w h0 h1 hm (by omega) h2 h3 hw.2
        · rw [if_neg hw] at h; cases h
      · exact enc_other m n k w h0 h1 hm hk0 hk
  · exact enc_major m n k w h0 h1 hm

/-- It writes the head. -/
theorem enc_some (m n k : Int) (l : List Int) (w : World) (h0 : 0 ≤ m) (h1 : m < 256) (h2 : 0 ≤ n) (h3 : n < 18446744073709551616) (h : enc m n k = some l) :
    Calls Try.prog 17 #[.int .u8 m, .int .u64 n, .int .i64 k] w fun e w' => ∃ a, e = .returned (.tuple #[.slice a l.length l.length, .bool true]) ∧ Row w' w'.heap.size a l ∧ Below w.heap.size w w' := by
  have fin : ∀ (c : Nat), l.length = c → ∀ (e : Ending) (w' : World), e = .returned (.tuple #[.slice (some ⟨w.heap.size, 0, none⟩) c c, .bool true]) ∧ w' = w.alloc (.cells (cellsTo l c) 5) →
      ∃ a, e = .returned (.tuple #[.slice a l.length l.length, .bool true]) ∧ Row w' w'.heap.size a l ∧ Below w.heap.size w w' := by
    rintro c rfl e w' ⟨rfl, rfl⟩
    exact ⟨_, rfl, row_new w l _ rfl _ (by simp), (Below.refl _ _).alloc (Nat.le_refl _) _⟩
  unfold enc at h
  by_cases hm : m % 32 = 0
  · rw [if_neg (by simpa using hm)] at h
    by_cases hk0 : k = 0
    · subst hk0
      rw [if_pos rfl] at h
      by_cases hn : 24 ≤ n
      · rw [if_pos hn] at h; cases h
      · rw [if_neg hn] at h
        cases h
        exact (enc_zero_yes m n w h0 h1 hm h2 hn).mono (fin 1 rfl)
    · rw [if_neg hk0] at h
      by_cases hk : k = 1 ∨ k = 2 ∨ k = 4 ∨ k = 8
      · rw [if_pos hk] at h
        by_cases hw : k < 8 ∧ 256 ^ k.toNat ≤ n
        · rw [if_pos hw] at h; cases h
        · rw [if_neg hw] at h
          cases h
          obtain ⟨q, rfl⟩ := Int.eq_ofNat_of_zero_le (show 0 ≤ k by omega)
          have hn : n < (256 ^ q : Int) := by
            by_cases h8 : q = 8
            · subst h8; exact h3
            · by_cases hh : (256 ^ q : Int) ≤ n
              · exact absurd ⟨by omega, hh⟩ hw
              · omega
          exact (enc_wide_yes m n q w h0 h1 hm (by omega) h2 h3 hn).mono (fin (q + 1) (by rw [List.length_cons, be_length]; rfl))
      · rw [if_neg hk] at h; cases h
  · rw [if_pos (by simpa using hm)] at h; cases h
end Go.Proofs.Qxb6601874a
