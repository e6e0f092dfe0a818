/- The walks of wire.lower, wire.equalFold[string], wire.EqualFold, upperASCII, foldEqual, sameBytes, sameValue. -/
import Derived.Test.Qxb6602294aCopy
import Derived.Deep.QuietTactic
import Derived.BigQuiet
namespace Go.Proofs.Qxb6602294a
open Go.RowKit

def lowr (c : Int) : Int := if 65 ≤ c ∧ c ≤ 90 then c + 32 else c
def uppr (c : Int) : Int := if 97 ≤ c ∧ c ≤ 122 then c - 32 else c

theorem ret_int {k : IntKind} {a b : Int} (h : a = b) : Ending.returned (.int k a) = .returned (.int k b) := by rw [h]

theorem lower_any (c : Int) (w : World) (h0 : 0 ≤ c) (h1 : c < 256) :
    Calls Try.prog 22 #[.int .u8 c] w fun e w' => e = .returned (.int .u8 (lowr c)) ∧ w' = w := by
  by_cases ha : 65 ≤ c
  · by_cases hb : c ≤ 90
    · rw [show lowr c = c + 32 from if_pos ⟨ha, hb⟩]
      go_enter Try.func22, Try.ntmps22
      go_wp2
      go_ret
      exact ⟨ret_int (show c + 97 - 65 = c + 32 by omega), rfl⟩
    · rw [show lowr c = c from if_neg (fun h => hb h.2)]
      go_enter Try.func22, Try.ntmps22
      go_wp2
      go_ret
      exact ⟨rfl, rfl⟩
  · rw [show lowr c = c from if_neg (fun h => ha h.1)]
    have hd : decide (65 ≤ c) = false := by simpa using ha
    go_enter Try.func22, Try.ntmps22
    go_wp2
    go_ret
    exact ⟨rfl, rfl⟩

theorem upper_any (c : Int) (w : World) (h0 : 0 ≤ c) (h1 : c < 256) :
    Calls Try.prog 19 #[.int .u8 c] w fun e w' => e = .returned (.int .u8 (uppr c)) ∧ w' = w := by
  by_cases ha : 97 ≤ c
  · by_cases hb : c ≤ 122
    · rw [show uppr c = c - 32 from if_pos ⟨ha, hb⟩]
      go_enter Try.func19, Try.ntmps19
      go_wp2
      go_ret
      exact ⟨rfl, rfl⟩
    · rw [show uppr c = c from if_neg (fun h => hb h.2)]
      go_enter Try.func19, Try.ntmps19
      go_wp2
      go_ret
      exact ⟨rfl, rfl⟩
  · rw [show uppr c = c from if_neg (fun h => ha h.1)]
    have hd : decide (97 ≤ c) = false := by simpa using ha
    go_enter Try.func19, Try.ntmps19
    go_wp2
    go_ret
    exact ⟨rfl, rfl⟩

/-- The bytes of a string, as numbers. -/
def strBytes (s : ByteArray) : List Int := s.data.toList.map fun b => (b.toNat : Int)

theorem strBytes_length (s : ByteArray) : (strBytes s).length = s.size := by simp [strBytes]
theorem strBytes_getD (s : ByteArray) (k : Nat) (h : k < s.size) : (strBytes s).getD k 0 = ((s[k].toNat : Nat) : Int) := by
  simp [strBytes, List.getD_eq_getElem?_getD, h]
  rfl
theorem strBytes_bytes (s : ByteArray) : AllBytes (strBytes s) := by
  intro x hx
  simp only [strBytes, List.mem_map] at hx
  obtain ⟨b, _, rfl⟩ := hx
  have := b.toNat_lt
  omega

/-- Equal under a folding of letters. -/
def eqUnder (f : Int → Int) (a b : List Int) : Bool := decide (a.map f = b.map f)

theorem map_take_step (f : Int → Int) {A B : List Int} {k : Nat} (ha : k < A.length) (hb : k < B.length) (h : (A.take k).map f = (B.take k).map f) (e : f (A.getD k 0) = f (B.getD k 0)) : (A.take (k + 1)).map f = (B.take (k + 1)).map f := by
  rw [← take_step ha, ← take_step hb, List.map_append, List.map_append, h]
  simp only [List.map_cons, List.map_nil, e]
theorem map_ne (f : Int → Int) {A B : List Int} {k : Nat} (ha : k < A.length) (hb : k < B.length) (e : ¬ f (A.getD k 0) = f (B.getD k 0)) : ¬ A.map f = B.map f := by
  intro h
  have := congrArg (fun l => l.getD k (f 0)) h
  simp only [List.getD_eq_getElem?_getD, List.getElem?_map, List.getElem?_eq_getElem ha, List.getElem?_eq_getElem hb, Option.map_some, Option.getD_some] at this e
  exact e this

theorem getD_byte {A : List Int} (h : AllBytes A) (k : Nat) : 0 ≤ A.getD k 0 ∧ A.getD k 0 < 256 := by
  rw [List.getD_eq_getElem?_getD]
  cases e : A[k]? with
  | none => simp
  | some c => exact h c (List.mem_of_getElem? e)

set_option maxHeartbeats 400000 in
theorem equalFold_any (a : Option Addr) (la ca : Nat) (A : List Int) (s : ByteArray) (w : World) (B : Nat) (ha : Row w B a A) (hla : A.length = la) (hb : AllBytes A) (ma : la ≤ 4194304) :
    Calls Try.prog 21 #[.slice a la ca, .string s] w fun e w' => e = .returned (.bool (eqUnder lowr A (strBytes s))) ∧ ∃ n, w' = w.drewN n := by
  have HA := hide hla
  have HB := hide hb
  have RA := hide ha
  clear hla ha hb
  by_cases hne : la = s.size
  · have hse : s.size ≤ la := Nat.le_of_eq hne.symm
    have hnb : ((la : Int) != (s.size : Int)) = false := by simp; omega
    have HN := hide hne
    clear hne
    go_enter Try.func21, Try.ntmps21
    go_wp2
    go_loopw [13] (fun i wr => ∃ k n : Nat, k ≤ la ∧ i = .int .i64 k ∧ (A.take k).map lowr = ((strBytes s).take k).map lowr ∧ wr = w.drewN n) (fun i _ => la - (intOf i).toNat)
    case atStart => exact ⟨0, 0, Nat.zero_le _, rfl, rfl, rfl⟩
    case round =>
      obtain ⟨k, n, hk, rfl, htk, hwr⟩ := hrel
      have HT := hide htk
      have HW := hide hwr
      clear htk hwr
      by_cases hlt : k < la
      · obtain ⟨g, o, rfl, hg, hck⟩ := (unhide RA).open (by have := unhide HA; omega)
        have hks : k < s.size := by have := unhide HN; omega
        obtain ⟨x, hx, ex, x0, x1⟩ : ∃ x, wr.cell? ⟨g, o + k, none⟩ = some (.int .u8 x) ∧ Hid (A.getD k 0 = x) ∧ 0 ≤ x ∧ x < 256 :=
          ⟨_, by rw [unhide HW]; exact hck k (by have := unhide HA; omega), rfl, (getD_byte (unhide HB) k).1, (getD_byte (unhide HB) k).2⟩
        clear hck
        have hlz : (k : Int) < (la : Int) := by omega
        have hlz2 : (k : Int) < (s.size : Int) := by omega
        have hy1 : (s[k].toNat : Int) < 256 := by have := s[k].toNat_lt; omega
        by_cases hxy : lowr x = lowr ((s[k].toNat : Nat) : Int)
        · have hbb : (lowr x != lowr ((s[k].toNat : Nat) : Int)) = false := by simpa using hxy
          have HX := hide hxy
          clear hxy
          go_wp2
          go_quiet ((go_at_call 22; exact Calls.quiet_of_same (lower_any _ _ (by omega) (by omega))))
          go_wp2
          go_roundw
          case rel => exact ⟨k + 1, n + nq, by omega, by go_num, map_take_step lowr (by have := unhide HA; omega) (by rw [strBytes_length]; exact hks) (unhide HT) (by rw [unhide ex, strBytes_getD _ _ hks]; exact unhide HX), by rw [unhide HW, World.drewN_drewN]⟩
          case measure => simp [intOf]; omega
        · have hbb : (lowr x != lowr ((s[k].toNat : Nat) : Int)) = true := by simpa using hxy
          have HX := hide hxy
          clear hxy
          go_wp2
          go_quiet ((go_at_call 22; exact Calls.quiet_of_same (lower_any _ _ (by omega) (by omega))))
          go_wp2
          go_ret
          exact ⟨ret_bool (by unfold eqUnder; rw [decide_eq_false]; exact map_ne lowr (k := k) (by have := unhide HA; omega) (by rw [strBytes_length]; exact hks) (by rw [unhide ex, strBytes_getD _ _ hks]; exact unhide HX)), n + nq, by rw [unhide HW, World.drewN_drewN]⟩
      · go_wp2
        go_ret
        have h3 := unhide HT
        rw [List.take_of_length_le (by have := unhide HA; omega), List.take_of_length_le (by have := unhide HN; rw [strBytes_length]; omega)] at h3
        exact ⟨ret_bool (by unfold eqUnder; rw [decide_eq_true h3]), n, unhide HW⟩
  · have hnb : ((la : Int) != (s.size : Int)) = true := by simp; omega
    go_enter Try.func21, Try.ntmps21
    go_wp2
    go_ret
    refine ⟨ret_bool ?_, 0, rfl⟩
    unfold eqUnder
    rw [decide_eq_false]
    intro h
    have := congrArg List.length h
    rw [List.length_map, List.length_map, strBytes_length, unhide HA] at this
    exact hne this
set_option maxHeartbeats 400000 in
theorem foldEqual_any (a : Option Addr) (la ca : Nat) (A : List Int) (s : ByteArray) (w : World) (B : Nat) (ha : Row w B a A) (hla : A.length = la) (hb : AllBytes A) (ma : la ≤ 4194304) :
    Calls Try.prog 16 #[.slice a la ca, .string s] w fun e w' => e = .returned (.bool (eqUnder uppr A (strBytes s))) ∧ ∃ n, w' = w.drewN n := by
  have HA := hide hla
  have HB := hide hb
  have RA := hide ha
  clear hla ha hb
  by_cases hne : la = s.size
  · have hse : s.size ≤ la := Nat.le_of_eq hne.symm
    have hnb : ((la : Int) != (s.size : Int)) = false := by simp; omega
    have HN := hide hne
    clear hne
    go_enter Try.func16, Try.ntmps16
    go_wp2
    go_loopw [5] (fun i wr => ∃ k n : Nat, k ≤ la ∧ i = .int .i64 k ∧ (A.take k).map uppr = ((strBytes s).take k).map uppr ∧ wr = w.drewN n) (fun i _ => la - (intOf i).toNat)
    case atStart => exact ⟨0, 0, Nat.zero_le _, rfl, rfl, rfl⟩
    case round =>
      obtain ⟨k, n, hk, rfl, htk, hwr⟩ := hrel
      have HT := hide htk
      have HW := hide hwr
      clear htk hwr
      by_cases hlt : k < la
      · obtain ⟨g, o, rfl, hg, hck⟩ := (unhide RA).open (by have := unhide HA; omega)
        have hks : k < s.size := by have := unhide HN; omega
        obtain ⟨x, hx, ex, x0, x1⟩ : ∃ x, wr.cell? ⟨g, o + k, none⟩ = some (.int .u8 x) ∧ Hid (A.getD k 0 = x) ∧ 0 ≤ x ∧ x < 256 :=
          ⟨_, by rw [unhide HW]; exact hck k (by have := unhide HA; omega), rfl, (getD_byte (unhide HB) k).1, (getD_byte (unhide HB) k).2⟩
        clear hck
        have hlz : (k : Int) < (la : Int) := by omega
        have hlz2 : (k : Int) < (s.size : Int) := by omega
        have hy1 : (s[k].toNat : Int) < 256 := by have := s[k].toNat_lt; omega
        by_cases hxy : uppr x = uppr ((s[k].toNat : Nat) : Int)
        · have hbb : (uppr x != uppr ((s[k].toNat : Nat) : Int)) = false := by simpa using hxy
          have HX := hide hxy
          clear hxy
          go_wp2
          go_quiet ((go_at_call 19; exact Calls.quiet_of_same (upper_any _ _ (by omega) (by omega))))
          go_wp2
          go_roundw
          case rel => exact ⟨k + 1, n + nq, by omega, by go_num, map_take_step uppr (by have := unhide HA; omega) (by rw [strBytes_length]; exact hks) (unhide HT) (by rw [unhide ex, strBytes_getD _ _ hks]; exact unhide HX), by rw [unhide HW, World.drewN_drewN]⟩
          case measure => simp [intOf]; omega
        · have hbb : (uppr x != uppr ((s[k].toNat : Nat) : Int)) = true := by simpa using hxy
          have HX := hide hxy
          clear hxy
          go_wp2
          go_quiet ((go_at_call 19; exact Calls.quiet_of_same (upper_any _ _ (by omega) (by omega))))
          go_wp2
          go_ret
          exact ⟨ret_bool (by unfold eqUnder; rw [decide_eq_false]; exact map_ne uppr (k := k) (by have := unhide HA; omega) (by rw [strBytes_length]; exact hks) (by rw [unhide ex, strBytes_getD _ _ hks]; exact unhide HX)), n + nq, by rw [unhide HW, World.drewN_drewN]⟩
      · go_wp2
        go_ret
        have h3 := unhide HT
        rw [List.take_of_length_le (by have := unhide HA; omega), List.take_of_length_le (by have := unhide HN; rw [strBytes_length]; omega)] at h3
        exact ⟨ret_bool (by unfold eqUnder; rw [decide_eq_true h3]), n, unhide HW⟩
  · have hnb : ((la : Int) != (s.size : Int)) = true := by simp; omega
    go_enter Try.func16, Try.ntmps16
    go_wp2
    go_ret
    refine ⟨ret_bool ?_, 0, rfl⟩
    unfold eqUnder
    rw [decide_eq_false]
    intro h
    have := congrArg List.length h
    rw [List.length_map, List.length_map, strBytes_length, unhide HA] at this
    exact hne this
theorem take_eq_step {A B : List Int} {k : Nat} (ha : k < A.length) (hb : k < B.length) (h : A.take k = B.take k) (e : A.getD k 0 = B.getD k 0) : A.take (k + 1) = B.take (k + 1) := by
  rw [← take_step ha, ← take_step hb, h, e]

theorem ne_of_getD {A B : List Int} {k : Nat} (e : ¬ A.getD k 0 = B.getD k 0) : ¬ A = B := fun h => e (by rw [h])

set_option maxHeartbeats 400000 in
theorem sameBytes_any (a b : Option Addr) (la lb ca cb : Nat) (A B : List Int) (w : World) (Ba Bb : Nat) (ha : Row w Ba a A) (hb : Row w Bb b B) (hla : A.length = la) (hlb : B.length = lb) (ma : la ≤ 4194304) :
    Calls Try.prog 18 #[.slice a la ca, .slice b lb cb] w fun e w' => e = .returned (.bool (decide (A = B))) ∧ ∃ n, w' = w.drewN n := by
  have HA := hide hla
  have HB := hide hlb
  have RA := hide ha
  have RB := hide hb
  clear hla hlb ha hb
  by_cases hne : la = lb
  · subst hne
    go_enter Try.func18, Try.ntmps18
    go_wp2
    go_loopw [5] (fun i wr => ∃ k n : Nat, k ≤ la ∧ i = .int .i64 k ∧ A.take k = B.take k ∧ wr = w.drewN n) (fun i _ => la - (intOf i).toNat)
    case atStart => exact ⟨0, 0, Nat.zero_le _, rfl, rfl, rfl⟩
    case round =>
      obtain ⟨k, n, hk, rfl, htk, rfl⟩ := hrel
      have HT := hide htk
      clear htk
      by_cases hlt : k < la
      · obtain ⟨g, o, rfl, hg, hck⟩ := (unhide RA).open (by have := unhide HA; omega)
        obtain ⟨g', o', rfl, hg', hck'⟩ := (unhide RB).open (by have := unhide HB; omega)
        obtain ⟨x, hx, ex⟩ : ∃ x, w.cell? ⟨g, o + k, none⟩ = some (.int .u8 x) ∧ Hid (A.getD k 0 = x) := ⟨_, hck k (by have := unhide HA; omega), rfl⟩
        obtain ⟨y, hy, ey⟩ : ∃ y, w.cell? ⟨g', o' + k, none⟩ = some (.int .u8 y) ∧ Hid (B.getD k 0 = y) := ⟨_, hck' k (by have := unhide HB; omega), rfl⟩
        clear hck hck'
        have hlz : (k : Int) < (la : Int) := by omega
        by_cases hxy : x = y
        · subst hxy
          go_wp2
          go_quiet (fail)
          go_wp2
          go_roundw
          case rel => exact ⟨k + 1, _, by omega, by go_num, take_eq_step (by have := unhide HA; omega) (by have := unhide HB; omega) (unhide HT) (by rw [unhide ex, unhide ey]), rfl⟩
          case measure => simp [intOf]; omega
        · have hb : (x == y) = false := by simpa using hxy
          go_wp2
          go_quiet (fail)
          go_wp2
          go_ret
          exact ⟨ret_bool (by rw [decide_eq_false]; exact ne_of_getD (k := k) (by rw [unhide ex, unhide ey]; exact hxy)), _, World.drewN_drewN ..⟩
      · go_wp2
        go_ret
        have h1 := unhide HA
        have h2 := unhide HB
        have h3 := unhide HT
        rw [List.take_of_length_le (by omega), List.take_of_length_le (by omega)] at h3
        exact ⟨ret_bool (by simp [h3]), n, rfl⟩
  · go_enter Try.func18, Try.ntmps18
    go_wp2
    go_ret
    refine ⟨ret_bool ?_, 0, rfl⟩
    rw [decide_eq_false]
    intro h
    have h1 := unhide HA
    have h2 := unhide HB
    rw [h] at h1
    omega


theorem EqualFold_any (a : Option Addr) (la ca : Nat) (A : List Int) (s : ByteArray) (w : World) (B : Nat) (ha : Row w B a A) (hla : A.length = la) (hb : AllBytes A) (ma : la ≤ 4194304) :
    Calls Try.prog 20 #[.slice a la ca, .string s] w fun e w' => e = .returned (.bool (eqUnder lowr A (strBytes s))) ∧ ∃ n, w' = w.drewN n := by
  have hc := equalFold_any a la ca A s w B ha hla hb ma
  have HC := hide hc
  clear hc ha hla hb
  go_enter Try.func20, Try.ntmps20
  go_wp2_with fail
  refine (unhide HC).mono ?_
  rintro e w' ⟨rfl, n, rfl⟩
  go_wp2
  go_ret
  exact ⟨rfl, n, rfl⟩

set_option maxHeartbeats 400000 in
theorem sameValue_yes (a b : Option Addr) (la lb ca cb : Nat) (A : List Int) (w : World) (Ba Bb : Nat) (ha : Row w Ba a A) (hb : Row w Bb b A) (hla : A.length = la) (hlb : A.length = lb) (ma : la ≤ 4194304) (hn : a.isNone = b.isNone) :
    Calls Try.prog 13 #[.slice a la ca, .slice b lb cb] w fun e w' => e = .returned (.bool true) ∧ ∃ n, w' = w.drewN n := by
  have hc := sameBytes_any a b la lb ca cb A A w Ba Bb ha hb hla hlb ma
  rw [decide_eq_true rfl] at hc
  have HC := hide hc
  clear hc ha hb hla hlb
  have hnila := fun w => Lib.run_eql_slice_nil (P := Try.prog) w 22 5 a la ca 0 0 Try.underlying22
  have hnilb := fun w => Lib.run_eql_slice_nil (P := Try.prog) w 22 5 b lb cb 0 0 Try.underlying22
  go_enter Try.func13, Try.ntmps13
  go_wp2_with fail
  refine (unhide HC).mono ?_
  rintro e w' ⟨rfl, n, rfl⟩
  go_wp2
  go_ret
  exact ⟨rfl, n, rfl⟩
end Go.Proofs.Qxb6602294a
