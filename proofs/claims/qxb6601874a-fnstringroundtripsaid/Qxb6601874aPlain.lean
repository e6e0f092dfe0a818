/- The plain side: bytes, heads, big-endian numbers. No Go in sight (but for the model's word on the bits of a number). -/
import Derived.Test.Qxb6601874aConcat
namespace Go.Proofs.Qxb6601874a
open Go.RowKit

theorem u8_and31 (x : Int) (h0 : 0 ≤ x) (h1 : x < 256) : bits .and .u8 x 31 = x % 32 := by
  obtain ⟨n, rfl⟩ := Int.eq_ofNat_of_zero_le h0
  have := u8_and_nat n 31 (by omega) (by omega)
  rw [nat_mask5] at this
  simpa using this

theorem and_224 : ∀ n : Fin 256, (n.val &&& 224) = n.val - n.val % 32 := by decide +kernel

theorem u8_and224 (x : Int) (h0 : 0 ≤ x) (h1 : x < 256) : bits .and .u8 x 224 = x - x % 32 := by
  obtain ⟨n, rfl⟩ := Int.eq_ofNat_of_zero_le h0
  have := u8_and_nat n 224 (by omega) (by omega)
  have e := and_224 ⟨n, by omega⟩
  simp only at e
  rw [e] at this
  rw [show ((224 : Int)) = ((224 : Nat) : Int) from rfl, this]
  omega

theorem u8_or_join (m v : Int) (h0 : 0 ≤ m) (h1 : m < 256) (h2 : m % 32 = 0) (h3 : 0 ≤ v) (h4 : v < 32) : bits .or .u8 m v = m + v := by
  obtain ⟨n, rfl⟩ := Int.eq_ofNat_of_zero_le h0
  obtain ⟨k, rfl⟩ := Int.eq_ofNat_of_zero_le h3
  rw [u8_or_nat n k (by omega) (by omega), nat_join 5 n k (by omega) (by omega)]
  omega

theorem u64_and255 (v : Int) (h0 : 0 ≤ v) (h1 : v < 18446744073709551616) : bits .and .u64 v 255 = v % 256 := by
  obtain ⟨n, rfl⟩ := Int.eq_ofNat_of_zero_le h0
  have := u64_and_nat n 255 (by omega) (by omega)
  rw [nat_mask8] at this
  simpa using this

theorem u64_or_join (a c : Int) (h0 : 0 ≤ a) (h1 : a < 18446744073709551616) (h2 : a % 256 = 0) (h3 : 0 ≤ c) (h4 : c < 256) : bits .or .u64 a c = a + c := by
  obtain ⟨n, rfl⟩ := Int.eq_ofNat_of_zero_le h0
  obtain ⟨k, rfl⟩ := Int.eq_ofNat_of_zero_le h3
  rw [u64_or_nat n k (by omega) (by omega), nat_join 8 n k (by omega) (by omega)]
  omega

/-- The last 'w' bytes of 'n', the greatest first. -/
def be (n : Int) : Nat → List Int
  | 0 => []
  | w + 1 => be (n / 256) w ++ [n % 256]

theorem be_length (n : Int) (w : Nat) : (be n w).length = w := by
  induction w generalizing n with
  | zero => rfl
  | succ w ih => simp [be, ih]

theorem be_bytes (n : Int) (w : Nat) : AllBytes (be n w) := by
  induction w generalizing n with
  | zero => intro x hx; simp [be] at hx
  | succ w ih =>
    intro x hx
    simp only [be, List.mem_append, List.mem_singleton] at hx
    rcases hx with hx | rfl
    · exact ih _ x hx
    · omega

/-- The number that bytes spell, the greatest first, behind 'n'. -/
def num (n : Int) : List Int → Int
  | [] => n
  | c :: l => num (n * 256 + c) l

theorem num_append (n : Int) (a b : List Int) : num n (a ++ b) = num (num n a) b := by
  induction a generalizing n with
  | nil => rfl
  | cons c a ih => exact ih _

theorem num_be (n : Int) (h : 0 ≤ n) (w : Nat) (hn : n < 256 ^ w) : num 0 (be n w) = n := by
  induction w generalizing n with
  | zero => simp [be, num]; omega
  | succ w ih =>
    rw [be, num_append, ih (n / 256) (by omega) (by rw [Int.pow_succ] at hn; omega)]
    simp only [num]
    omega

theorem num_bound (n : Int) (l : List Int) (h0 : 0 ≤ n) (hl : AllBytes l) : 0 ≤ num n l ∧ num n l < (n + 1) * 256 ^ l.length := by
  induction l generalizing n with
  | nil => simp [num]; omega
  | cons c l ih =>
    have hc := hl c (by simp)
    obtain ⟨i1, i2⟩ := ih (n * 256 + c) (by omega) (fun x hx => hl x (by simp [hx]))
    refine ⟨i1, Int.lt_of_lt_of_le i2 ?_⟩
    rw [List.length_cons, Int.pow_succ, Int.mul_comm (256 ^ l.length) 256, ← Int.mul_assoc]
    exact Int.mul_le_mul_of_nonneg_right (by omega) (Int.pow_nonneg (by omega))

theorem be_num (n : Int) (l : List Int) (hl : AllBytes l) : be (num n l) l.length = l := by
  obtain ⟨k, hk⟩ : ∃ k, l.length = k := ⟨_, rfl⟩
  induction k generalizing l with
  | zero => rw [List.eq_nil_of_length_eq_zero hk]; rfl
  | succ k ih =>
    obtain ⟨a, c, rfl⟩ : ∃ a c, l = a ++ [c] := ⟨l.dropLast, l.getLast (by intro h; simp [h] at hk), by rw [List.dropLast_concat_getLast]⟩
    have hc := hl c (by simp)
    have ha : a.length = k := by simpa using hk
    rw [hk, be, num_append]
    simp only [num]
    rw [show (num n a * 256 + c) / 256 = num n a from by omega, show (num n a * 256 + c) % 256 = c from by omega, ← ha, ih a (fun x hx => hl x (by simp [hx])) ha]

/-- The low five bits that call for so many bytes of argument. -/
def infoOf (width : Int) : Int := if width = 1 then 24 else if width = 2 then 25 else if width = 4 then 26 else 27

/-- The independent encoder: the head of major type 'major' with argument 'n' in 'width' bytes; none where it does not fit. -/
def enc (major n width : Int) : Option (List Int) :=
  if major % 32 ≠ 0 then none
  else if width = 0 then (if 24 ≤ n then none else some [major + n])
  else if width = 1 ∨ width = 2 ∨ width = 4 ∨ width = 8 then (if width < 8 ∧ 256 ^ width.toNat ≤ n then none else some ((major + infoOf width) :: be n width.toNat))
  else none
end Go.Proofs.Qxb6601874a
