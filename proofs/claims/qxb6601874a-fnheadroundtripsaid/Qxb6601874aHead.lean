/- The walk of (*Reader).Head. -/
import Derived.Test.Qxb6601874aEq
import Derived.Test.Qxb6601874aPlain
namespace Go.Proofs.Qxb6601874a
open Go.RowKit

/-- A reader behind stores into its own two cells. -/
theorem Rd.set1 {w : World} {r : Nat} {v : Value} {ok : Bool} (h : Rd w r v ok) (ok' : Bool) : Rd (w.setCell ⟨r, 1, none⟩ (.bool ok')) r v ok' :=
  ⟨by rw [World.cell?_setCell_other (h := by simp)]; exact h.rest, World.cell?_setCell_same _ _ _ h.ok, by rw [World.frozen?_setCell]; exact h.frozen0, by rw [World.frozen?_setCell]; exact h.frozen1, by simpa [World.setCell] using h.size⟩
theorem Rd.set0 {w : World} {r : Nat} {v : Value} {ok : Bool} (h : Rd w r v ok) (v' : Value) : Rd (w.setCell ⟨r, 0, none⟩ v') r v' ok :=
  ⟨World.cell?_setCell_same _ _ _ h.rest, by rw [World.cell?_setCell_other (h := by simp)]; exact h.ok, by rw [World.frozen?_setCell]; exact h.frozen0, by rw [World.frozen?_setCell]; exact h.frozen1, by simpa [World.setCell] using h.size⟩
theorem Rd.drewN {w : World} {r : Nat} {v : Value} {ok : Bool} (h : Rd w r v ok) (n : Nat) : Rd (w.drewN n) r v ok := ⟨h.rest, h.ok, h.frozen0, h.frozen1, h.size⟩

set_option maxHeartbeats 400000 in
theorem head_dead (r : Nat) (a : Option Addr) (len cap : Nat) (ok : Bool) (w : World) (h : Rd w r (.slice a len cap) ok) (hd : ok = false ∨ len = 0) :
    Calls Try.prog 12 #[.pointer (some ⟨r, 0, none⟩)] w fun e w' => e = .returned (.tuple #[.int .u8 0, .int .u64 0]) ∧ w' = w.setCell ⟨r, 1, none⟩ (.bool false) := by
  obtain ⟨h0, h1, f0, f1, hs⟩ := h
  cases ok with
  | false =>
    go_enter Try.func12, Try.ntmps12
    go_wp2
    go_ret2
    exact ⟨rfl, rfl⟩
  | true =>
    obtain rfl : len = 0 := by simpa using hd
    go_enter Try.func12, Try.ntmps12
    go_wp2
    go_ret2
    exact ⟨rfl, rfl⟩

/-- The address behind 'x[k:]'. -/
def stepA (g o cap k : Nat) (a' : Option Addr) : Prop := (cap = k ∧ a' = some ⟨g, o, none⟩) ∨ a' = some ⟨g, o + k, none⟩

set_option maxHeartbeats 400000 in
theorem head_short (r g o : Nat) (len cap : Nat) (x : Int) (w : World) (h : Rd w r (.slice (some ⟨g, o, none⟩) len cap) true) (hlen : 0 < len) (hcap : len ≤ cap)
    (hx : w.cell? ⟨g, o, none⟩ = some (.int .u8 x)) (x0 : 0 ≤ x) (x1 : x < 256) (hlo : x % 32 < 24) :
    Calls Try.prog 12 #[.pointer (some ⟨r, 0, none⟩)] w fun e w' => e = .returned (.tuple #[.int .u8 (x - x % 32), .int .u64 (x % 32)]) ∧ ∃ n a', stepA g o cap 1 a' ∧ w' = (w.drewN n).setCell ⟨r, 0, none⟩ (.slice a' (len - 1) (cap - 1)) := by
  obtain ⟨h0, h1, f0, f1, hs⟩ := h
  have e31 := u8_and31 x x0 x1
  have e224 := u8_and224 x x0 x1
  have hl0 : (0 : Int) < (len : Int) := by omega
  have hlb : ((len : Int) == 0) = false := by simp; omega
  go_enter Try.func12, Try.ntmps12
  go_wp2
  go_quiet (fail)
  go_wp2
  case' inl => go_ret2; exact ⟨rfl, _, _, .inl ⟨by first | rfl | assumption, rfl⟩, by subst_vars; rfl⟩
  case' inr => go_ret2; exact ⟨rfl, _, _, .inr rfl, rfl⟩

set_option maxHeartbeats 400000 in
theorem head_reserved (r g o : Nat) (len cap : Nat) (x : Int) (w : World) (h : Rd w r (.slice (some ⟨g, o, none⟩) len cap) true) (hlen : 0 < len) (hcap : len ≤ cap)
    (hx : w.cell? ⟨g, o, none⟩ = some (.int .u8 x)) (x0 : 0 ≤ x) (x1 : x < 256) (hlo : 27 < x % 32) :
    Calls Try.prog 12 #[.pointer (some ⟨r, 0, none⟩)] w fun e w' => e = .returned (.tuple #[.int .u8 0, .int .u64 0]) ∧ ∃ n a', stepA g o cap 1 a' ∧ w' = ((w.drewN n).setCell ⟨r, 0, none⟩ (.slice a' (len - 1) (cap - 1))).setCell ⟨r, 1, none⟩ (.bool false) := by
  obtain ⟨h0, h1, f0, f1, hs⟩ := h
  have e31 := u8_and31 x x0 x1
  have e224 := u8_and224 x x0 x1
  have hl0 : (0 : Int) < (len : Int) := by omega
  have hlb : ((len : Int) == 0) = false := by simp; omega
  go_enter Try.func12, Try.ntmps12
  go_wp2
  go_quiet (fail)
  go_wp2
  case' inl => go_ret2; exact ⟨rfl, _, _, .inl ⟨by first | rfl | assumption, rfl⟩, by subst_vars; rfl⟩
  case' inr => go_ret2; exact ⟨rfl, _, _, .inr rfl, rfl⟩

set_option maxHeartbeats 400000 in
theorem head_cut (r g o : Nat) (len cap : Nat) (x : Int) (w : World) (h : Rd w r (.slice (some ⟨g, o, none⟩) len cap) true) (hlen : 0 < len) (hcap : len ≤ cap)
    (hx : w.cell? ⟨g, o, none⟩ = some (.int .u8 x)) (x0 : 0 ≤ x) (x1 : x < 256) (hlo : x % 32 = 24 ∧ len - 1 < 1 ∨ x % 32 = 25 ∧ len - 1 < 2 ∨ x % 32 = 26 ∧ len - 1 < 4 ∨ x % 32 = 27 ∧ len - 1 < 8) :
    Calls Try.prog 12 #[.pointer (some ⟨r, 0, none⟩)] w fun e w' => e = .returned (.tuple #[.int .u8 0, .int .u64 0]) ∧ ∃ n a', stepA g o cap 1 a' ∧ w' = ((w.drewN n).setCell ⟨r, 0, none⟩ (.slice a' (len - 1) (cap - 1))).setCell ⟨r, 1, none⟩ (.bool false) := by
  obtain ⟨h0, h1, f0, f1, hs⟩ := h
  have e31 := u8_and31 x x0 x1
  have e224 := u8_and224 x x0 x1
  have hl0 : (0 : Int) < (len : Int) := by omega
  have hlb : ((len : Int) == 0) = false := by simp; omega
  rcases hlo with ⟨hv, hlo⟩ | ⟨hv, hlo⟩ | ⟨hv, hlo⟩ | ⟨hv, hlo⟩
  all_goals
    go_enter Try.func12, Try.ntmps12
    go_wp2
    go_quiet (fail)
    go_wp2
    case' inl => go_ret2; exact ⟨rfl, _, _, .inl ⟨by first | rfl | assumption, rfl⟩, by subst_vars; rfl⟩
    case' inr => go_ret2; exact ⟨rfl, _, _, .inr rfl, rfl⟩

theorem num_take_step {A : List Int} {k : Nat} (h : k < A.length) : num 0 (A.take (k + 1)) = num 0 (A.take k) * 256 + A.getD k 0 := by
  rw [← take_step h, num_append]; rfl

theorem getD_byte {A : List Int} (h : AllBytes A) (k : Nat) : 0 ≤ A.getD k 0 ∧ A.getD k 0 < 256 := by
  rw [List.getD_eq_getElem?_getD]
  cases e : A[k]? with
  | none => simp
  | some c => exact h c (List.mem_of_getElem? e)

theorem num_take_bound {A : List Int} (h : AllBytes A) {k : Nat} (hk : k ≤ 7) : 0 ≤ num 0 (A.take k) ∧ num 0 (A.take k) < 72057594037927936 := by
  obtain ⟨h1, h2⟩ := num_bound 0 (A.take k) (by omega) (fun x hx => h x (List.mem_of_mem_take hx))
  refine ⟨h1, Int.lt_of_lt_of_le h2 ?_⟩
  have h3 : 256 ^ (A.take k).length ≤ 256 ^ 7 := Nat.pow_le_pow_right (by omega) (Nat.le_trans (List.length_take_le _ _) hk)
  have h4 : ((256 ^ (A.take k).length : Nat) : Int) ≤ ((256 ^ 7 : Nat) : Int) := Int.ofNat_le.2 h3
  rw [Int.natCast_pow] at h4
  rw [Int.zero_add, Int.one_mul]
  exact h4

/-- What the long head leaves (behind a name, so that the walk does not rewrite it). -/
def LongPost (w : World) (r g o len cap S : Nat) (x : Int) (L : List Int) (e : Ending) (w' : World) : Prop :=
  e = .returned (.tuple #[.int .u8 (x - x % 32), .int .u64 (num 0 L)]) ∧
    ∃ n a' a'', (cap - 1 = S ∧ a'' = some ⟨g, o + 1, none⟩ ∨ a'' = some ⟨g, o + 1 + S, none⟩) ∧ w' = ((w.drewN n).setCell ⟨r, 0, none⟩ (.slice a' (len - 1) (cap - 1))).setCell ⟨r, 0, none⟩ (.slice a'' (len - 1 - S) (cap - 1 - S))

set_option maxHeartbeats 1000000 in
theorem head_long (r g o : Nat) (len cap S : Nat) (x : Int) (L : List Int) (w : World) (h : Rd w r (.slice (some ⟨g, o, none⟩) len cap) true) (_hg : g < r) (hlen : S + 1 ≤ len) (hcap : len ≤ cap)
    (hx : w.cell? ⟨g, o, none⟩ = some (.int .u8 x)) (x0 : 0 ≤ x) (x1 : x < 256) (hlo : x % 32 = 24 ∧ S = 1 ∨ x % 32 = 25 ∧ S = 2 ∨ x % 32 = 26 ∧ S = 4 ∨ x % 32 = 27 ∧ S = 8)
    (hL : L.length = S) (hc : ∀ i, i < S → w.cell? ⟨g, o + 1 + i, none⟩ = some (.int .u8 (L.getD i 0))) (hb : AllBytes L) :
    Calls Try.prog 12 #[.pointer (some ⟨r, 0, none⟩)] w (LongPost w r g o len cap S x L) := by
  obtain ⟨h0, h1, f0, f1, hs⟩ := h
  have e31 := u8_and31 x x0 x1
  have e224 := u8_and224 x x0 x1
  have hl0 : (0 : Int) < (len : Int) := by omega
  have hlb : ((len : Int) == 0) = false := by simp; omega
  have hcp : ¬ cap = 1 := by omega
  have HC := hide hc
  have HB := hide hb
  have HL := hide hL
  clear hc hb hL
  obtain ⟨T, HT⟩ : ∃ T : Nat, Hid (S = T) := ⟨_, rfl⟩
  have hTS : T ≤ S := Nat.le_of_eq (unhide HT).symm
  have hST : S ≤ T := Nat.le_of_eq (unhide HT)
  rcases hlo with ⟨hv, rfl⟩ | ⟨hv, rfl⟩ | ⟨hv, rfl⟩ | ⟨hv, rfl⟩
  all_goals
    go_enter Try.func12, Try.ntmps12
    go_wp2
    go_quiet (fail)
    go_wp2
    go_loop [5, 78] (fun v i => ∃ (k : Nat), k ≤ T ∧ i = .int .i64 k ∧ v = .int .u64 (num 0 (L.take k))) (fun _ i => T - (intOf i).toNat)
    case atStart => exact ⟨0, Nat.zero_le _, rfl, rfl⟩
    case round =>
      obtain ⟨k, hk, rfl, rfl⟩ := hrel
      by_cases hlt : k < T
      · obtain ⟨c, hck, c0, c1, HN⟩ : ∃ c, w.cell? ⟨g, o + 1 + k, none⟩ = some (.int .u8 c) ∧ 0 ≤ c ∧ c < 256 ∧ Hid (num 0 (L.take (k + 1)) = num 0 (L.take k) * 256 + c) :=
          ⟨_, unhide HC k (by omega), (getD_byte (unhide HB) k).1, (getD_byte (unhide HB) k).2, num_take_step (by have := unhide HL; omega)⟩
        obtain ⟨V0, V1⟩ := num_take_bound (unhide HB) (show k ≤ 7 by omega)
        generalize num 0 (L.take k) = V at *
        have hor := u64_or_join (V * 256) c (by omega) (by omega) (by omega) c0 c1
        go_wp2
        go_round
        case rel => exact ⟨k + 1, by omega, by go_num, by rw [unhide HN]⟩
        case measure => simp [intOf]; omega
      · obtain rfl : k = T := by omega
        rw [show L.take k = L from List.take_of_length_le (by have := unhide HL; omega)]
        go_wp2
        case' inl => go_ret2; exact ⟨by rw [hv]; rfl, _, _, _, .inl ⟨by first | rfl | assumption, rfl⟩, by first | rfl | (subst_vars; rfl)⟩
        case' inr => go_ret2; exact ⟨by rw [hv]; rfl, _, _, _, .inr rfl, rfl⟩

/-- What Head answers: the major type, the argument, whether it accepts, how many bytes it moves. -/
structure HeadAns where
  m : Int
  n : Int
  ok : Bool
  k : Nat

def szOf (i : Int) : Nat := if i = 24 then 1 else if i = 25 then 2 else if i = 26 then 4 else 8

def headOf : Bool → List Int → HeadAns
  | true, x :: t =>
    if x % 32 < 24 then ⟨x - x % 32, x % 32, true, 1⟩
    else if x % 32 ≤ 27 ∧ szOf (x % 32) ≤ t.length then ⟨x - x % 32, num 0 (t.take (szOf (x % 32))), true, 1 + szOf (x % 32)⟩
    else ⟨0, 0, false, 1⟩
  | _, _ => ⟨0, 0, false, 0⟩

theorem szOf_cases {i : Int} (h0 : 24 ≤ i) (h1 : i ≤ 27) : i = 24 ∧ szOf i = 1 ∨ i = 25 ∧ szOf i = 2 ∨ i = 26 ∧ szOf i = 4 ∨ i = 27 ∧ szOf i = 8 := by
  unfold szOf
  have : i = 24 ∨ i = 25 ∨ i = 26 ∨ i = 27 := by omega
  rcases this with rfl | rfl | rfl | rfl <;> simp

theorem below_set {r : Nat} {w w0 : World} (h : Below r w w0) (i : Nat) (v : Value) : Below r w (w0.setCell ⟨r, i, none⟩ v) := h.setCell (Nat.le_refl _) v

theorem addr_add (g o k : Nat) : (⟨g, o, none⟩ : Addr).add k = ⟨g, o + k, none⟩ := by unfold Addr.add; split <;> simp_all

theorem stepA_row {w : World} {B g o cap k : Nat} {a' : Option Addr} {l : List Int} (h : stepA g o cap k a') (hr : Row w B (some ⟨g, o, none⟩) l) (hl : l.length ≤ cap) : Row w B a' (l.drop k) := by
  rcases h with ⟨hk, _⟩ | rfl
  · exact Row.of_nil (List.drop_eq_nil_of_le (by omega))
  · have := hr.drop k
    rwa [Option.map_some, addr_add] at this

theorem head_any (r : Nat) (a : Option Addr) (len cap : Nat) (ok : Bool) (l : List Int) (w : World) (B : Nat) (h : Rd w r (.slice a len cap) ok) (hr : Row w B a l) (hB : B ≤ r) (hl : l.length = len) (hcap : len ≤ cap) (hb : AllBytes l) :
    Calls Try.prog 12 #[.pointer (some ⟨r, 0, none⟩)] w fun e w' => ∃ a', e = .returned (.tuple #[.int .u8 (headOf ok l).m, .int .u64 (headOf ok l).n]) ∧
      Rd w' r (.slice a' (len - (headOf ok l).k) (cap - (headOf ok l).k)) (headOf ok l).ok ∧ Row w' B a' (l.drop (headOf ok l).k) ∧ Below r w w' := by
  have dead : (ok = false ∨ len = 0) → headOf ok l = ⟨0, 0, false, 0⟩ → Calls Try.prog 12 #[.pointer (some ⟨r, 0, none⟩)] w fun e w' => ∃ a', e = .returned (.tuple #[.int .u8 (headOf ok l).m, .int .u64 (headOf ok l).n]) ∧
      Rd w' r (.slice a' (len - (headOf ok l).k) (cap - (headOf ok l).k)) (headOf ok l).ok ∧ Row w' B a' (l.drop (headOf ok l).k) ∧ Below r w w' := by
    intro hd he
    rw [he]
    refine (head_dead r a len cap ok w h hd).mono ?_
    rintro e w' ⟨rfl, rfl⟩
    have hbl : Below r w (w.setCell ⟨r, 1, none⟩ (.bool false)) := below_set (Below.refl _ _) 1 _
    exact ⟨a, rfl, by simpa using h.set1 false, by simpa using hr.below (hbl.mono hB), hbl⟩
  cases ok with
  | false => exact dead (.inl rfl) rfl
  | true =>
    cases l with
    | nil => exact dead (.inr (by simpa using hl.symm)) rfl
    | cons x t =>
      obtain ⟨g, o, rfl, hg, hc⟩ := hr.open (by simp)
      have hx : w.cell? ⟨g, o, none⟩ = some (.int .u8 x) := by simpa using hc 0 (by simp)
      obtain ⟨x0, x1⟩ := hb x (by simp)
      have hlen : t.length + 1 = len := by simpa using hl
      clear dead
      by_cases h1 : x % 32 < 24
      · have he : headOf true (x :: t) = ⟨x - x % 32, x % 32, true, 1⟩ := by simp [headOf, h1]
        rw [he]
        refine (head_short r g o len cap x w h (by omega) hcap hx x0 x1 h1).mono ?_
        rintro e w' ⟨rfl, n, a', hs, rfl⟩
        have hbl : Below r w ((w.drewN n).setCell ⟨r, 0, none⟩ (.slice a' (len - 1) (cap - 1))) := below_set (below_drewN (Below.refl _ _) n) 0 _
        exact ⟨a', rfl, (h.drewN n).set0 _, (stepA_row hs hr (by omega)).below (hbl.mono hB), hbl⟩
      · by_cases h2 : x % 32 ≤ 27 ∧ szOf (x % 32) ≤ t.length
        · have he : headOf true (x :: t) = ⟨x - x % 32, num 0 (t.take (szOf (x % 32))), true, 1 + szOf (x % 32)⟩ := by simp [headOf, h1, h2]
          rw [he]
          obtain ⟨h2, h3⟩ := h2
          refine (head_long r g o len cap (szOf (x % 32)) x (t.take (szOf (x % 32))) w h (by omega) (by omega) hcap hx x0 x1 (szOf_cases (by omega) h2) (by rw [List.length_take]; omega) ?_ (fun y hy => hb y (by simp [List.mem_of_mem_take hy]))).mono ?_
          · intro i hi
            have := hc (i + 1) (by simp; omega)
            rw [show o + 1 + i = o + (i + 1) from by omega, this]
            simp only [List.getD_eq_getElem?_getD, List.getElem?_cons_succ, List.getElem?_take]
            rw [if_pos hi]
          · rintro e w' ⟨rfl, n, a', a'', hs, rfl⟩
            have hbl : Below r w (((w.drewN n).setCell ⟨r, 0, none⟩ (.slice a' (len - 1) (cap - 1))).setCell ⟨r, 0, none⟩ (.slice a'' (len - 1 - szOf (x % 32)) (cap - 1 - szOf (x % 32)))) :=
              below_set (below_set (below_drewN (Below.refl _ _) n) 0 _) 0 _
            refine ⟨a'', rfl, ?_, ?_, hbl⟩
            · have := ((h.drewN n).set0 (.slice a' (len - 1) (cap - 1))).set0 (.slice a'' (len - 1 - szOf (x % 32)) (cap - 1 - szOf (x % 32)))
              simp only [Nat.sub_sub] at this ⊢
              exact this
            · refine Row.below ?_ (hbl.mono hB)
              rcases hs with ⟨hk, rfl⟩ | rfl
              · exact Row.of_nil (List.drop_eq_nil_of_le (by simp only [List.length_cons]; omega))
              · have := hr.drop (1 + szOf (x % 32))
                simpa [Addr.add, Nat.add_assoc] using this
        · have he : headOf true (x :: t) = ⟨0, 0, false, 1⟩ := by simp only [headOf]; rw [if_neg h1, if_neg h2]
          rw [he]
          have fin : ∀ (e : Ending) (w' : World), (e = .returned (.tuple #[.int .u8 0, .int .u64 0]) ∧ ∃ n a', stepA g o cap 1 a' ∧ w' = ((w.drewN n).setCell ⟨r, 0, none⟩ (.slice a' (len - 1) (cap - 1))).setCell ⟨r, 1, none⟩ (.bool false)) →
              ∃ a', e = .returned (.tuple #[.int .u8 0, .int .u64 0]) ∧ Rd w' r (.slice a' (len - 1) (cap - 1)) false ∧ Row w' B a' ((x :: t).drop 1) ∧ Below r w w' := by
            rintro e w' ⟨rfl, n, a', hs, rfl⟩
            have hbl : Below r w (((w.drewN n).setCell ⟨r, 0, none⟩ (.slice a' (len - 1) (cap - 1))).setCell ⟨r, 1, none⟩ (.bool false)) := below_set (below_set (below_drewN (Below.refl _ _) n) 0 _) 1 _
            exact ⟨a', rfl, ((h.drewN n).set0 _).set1 _, (stepA_row hs hr (by omega)).below (hbl.mono hB), hbl⟩
          by_cases h3 : 27 < x % 32
          · exact (head_reserved r g o len cap x w h (by omega) hcap hx x0 x1 h3).mono fin
          · have h4 : ¬ szOf (x % 32) ≤ t.length := fun h5 => h2 ⟨by omega, h5⟩
            refine (head_cut r g o len cap x w h (by omega) hcap hx x0 x1 ?_).mono fin
            rcases szOf_cases (i := x % 32) (by omega) (by omega) with ⟨h5, h6⟩ | ⟨h5, h6⟩ | ⟨h5, h6⟩ | ⟨h5, h6⟩
            · exact .inl ⟨h5, by omega⟩
            · exact .inr (.inl ⟨h5, by omega⟩)
            · exact .inr (.inr (.inl ⟨h5, by omega⟩))
            · exact .inr (.inr (.inr ⟨h5, by omega⟩))
end Go.Proofs.Qxb6601874a
