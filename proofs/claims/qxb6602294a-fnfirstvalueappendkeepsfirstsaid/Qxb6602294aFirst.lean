/- Slices of fields; the walks of firstValue, ZZfirstValue, firstMatch. -/
import Derived.Test.Qxb6602294aFold
namespace Go.Proofs.Qxb6602294a
open Go.RowKit

/-- A slice of bytes: its value's three parts and its bytes. -/
structure Bs where
  a : Option Addr
  n : Nat
  c : Nat
  l : List Int
structure Fld where
  nm : Bs
  vl : Bs

/-- What such a slice says of the world. -/
structure SlOk (w : World) (B : Nat) (s : Bs) : Prop where
  row : Row w B s.a s.l
  len : s.l.length = s.n
  bytes : AllBytes s.l
  nil : s.a = none → s.c = 0

theorem SlOk.below {w w' : World} {B : Nat} {s : Bs} (h : SlOk w B s) (hb : Below B w w') : SlOk w' B s := ⟨h.row.below hb, h.len, h.bytes, h.nil⟩
theorem SlOk.mono {w : World} {B B' : Nat} {s : Bs} (h : SlOk w B s) (hb : B ≤ B') : SlOk w B' s := ⟨h.row.mono hb, h.len, h.bytes, h.nil⟩

/-- The fields 'F 0' .. lie at the address 'a', two cells each, in a block below 'B'. -/
def FRow (w : World) (B : Nat) (a : Option Addr) (F : Nat → Fld) (n : Nat) : Prop :=
  ∀ i, i < n → ∃ g o, a = some ⟨g, o, none⟩ ∧ g < B ∧ w.cell? ⟨g, o + i * 2, none⟩ = some (.slice (F i).nm.a (F i).nm.n (F i).nm.c) ∧ w.cell? ⟨g, o + i * 2 + 1, none⟩ = some (.slice (F i).vl.a (F i).vl.n (F i).vl.c)

def FOk (w : World) (B : Nat) (F : Nat → Fld) (n : Nat) : Prop := ∀ i, i < n → SlOk w B (F i).nm ∧ SlOk w B (F i).vl

theorem FRow.below {w w' : World} {B : Nat} {a : Option Addr} {F : Nat → Fld} {n : Nat} (h : FRow w B a F n) (hb : Below B w w') : FRow w' B a F n := by
  intro i hi
  obtain ⟨g, o, ha, hg, h0, h1⟩ := h i hi
  exact ⟨g, o, ha, hg, (hb.cell (p := ⟨g, o + i * 2, none⟩) hg).trans h0, (hb.cell (p := ⟨g, o + i * 2 + 1, none⟩) hg).trans h1⟩
theorem FRow.mono {w : World} {B B' : Nat} {a : Option Addr} {F : Nat → Fld} {n : Nat} (h : FRow w B a F n) (hb : B ≤ B') : FRow w B' a F n := by
  intro i hi
  obtain ⟨g, o, ha, hg, h0, h1⟩ := h i hi
  exact ⟨g, o, ha, by omega, h0, h1⟩
theorem FOk.below {w w' : World} {B : Nat} {F : Nat → Fld} {n : Nat} (h : FOk w B F n) (hb : Below B w w') : FOk w' B F n := fun i hi => ⟨(h i hi).1.below hb, (h i hi).2.below hb⟩
theorem FOk.mono {w : World} {B B' : Nat} {F : Nat → Fld} {n : Nat} (h : FOk w B F n) (hb : B ≤ B') : FOk w B' F n := fun i hi => ⟨(h i hi).1.mono hb, (h i hi).2.mono hb⟩

theorem FRow.open {w : World} {B : Nat} {a : Option Addr} {F : Nat → Fld} {n : Nat} (h : FRow w B a F n) (hn : 0 < n) :
    ∃ g o, a = some ⟨g, o, none⟩ ∧ g < B ∧ ∀ i, i < n → w.cell? ⟨g, o + i * 2, none⟩ = some (.slice (F i).nm.a (F i).nm.n (F i).nm.c) ∧ w.cell? ⟨g, o + i * 2 + 1, none⟩ = some (.slice (F i).vl.a (F i).vl.n (F i).vl.c) := by
  obtain ⟨g, o, ha, hg, _⟩ := h 0 hn
  refine ⟨g, o, ha, hg, fun i hi => ?_⟩
  obtain ⟨g', o', ha', _, hc⟩ := h i hi
  rw [ha] at ha'
  simp only [Option.some.injEq, Addr.mk.injEq] at ha'
  obtain ⟨rfl, rfl, _⟩ := ha'
  exact hc

/-- What firstValue leaves: the first field whose name is the one asked; or none. -/
def FirstPost (w : World) (F : Nat → Fld) (n : Nat) (p : Nat → Bool) (e : Ending) (w' : World) : Prop :=
  ((∃ i, i < n ∧ p i = true ∧ (∀ j, j < i → p j = false) ∧ e = .returned (.tuple #[.slice (F i).vl.a (F i).vl.n (F i).vl.c, .bool true])) ∨
    ((∀ j, j < n → p j = false) ∧ e = .returned (.tuple #[.slice none 0 0, .bool false]))) ∧ Below w.heap.size w w'

set_option maxHeartbeats 1000000 in
theorem firstValue_any (hb : Nat) (a : Option Addr) (n c : Nat) (F : Nat → Fld) (s : ByteArray) (w : World) (hh : w.cell? ⟨hb, 5, none⟩ = some (.slice a n c)) (hr : FRow w w.heap.size a F n) (hf : FOk w w.heap.size F n) (hn : n ≤ 2097152)
    (hs : ∀ i, i < n → (F i).nm.n ≤ 1048576) :
    Calls Try.prog 17 #[.pointer (some ⟨hb, 0, none⟩), .string s] w (FirstPost w F n (fun i => eqUnder lowr (F i).nm.l (strBytes s))) := by
  have HR := hide hr
  have HF := hide hf
  have HS := hide hs
  clear hr hf hs
  obtain ⟨p, Hp⟩ : ∃ p : Nat → Bool, Hid (p = fun i => eqUnder lowr (F i).nm.l (strBytes s)) := ⟨_, rfl⟩
  rw [← unhide Hp]
  go_enter Try.func17, Try.ntmps17
  go_wp2
  go_loopw [13] (fun i wr => ∃ k : Nat, k ≤ n ∧ i = .int .i64 k ∧ (∀ j, j < k → p j = false) ∧ Below w.heap.size w wr) (fun i _ => n - (intOf i).toNat)
  case atStart => exact ⟨0, Nat.zero_le _, rfl, fun j hj => absurd hj (by omega), Below.refl _ _⟩
  case round =>
    obtain ⟨k, hk, rfl, hno, hbl⟩ := hrel
    have HN := hide hno
    clear hno
    by_cases hlt : k < n
    · obtain ⟨g, o, rfl, hg, hc⟩ := (unhide HR).open (by omega)
      obtain ⟨hc0, hc1⟩ := hc k hlt
      have hc0' : wr.cell? ⟨g, o + k * 2, none⟩ = some (.slice (F k).nm.a (F k).nm.n (F k).nm.c) := (hbl.cell (p := ⟨g, o + k * 2, none⟩) hg).trans hc0
      have hc1' : wr.cell? ⟨g, o + k * 2 + 1, none⟩ = some (.slice (F k).vl.a (F k).vl.n (F k).vl.c) := (hbl.cell (p := ⟨g, o + k * 2 + 1, none⟩) hg).trans hc1
      clear hc hc0 hc1 hh
      have hlz : (k : Int) < (n : Int) := by omega
      obtain ⟨sn, _⟩ := unhide HF k hlt
      have hsn := unhide HS k hlt
      have hpk : eqUnder lowr (F k).nm.l (strBytes s) = p k := by rw [unhide Hp]
      have hb' : Below w.heap.size w (wr.alloc (.cells #[.slice (F k).nm.a (F k).nm.n (F k).nm.c, .slice (F k).vl.a (F k).vl.n (F k).vl.c] 41)) := hbl.alloc hbl.size _
      have hcall := EqualFold_any (F k).nm.a (F k).nm.n (F k).nm.c (F k).nm.l s _ w.heap.size (sn.row.below hb') sn.len sn.bytes (by omega)
      rw [hpk] at hcall
      clear hpk sn
      go_wp2_with fail
      refine hcall.mono ?_
      clear hcall
      rintro e w' ⟨rfl, q, rfl⟩
      cases hpk : p k with
      | true =>
        have HK := hide hpk
        clear hpk
        go_wp2
        go_ret2
        exact ⟨.inl ⟨k, hlt, unhide HK, unhide HN, rfl⟩, below_drewN hb' q⟩
      | false =>
        have HK := hide hpk
        clear hpk
        go_wp2
        go_roundw
        case rel =>
          refine ⟨k + 1, by omega, by go_num, fun j hj => ?_, below_drewN hb' q⟩
          by_cases hjk : j = k
          · rw [hjk]; exact unhide HK
          · exact unhide HN j (by omega)
        case measure => simp [intOf]; omega
    · go_wp2
      go_ret2
      exact ⟨.inr ⟨fun j hj => unhide HN j (by omega), rfl⟩, hbl⟩

theorem ZZfirstValue_any (hb : Nat) (a : Option Addr) (n c : Nat) (F : Nat → Fld) (s : ByteArray) (w : World) (hh : w.cell? ⟨hb, 5, none⟩ = some (.slice a n c)) (hr : FRow w w.heap.size a F n) (hf : FOk w w.heap.size F n) (hn : n ≤ 2097152)
    (hs : ∀ i, i < n → (F i).nm.n ≤ 1048576) :
    Calls Try.prog 11 #[.pointer (some ⟨hb, 0, none⟩), .string s] w (FirstPost w F n (fun i => eqUnder lowr (F i).nm.l (strBytes s))) := by
  have hc := firstValue_any hb a n c F s w hh hr hf hn hs
  generalize (fun i => eqUnder lowr (F i).nm.l (strBytes s)) = p at *
  have HC := hide hc
  clear hc hh hr hf hs
  go_enter Try.func11, Try.ntmps11
  go_wp2_with fail
  refine (unhide HC).mono ?_
  rintro e w' ⟨h, hb⟩
  have HB := hide hb
  clear hb
  rcases h with ⟨i, hi, h1, h2, rfl⟩ | ⟨h1, rfl⟩
  · have H1 := hide h1
    have H2 := hide h2
    clear h1 h2
    go_wp2
    go_ret2
    exact ⟨.inl ⟨i, hi, unhide H1, unhide H2, rfl⟩, unhide HB⟩
  · have H1 := hide h1
    clear h1
    go_wp2
    go_ret2
    exact ⟨.inr ⟨unhide H1, rfl⟩, unhide HB⟩

/-- What firstMatch answers: the least index whose name is the one asked; or -1. -/
def MatchPost (w : World) (n : Nat) (p : Nat → Bool) (e : Ending) (w' : World) : Prop :=
  ((∃ i : Nat, i < n ∧ p i = true ∧ (∀ j, j < i → p j = false) ∧ e = .returned (.int .i64 i)) ∨ ((∀ j, j < n → p j = false) ∧ e = .returned (.int .i64 (-1)))) ∧ ∃ q, w' = w.drewN q

/-- What 'at' holds when the indices from 'k' on have been looked at. -/
def AtOk (p : Nat → Bool) (n k : Nat) (v : Int) : Prop :=
  (∃ t : Nat, k ≤ t ∧ t < n ∧ p t = true ∧ (∀ j, k ≤ j → j < t → p j = false) ∧ v = t) ∨ ((∀ j, k ≤ j → j < n → p j = false) ∧ v = -1)
theorem AtOk.hit {p : Nat → Bool} {n k : Nat} (hk : k < n) (h : p k = true) : AtOk p n k k := .inl ⟨k, Nat.le_refl _, hk, h, fun j h1 h2 => by omega, rfl⟩
theorem AtOk.miss {p : Nat → Bool} {n k : Nat} {v : Int} (hv : AtOk p n (k + 1) v) (h : p k = false) : AtOk p n k v := by
  have each : ∀ m, (∀ j, k + 1 ≤ j → j < m → p j = false) → ∀ j, k ≤ j → j < m → p j = false := fun m hm j h1 h2 => by
    by_cases e : j = k
    · rw [e]; exact h
    · exact hm j (by omega) h2
  rcases hv with ⟨t, h1, h2, h3, h4, h5⟩ | ⟨h1, h2⟩
  · exact .inl ⟨t, by omega, h2, h3, each t h4, h5⟩
  · exact .inr ⟨each n h1, h2⟩

set_option maxHeartbeats 1000000 in
theorem firstMatch_any (a : Option Addr) (n c : Nat) (F : Nat → Fld) (s : ByteArray) (w : World) (hr : FRow w w.heap.size a F n) (hf : FOk w w.heap.size F n) (hn : n ≤ 2097152)
    (hs : ∀ i, i < n → (F i).nm.n ≤ 1048576) :
    Calls Try.prog 12 #[.slice a n c, .string s] w (MatchPost w n (fun i => eqUnder uppr (F i).nm.l (strBytes s))) := by
  have HR := hide hr
  have HF := hide hf
  have HS := hide hs
  clear hr hf hs
  obtain ⟨p, Hp⟩ : ∃ p : Nat → Bool, Hid (p = fun i => eqUnder uppr (F i).nm.l (strBytes s)) := ⟨_, rfl⟩
  rw [← unhide Hp]
  go_enter Try.func12, Try.ntmps12
  go_wp2
  go_loopw [5, 6] (fun v i wr => ∃ (k q : Nat) (at0 : Int), k ≤ n ∧ i = .int .i64 ((k : Int) - 1) ∧ v = .int .i64 at0 ∧ AtOk p n k at0 ∧ wr = w.drewN q) (fun _ i _ => (intOf i + 1).toNat)
  case atStart => exact ⟨n, 0, -1, Nat.le_refl _, rfl, rfl, .inr ⟨fun j h1 h2 => by omega, rfl⟩, rfl⟩
  case round =>
    obtain ⟨k, q, at0, hk, rfl, rfl, hat, hwr⟩ := hrel
    have HW := hide hwr
    clear hwr
    by_cases h0 : k = 0
    · subst h0
      go_wp2
      go_ret
      refine ⟨?_, q, unhide HW⟩
      rcases hat with ⟨t, h1, h2, h3, h4, rfl⟩ | ⟨h1, rfl⟩
      · exact .inl ⟨t, h2, h3, fun j hj => h4 j (by omega) hj, rfl⟩
      · exact .inr ⟨fun j hj => h1 j (by omega) hj, rfl⟩
    · obtain ⟨m, rfl⟩ : ∃ m, k = m + 1 := ⟨k - 1, by omega⟩
      have hmn : m < n := by omega
      obtain ⟨g, o, rfl, hg, hc⟩ := (unhide HR).open (by omega)
      obtain ⟨hc0, hc1⟩ := hc m hmn
      have hc0' : wr.cell? ⟨g, o + m * 2, none⟩ = some (.slice (F m).nm.a (F m).nm.n (F m).nm.c) := by rw [unhide HW]; exact hc0
      clear hc hc0 hc1
      have hmz : (m : Int) < (n : Int) := by omega
      obtain ⟨sn, _⟩ := unhide HF m hmn
      have hsn := unhide HS m hmn
      have hpk : eqUnder uppr (F m).nm.l (strBytes s) = p m := by rw [unhide Hp]
      have hrow : Row wr w.heap.size (F m).nm.a (F m).nm.l := by rw [unhide HW]; exact sn.row.below (below_drewN (Below.refl _ _) q)
      have hcall := foldEqual_any (F m).nm.a (F m).nm.n (F m).nm.c (F m).nm.l s wr w.heap.size hrow sn.len sn.bytes (by omega)
      rw [hpk] at hcall
      have HC := hide hcall
      have HAT := hide hat
      clear hpk sn hcall hrow hat
      rw [show (((m + 1 : Nat) : Int) - 1) = (m : Int) from by omega]
      go_wp2_with fail
      refine (unhide HC).mono ?_
      rintro e w' ⟨rfl, j, rfl⟩
      cases hpk : p m with
      | true =>
        have HK := hide hpk
        clear hpk HC
        go_wp2
        go_roundw
        case rel => exact ⟨m, q + j, m, by omega, rfl, rfl, AtOk.hit hmn (unhide HK), by rw [unhide HW, World.drewN_drewN]⟩
        case measure => simp [intOf]
      | false =>
        have HK := hide hpk
        clear hpk HC
        go_wp2
        go_roundw
        case rel => exact ⟨m, q + j, at0, by omega, rfl, rfl, (unhide HAT).miss (unhide HK), by rw [unhide HW, World.drewN_drewN]⟩
        case measure => simp [intOf]
end Go.Proofs.Qxb6602294a
