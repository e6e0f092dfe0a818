/- The walk of the bound laid by program for FnFirstValueAppendKeepsFirst. -/
import Derived.Test.Qxb6602294aSums
namespace Go.Proofs.Qxb6602294a
open Go.RowKit

/-- What the bound says where it says yes; the call has boxed its second argument. -/
def BytesPostB (w : World) (Q : Prop) (e : Ending) (w' : World) : Prop := ∃ b, e = .returned (.bool b) ∧ Below w.heap.size w w' ∧ (b = true → Q)
theorem BytesPostB.no {w : World} {Q : Prop} {o : Obj} : BytesPostB w Q (.returned (.bool false)) (w.alloc o) := ⟨false, rfl, (Below.refl _ _).alloc (Nat.le_refl _) _, fun h => by cases h⟩

set_option maxHeartbeats 1000000 in
theorem bytes15 (a : Option Addr) (n c : Nat) (F : Nat → Fld) (x : Fld) (s : ByteArray) (w : World) (hr : FRow w w.heap.size a F n) (hss : s.size ≤ maxLen) :
    Calls Try.prog 15 #[.slice a n c, .agg #[.slice x.nm.a x.nm.n x.nm.c, .slice x.vl.a x.vl.n x.vl.c], .string s] w
      (BytesPostB w (n ≤ 1048576 ∧ Small F n ∧ x.nm.n ≤ 1048576 ∧ x.vl.n ≤ 1048576 ∧ s.size ≤ 1048576)) := by
  unfold maxLen at hss
  have HR := hide hr
  clear hr
  obtain ⟨⟨xa, xn, xc, xl⟩, ⟨ya, yn, yc, yl⟩⟩ := x
  simp only
  obtain ⟨Q, HQ⟩ : ∃ Q : Prop, Hid ((n ≤ 1048576 ∧ Small F n ∧ xn ≤ 1048576 ∧ yn ≤ 1048576 ∧ s.size ≤ 1048576) = Q) := ⟨_, rfl⟩
  rw [unhide HQ]
  by_cases h4 : n ≤ 1048576
  · go_enter Try.func15, Try.ntmps15
    go_wp2
    go_loop [7, 8] (fun v i => ∃ (k : Nat) (t : Int), k ≤ n ∧ i = .int .i64 k ∧ v = .int .i64 t ∧ 0 ≤ t ∧ t ≤ 1048576 ∧ Small F k) (fun _ i => n - (intOf i).toNat)
    case atStart => exact ⟨0, _, Nat.zero_le _, rfl, rfl, by omega, by omega, fun i hi => absurd hi (by omega)⟩
    case round =>
      obtain ⟨k, t, hk, rfl, rfl, ht0, ht1, hsm⟩ := hrel
      have HS := hide hsm
      clear hsm
      by_cases hlt : k < n
      · obtain ⟨g, o, rfl, hg, hc⟩ := (unhide HR).open (by omega)
        obtain ⟨hc0, hc1⟩ := hc k hlt
        have HS2 : Hid ((F k).nm.n ≤ 1048576 → (F k).vl.n ≤ 1048576 → Small F (k + 1)) := fun h0 h1 => (unhide HS).step h0 h1
        clear hc HS
        have hlz : (k : Int) < (n : Int) := by omega
        generalize (F k).nm.n = x at *
        generalize (F k).vl.n = y at *
        by_cases b1 : x ≤ 1048576
        · by_cases b2 : t + (x : Int) ≤ 1048576
          · by_cases b3 : y ≤ 1048576
            · by_cases b4 : t + (x : Int) + (y : Int) ≤ 1048576
              · go_wp2
                go_round
                case rel => exact ⟨k + 1, _, by omega, by go_num, rfl, by omega, by omega, unhide HS2 b1 b3⟩
                case measure => simp [intOf]; omega
              · go_wp2
                go_ret
                exact BytesPostB.no
            · go_wp2
              go_ret
              exact BytesPostB.no
          · go_wp2
            go_ret
            exact BytesPostB.no
        · go_wp2
          go_ret
          exact BytesPostB.no
      · obtain rfl : k = n := by omega
        by_cases b1 : xn ≤ 1048576
        · by_cases b2 : t + (xn : Int) ≤ 1048576
          · by_cases b3 : yn ≤ 1048576
            · by_cases b4 : t + (xn : Int) + (yn : Int) ≤ 1048576
              · by_cases b5 : s.size ≤ 1048576
                · by_cases b6 : t + (xn : Int) + (yn : Int) + (s.size : Int) ≤ 1048576
                  · go_wp2
                    go_ret
                    exact ⟨true, rfl, (Below.refl _ _).alloc (Nat.le_refl _) _, fun _ => by rw [← unhide HQ]; exact ⟨h4, unhide HS, b1, b3, b5⟩⟩
                  · go_wp2
                    go_ret
                    exact BytesPostB.no
                · go_wp2
                  go_ret
                  exact BytesPostB.no
              · go_wp2
                go_ret
                exact BytesPostB.no
            · go_wp2
              go_ret
              exact BytesPostB.no
          · go_wp2
            go_ret
            exact BytesPostB.no
        · go_wp2
          go_ret
          exact BytesPostB.no
  · go_enter Try.func15, Try.ntmps15
    go_wp2
    go_ret
    exact BytesPostB.no
end Go.Proofs.Qxb6602294a
