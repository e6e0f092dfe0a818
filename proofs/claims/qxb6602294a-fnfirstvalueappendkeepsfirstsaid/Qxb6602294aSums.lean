/- The walks of fieldsBytes and of the bounds laid by program. -/
import Derived.Test.Qxb6602294aFirst
namespace Go.Proofs.Qxb6602294a
open Go.RowKit

def fbGo (F : Nat → Fld) : Nat → Nat → Int → Int
  | 0, _, t => t
  | m + 1, i, t => if 1048576 < t + ((F i).nm.n + (F i).vl.n) then t + ((F i).nm.n + (F i).vl.n) else fbGo F m (i + 1) (t + ((F i).nm.n + (F i).vl.n))
def fbVal (F : Nat → Fld) (n : Nat) : Int := if 65536 < n then 1048577 else fbGo F n 0 (n * 48)

/-- No slice of a field is longer than 1<<20. -/
def Small (F : Nat → Fld) (n : Nat) : Prop := ∀ i, i < n → (F i).nm.n ≤ 1048576 ∧ (F i).vl.n ≤ 1048576

theorem fbGo_bound (F : Nat → Fld) (n : Nat) (hs : Small F n) : ∀ m i t, i + m = n → 0 ≤ t → t ≤ 3145728 → 0 ≤ fbGo F m i t ∧ fbGo F m i t ≤ 5242880 := by
  intro m
  induction m with
  | zero => intro i t _ h0 h1; simp [fbGo]; omega
  | succ m ih =>
    intro i t hi h0 h1
    obtain ⟨s0, s1⟩ := hs i (by omega)
    simp only [fbGo]
    split
    · omega
    · exact ih (i + 1) _ (by omega) (by omega) (by omega)
theorem fbVal_bound (F : Nat → Fld) (n : Nat) (hs : Small F n) : 0 ≤ fbVal F n ∧ fbVal F n ≤ 5242880 := by
  unfold fbVal
  split
  · omega
  · exact fbGo_bound F n hs n 0 _ (by omega) (by omega) (by omega)

set_option maxHeartbeats 1000000 in
theorem fieldsBytes_any (a : Option Addr) (n c : Nat) (F : Nat → Fld) (w : World) (B : Nat) (hr : FRow w B a F n) (hs : Small F n) :
    Calls Try.prog 7 #[.slice a n c] w fun e w' => e = .returned (.int .i64 (fbVal F n)) ∧ ∃ q, w' = w.drewN q := by
  by_cases hbig : 65536 < n
  · go_enter Try.func7, Try.ntmps7
    go_wp2
    go_ret
    exact ⟨ret_int (by unfold fbVal; rw [if_pos hbig]), 0, rfl⟩
  · have HR := hide hr
    have HS := hide hs
    clear hr hs
    obtain ⟨V, HV⟩ : ∃ V, Hid (fbVal F n = V) := ⟨_, rfl⟩
    rw [unhide HV]
    have HV2 : Hid (fbGo F n 0 (n * 48) = V) := by have h := unhide HV; unfold fbVal at h; rw [if_neg hbig] at h; exact h
    clear HV
    go_enter Try.func7, Try.ntmps7
    go_wp2
    go_loopw [3, 4] (fun v i wr => ∃ (k q : Nat) (t : Int), k ≤ n ∧ i = .int .i64 k ∧ v = .int .i64 t ∧ 0 ≤ t ∧ t ≤ 3145728 ∧ fbGo F (n - k) k t = V ∧ wr = w.drewN q) (fun _ i _ => n - (intOf i).toNat)
    case atStart => exact ⟨0, 0, _, Nat.zero_le _, rfl, rfl, by omega, by omega, unhide HV2, rfl⟩
    case round =>
      obtain ⟨k, q, t, hk, rfl, rfl, ht0, ht1, hfb, hwr⟩ := hrel
      have HW := hide hwr
      have HG := hide hfb
      clear hwr hfb HV2
      by_cases hlt : k < n
      · obtain ⟨g, o, rfl, hg, hc⟩ := (unhide HR).open (by omega)
        obtain ⟨hc0, hc1⟩ := hc k hlt
        obtain ⟨s0, s1⟩ := unhide HS k hlt
        have hc0' : wr.cell? ⟨g, o + k * 2, none⟩ = some (.slice (F k).nm.a (F k).nm.n (F k).nm.c) := by rw [unhide HW]; exact hc0
        have hc1' : wr.cell? ⟨g, o + k * 2 + 1, none⟩ = some (.slice (F k).vl.a (F k).vl.n (F k).vl.c) := by rw [unhide HW]; exact hc1
        have HG2 : Hid ((if 1048576 < t + (((F k).nm.n : Int) + ((F k).vl.n : Int)) then t + ((F k).nm.n + (F k).vl.n) else fbGo F (n - (k + 1)) (k + 1) (t + ((F k).nm.n + (F k).vl.n))) = V) := by
          have h := unhide HG
          rw [show n - k = (n - (k + 1)) + 1 from by omega] at h
          exact h
        clear hc hc0 hc1 HG
        have hlz : (k : Int) < (n : Int) := by omega
        generalize (F k).nm.n = x at *
        generalize (F k).vl.n = y at *
        by_cases hov : 1048576 < t + ((x : Int) + (y : Int))
        · go_wp2
          go_quiet (fail)
          go_wp2
          go_ret
          have h := unhide HG2
          rw [if_pos hov] at h
          exact ⟨ret_int h, q + nq, by rw [unhide HW, World.drewN_drewN]⟩
        · go_wp2
          go_quiet (fail)
          go_wp2
          go_roundw
          case rel =>
            have h := unhide HG2
            rw [if_neg (by omega)] at h
            exact ⟨k + 1, q + nq, t + (x + y), by omega, by go_num, rfl, by omega, by omega, h, by rw [unhide HW, World.drewN_drewN]⟩
          case measure => simp [intOf]; omega
      · go_wp2
        go_ret
        have h := unhide HG
        rw [show n - k = 0 from by omega] at h
        exact ⟨ret_int h, q, unhide HW⟩

/-- What the bound laid by program says where it says yes. -/
def BytesPost (w : World) (Q : Prop) (e : Ending) (w' : World) : Prop := ∃ b, e = .returned (.bool b) ∧ w' = w ∧ (b = true → Q)
theorem BytesPost.no {w : World} {Q : Prop} : BytesPost w Q (.returned (.bool false)) w := ⟨false, rfl, rfl, fun h => by cases h⟩
theorem Small.step {F : Nat → Fld} {k : Nat} (h : Small F k) (h0 : (F k).nm.n ≤ 1048576) (h1 : (F k).vl.n ≤ 1048576) : Small F (k + 1) := by
  intro i hi
  by_cases e : i = k
  · rw [e]; exact ⟨h0, h1⟩
  · exact h i (by omega)

set_option maxHeartbeats 1000000 in
theorem bytes6 (am ta ar : Option Addr) (lm cm lt ct lr cr : Nat) (st mi : Int) (a : Option Addr) (n c : Nat) (F : Nat → Fld) (s : ByteArray) (w : World) (B : Nat) (hr : FRow w B a F n) (hss : s.size ≤ maxLen) :
    Calls Try.prog 6 #[.slice am lm cm, .slice ta lt ct, .int .i64 st, .slice ar lr cr, .int .i64 mi, .slice a n c, .string s] w
      (BytesPost w (lm ≤ 1048576 ∧ lt ≤ 1048576 ∧ lr ≤ 1048576 ∧ n ≤ 1048576 ∧ s.size ≤ 1048576 ∧ Small F n)) := by
  unfold maxLen at hss
  have HR := hide hr
  clear hr
  by_cases hpre : lm + lt + lr + n ≤ 1048576
  · have h1 : lm ≤ 1048576 := by omega
    have h2 : lt ≤ 1048576 := by omega
    have h3 : lr ≤ 1048576 := by omega
    have h4 : n ≤ 1048576 := by omega
    obtain ⟨Q, HQ⟩ : ∃ Q : Prop, Hid ((lm ≤ 1048576 ∧ lt ≤ 1048576 ∧ lr ≤ 1048576 ∧ n ≤ 1048576 ∧ s.size ≤ 1048576 ∧ Small F n) = Q) := ⟨_, rfl⟩
    rw [unhide HQ]
    go_enter Try.func6, Try.ntmps6
    go_wp2
    go_loop [15, 16] (fun v i => ∃ (k : Nat) (t : Int), k ≤ n ∧ i = .int .i64 k ∧ v = .int .i64 t ∧ 0 ≤ t ∧ t ≤ 1048576 ∧ Small F k) (fun _ i => n - (intOf i).toNat)
    case atStart => exact ⟨0, _, Nat.zero_le _, rfl, rfl, by omega, by omega, fun i hi => absurd hi (by omega)⟩
    case round =>
      obtain ⟨k, t, hk, rfl, rfl, ht0, ht1, hsm⟩ := hrel
      have HS := hide hsm
      clear hsm
      by_cases hlt : k < n
      · obtain ⟨g, o, rfl, hg, hc⟩ := (unhide HR).open (by omega)
        obtain ⟨hc0, hc1⟩ := hc k hlt
        have HS2 : Hid ((F k).nm.n ≤ 1048576 → (F k).vl.n ≤ 1048576 → Small F (k + 1)) := fun h0 h1 => (unhide HS).step h0 h1
        clear hc HS
        have hlz : (k : Int) < (n : Int) := by omega
        generalize (F k).nm.n = x at *
        generalize (F k).vl.n = y at *
        by_cases b1 : x ≤ 1048576
        · by_cases b2 : t + (x : Int) ≤ 1048576
          · by_cases b3 : y ≤ 1048576
            · by_cases b4 : t + (x : Int) + (y : Int) ≤ 1048576
              · go_wp2
                go_round
                case rel => exact ⟨k + 1, _, by omega, by go_num, rfl, by omega, by omega, unhide HS2 b1 b3⟩
                case measure => simp [intOf]; omega
              · go_wp2
                go_ret
                exact BytesPost.no
            · go_wp2
              go_ret
              exact BytesPost.no
          · go_wp2
            go_ret
            exact BytesPost.no
        · go_wp2
          go_ret
          exact BytesPost.no
      · obtain rfl : k = n := by omega
        by_cases b1 : s.size ≤ 1048576
        · by_cases b2 : t + (s.size : Int) ≤ 1048576
          · go_wp2
            go_ret
            exact ⟨true, rfl, rfl, fun _ => by rw [← unhide HQ]; exact ⟨h1, h2, h3, h4, b1, unhide HS⟩⟩
          · go_wp2
            go_ret
            exact BytesPost.no
        · go_wp2
          go_ret
          exact BytesPost.no
  · obtain ⟨Q, HQ⟩ : ∃ Q : Prop, Hid ((lm ≤ 1048576 ∧ lt ≤ 1048576 ∧ lr ≤ 1048576 ∧ n ≤ 1048576 ∧ s.size ≤ 1048576 ∧ Small F n) = Q) := ⟨_, rfl⟩
    rw [unhide HQ]
    by_cases b1 : lm ≤ 1048576
    · by_cases b2 : lt ≤ 1048576
      · by_cases b3 : lm + lt ≤ 1048576
        · by_cases b4 : lr ≤ 1048576
          · by_cases b5 : lm + lt + lr ≤ 1048576
            · by_cases b6 : n ≤ 1048576
              all_goals (go_enter Try.func6, Try.ntmps6; go_wp2; go_ret; exact BytesPost.no)
            · go_enter Try.func6, Try.ntmps6; go_wp2; go_ret; exact BytesPost.no
          · go_enter Try.func6, Try.ntmps6; go_wp2; go_ret; exact BytesPost.no
        · go_enter Try.func6, Try.ntmps6; go_wp2; go_ret; exact BytesPost.no
      · go_enter Try.func6, Try.ntmps6; go_wp2; go_ret; exact BytesPost.no
    · go_enter Try.func6, Try.ntmps6; go_wp2; go_ret; exact BytesPost.no
end Go.Proofs.Qxb6602294a
