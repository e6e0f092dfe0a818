/- FnFirstValueMatchesModel: the plain law and the walk. -/
import Derived.Test.Qxb6602294aCopyF
namespace Go.Proofs.Qxb6602294a
open Go.RowKit

/-- THE PLAIN LAW: two bytes are equal in lower case just where they are equal in upper case. -/
theorem low_up (c d : Int) : lowr c = lowr d ↔ uppr c = uppr d := by
  unfold lowr uppr
  split <;> split <;> split <;> split <;> omega

theorem fold_agree (A B : List Int) : eqUnder lowr A B = eqUnder uppr A B := by
  unfold eqUnder
  rw [decide_eq_decide]
  induction A generalizing B with
  | nil => cases B <;> simp
  | cons a A ih =>
    cases B with
    | nil => simp
    | cons b B => simp only [List.map_cons, List.cons.injEq]; rw [low_up, ih]

theorem small_same {F G : Nat → Fld} {n : Nat} {w w' : World} {B B' : Nat} (hs : Small F n) (hf : FOk w B F n) (hg : FOk w' B' G n) (h : ∀ j, j < n → SameB (F j).nm (G j).nm ∧ SameB (F j).vl (G j).vl) : Small G n := by
  intro i hi
  obtain ⟨s0, s1⟩ := hs i hi
  obtain ⟨⟨e0, _⟩, ⟨e1, _⟩⟩ := h i hi
  have a0 := (hf i hi).1.len
  have a1 := (hf i hi).2.len
  have b0 := (hg i hi).1.len
  have b1 := (hg i hi).2.len
  rw [e0] at b0
  rw [e1] at b1
  exact ⟨by omega, by omega⟩

set_option maxHeartbeats 2000000 in
theorem lawMM (m t r : Bs) (st mi : Int) (a : Option Addr) (n c : Nat) (F : Nat → Fld) (s : ByteArray) (w : World) (hm : SlOk w w.heap.size m) (ht : SlOk w w.heap.size t) (hr : SlOk w w.heap.size r)
    (hfr : FRow w w.heap.size a F n) (hf : FOk w w.heap.size F n) (hnc : a = none → c = 0) (hss : s.size ≤ maxLen) :
    Calls Try.prog 3 #[.slice m.a m.n m.c, .slice t.a t.n t.c, .int .i64 st, .slice r.a r.n r.c, .int .i64 mi, .slice a n c, .string s] w fun e w' => e = .returned (.bool true) ∧ Below w.heap.size w w' := by
  have Hnc := hide hnc
  have hby := bytes6 m.a t.a r.a m.n m.c t.n t.c r.n r.c st mi a n c F s w w.heap.size hfr hss
  have HBY := hide hby
  clear hnc hby hss
  go_enter Try.func3, Try.ntmps3
  go_wp2_with fail
  refine (unhide HBY).mono ?_
  clear HBY
  rintro e w' ⟨b, rfl, hw, hq⟩
  obtain rfl := hw.symm
  have HQ := hide hq
  clear hq
  cases b with
  | false =>
    go_wp2
    go_ret
    exact ⟨rfl, Below.refl _ _⟩
  | true =>
    obtain ⟨l1, l2, l3, l4, l5, hsm⟩ := unhide HQ rfl
    clear HQ
    have hfb := fieldsBytes_any a n c F w w.heap.size hfr hsm
    obtain ⟨v0, v1⟩ := fbVal_bound F n hsm
    generalize fbVal F n = V at *
    have HFB := hide hfb
    clear hfb
    go_wp2_with fail
    refine (unhide HFB).mono ?_
    clear HFB
    rintro e w' ⟨rfl, q, rfl⟩
    have hb1 : Below w.heap.size w (w.drewN q) := below_drewN (Below.refl _ _) q
    have hm' := (hm.below hb1)
    have ht' := (ht.below hb1)
    have hr' := (hr.below hb1)
    have hfr' := (hfr.below hb1)
    have hf' := (hf.below hb1)
    have hz1 : w.heap.size = (w.drewN q).heap.size := rfl
    rw [hz1] at hm' ht' hr' hfr' hf'
    clear hm ht hr hfr hf hz1
    generalize w.drewN q = w1 at *
    by_cases hsum : (m.n : Int) + t.n + r.n + s.size + V ≤ 1048576
    · go_wp2_with fail
      refine (clone_bs m w1 hm' l1).mono ?_
      rintro e w2 ⟨m2, rfl, _, _, _, b2⟩
      have ht2 := (ht'.below b2).mono b2.size
      have hr2 := (hr'.below b2).mono b2.size
      have hfr2 := (hfr'.below b2).mono b2.size
      have hf2 := (hf'.below b2).mono b2.size
      have hb2 : Below w.heap.size w w2 := hb1.trans (b2.mono hb1.size)
      clear hm' ht' hr' hfr' b2 hb1
      go_wp2_with fail
      refine (clone_bs t w2 ht2 l2).mono ?_
      rintro e w3 ⟨t3, rfl, _, _, _, b3⟩
      have hr3 := (hr2.below b3).mono b3.size
      have hfr3 := (hfr2.below b3).mono b3.size
      have hf3 := (hf2.below b3).mono b3.size
      have hb3 : Below w.heap.size w w3 := hb2.trans (b3.mono hb2.size)
      clear ht2 hr2 hfr2 hf2 b3 hb2
      go_wp2_with fail
      refine (clone_bs r w3 hr3 l3).mono ?_
      rintro e w4 ⟨r4, rfl, _, _, _, b4⟩
      have hfr4 := (hfr3.below b4).mono b4.size
      have hf4 := (hf3.below b4).mono b4.size
      have hb4 : Below w.heap.size w w4 := hb3.trans (b4.mono hb3.size)
      clear hr3 hfr3 hf3 b4 hb3
      go_wp2_with fail
      refine (copyFields_any a n c F w4 hfr4 hf4 hsm l4 (unhide Hnc)).mono ?_
      rintro e w5 ⟨a5, G, rfl, hfr5, hf5, hsame, b5⟩
      have hsm5 := small_same hsm hf4 hf5 hsame
      have hb5 : Below w.heap.size w w5 := hb4.trans (b5.mono hb4.size)
      have Hn5 : Hid (a5 = none → n = 0) := fun h => by
        by_cases h0 : 0 < n
        · obtain ⟨g, o, ha, _⟩ := hfr5.open h0
          rw [h] at ha; cases ha
        · omega
      clear hfr4 hf4 b5 hb4 hsame hsm hf'
      go_wp2_with fail
      refine (toWire_any a5 n n G w5 hfr5 l4 (unhide Hn5)).mono ?_
      rintro e w6 ⟨a6, rfl, hfr6, b6⟩
      have hfr5' := (hfr5.below b6).mono b6.size
      have hf6 := (hf5.below b6).mono b6.size
      have hb6 : Below w.heap.size w w6 := hb5.trans (b6.mono hb5.size)
      clear hfr5 hf5 b6 hb5
      go_wp2_with fail
      obtain ⟨cs, hcs⟩ : ∃ cs : Array Value, Hid (#[.slice m2.a m2.n m2.c, .slice t3.a t3.n t3.c, .int .i64 st, .slice r4.a r4.n r4.c, .int .i64 mi, .slice a6 n n, .slice none 0 0, .int .i64 0, .int .i64 0] = cs) := ⟨_, rfl⟩
      rw [unhide hcs]
      have h5 : cs[5]? = some (.slice a6 n n) := by rw [← unhide hcs]; rfl
      have hh : (w6.alloc (.cells cs 32)).cell? ⟨w6.heap.size, 5, none⟩ = some (.slice a6 n n) := by rw [World.cell?_alloc_at (hn := rfl)]; exact h5
      have b7 : Below w6.heap.size w6 (w6.alloc (.cells cs 32)) := (Below.refl _ _).alloc (Nat.le_refl _) _
      clear hcs h5
      generalize w6.alloc (.cells cs 32) = w7 at *
      have hfr7 := (hfr6.below b7).mono b7.size
      have hfr7' := (hfr5'.below b7).mono b7.size
      have hf7 := (hf6.below b7).mono b7.size
      have hb7 : Below w.heap.size w w7 := hb6.trans (b7.mono hb6.size)
      refine (ZZfirstValue_any w6.heap.size a6 n n G s w7 hh hfr7 hf7 (by omega) (fun i hi => (hsm5 i hi).1)).mono ?_
      rintro e w8 ⟨hres, b8⟩
      have hfr8 := (hfr7'.below b8).mono b8.size
      have hf8 := (hf7.below b8).mono b8.size
      have hb8 : Below w.heap.size w w8 := hb7.trans (b8.mono hb7.size)
      have hmt := firstMatch_any a5 n n G s w8 hfr8 hf8 (by omega) (fun i hi => (hsm5 i hi).1)
      rw [show (fun i => eqUnder lowr (G i).nm.l (strBytes s)) = (fun i => eqUnder uppr (G i).nm.l (strBytes s)) from funext fun i => fold_agree _ _] at hres
      generalize (fun i => eqUnder uppr (G i).nm.l (strBytes s)) = p at *
      have HM := hide hmt
      clear hmt hfr7 hfr7' hf7 hb7 b8 b7 hh hfr6 hfr5' hf6 hb6
      rcases hres with ⟨i, hi, hp, hno, rfl⟩ | ⟨hno, rfl⟩
      · have HP := hide hp
        have HNO := hide hno
        clear hp hno
        go_wp2_with fail
        refine (unhide HM).mono ?_
        clear HM
        rintro e w9 ⟨hat, q9, rfl⟩
        obtain rfl : e = .returned (.int .i64 i) := by
          rcases hat with ⟨j, hj, hpj, hnoj, rfl⟩ | ⟨hall, rfl⟩
          · obtain rfl : i = j := by
              by_cases h1 : i < j
              · have := hnoj i h1; rw [unhide HP] at this; cases this
              · by_cases h2 : j < i
                · have := unhide HNO j h2; rw [hpj] at this; cases this
                · omega
            rfl
          · have := hall i hi; rw [unhide HP] at this; cases this
        clear hat
        obtain ⟨g, o, rfl, hg, hc⟩ := hfr8.open (by omega)
        have hcv := (hc i hi).2
        have hsv := (hf8 i hi).2
        have hsmall := (hsm5 i hi).2
        clear hc hfr8
        have hiz : (i : Int) < (n : Int) := by omega
        go_wp2_with fail
        have hrow : Row (w8.drewN q9) w8.heap.size (G i).vl.a (G i).vl.l := hsv.row.below (below_drewN (Below.refl _ _) q9)
        refine (sameValue_yes (G i).vl.a (G i).vl.a (G i).vl.n (G i).vl.n (G i).vl.c (G i).vl.c (G i).vl.l (w8.drewN q9) w8.heap.size w8.heap.size hrow hrow hsv.len hsv.len (by omega) rfl).mono ?_
        rintro e w' ⟨rfl, q10, rfl⟩
        go_wp2
        go_ret
        exact ⟨rfl, below_drewN hb8 _⟩
      · have HNO := hide hno
        clear hno
        go_wp2_with fail
        refine (unhide HM).mono ?_
        clear HM
        rintro e w9 ⟨hat, q9, rfl⟩
        obtain rfl : e = .returned (.int .i64 (-1)) := by
          rcases hat with ⟨j, hj, hpj, hnoj, rfl⟩ | ⟨hall, rfl⟩
          · have := unhide HNO j hj; rw [hpj] at this; cases this
          · rfl
        clear hat
        have hnil := fun w => Lib.run_eql_slice_nil (P := Try.prog) w 22 5 none 0 0 0 0 Try.underlying22
        go_wp2
        go_ret
        exact ⟨rfl, below_drewN hb8 q9⟩
    · go_wp2
      go_ret
      exact ⟨rfl, hb1⟩
end Go.Proofs.Qxb6602294a
