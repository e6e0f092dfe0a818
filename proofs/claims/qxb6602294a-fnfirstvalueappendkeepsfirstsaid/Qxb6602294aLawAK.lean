/- FnFirstValueAppendKeepsFirst: the walk. -/
import Derived.Test.Qxb6602294aLawMM
import Derived.Test.Qxb6602294aBytes
import Derived.Deep.DeepCutAuto
namespace Go.Proofs.Qxb6602294a
open Go.RowKit

/-- copyFields, and where its row lies. -/
theorem copyFields_at (a : Option Addr) (n c : Nat) (F : Nat → Fld) (w : World) (hr : FRow w w.heap.size a F n) (hf : FOk w w.heap.size F n) (hs : Small F n) (hn : n ≤ 1048576) (hnc : a = none → c = 0) :
    Calls Try.prog 9 #[.slice a n c] w fun e w' => ∃ a' G, e = .returned (.slice a' n n) ∧ FRow w' w'.heap.size a' G n ∧ FOk w' w'.heap.size G n ∧
      (∀ j, j < n → SameB (F j).nm (G j).nm ∧ SameB (F j).vl (G j).vl) ∧ Below w.heap.size w w' ∧ (∀ g o, a' = some ⟨g, o, none⟩ → w.heap.size ≤ g) := by
  by_cases h0 : 0 < n
  · obtain ⟨g, o, rfl, _⟩ := hr.open h0
    refine (copyFields_some g o n c F w hr hf hs hn h0).mono ?_
    rintro e w' ⟨G, rfl, h1, h2, h3, h4⟩
    exact ⟨_, G, rfl, h1, h2, h3, h4, fun g o h => by cases h; exact Nat.le_refl _⟩
  · obtain rfl : n = 0 := by omega
    cases a with
    | none =>
      obtain rfl := hnc rfl
      refine (copyFields_none w).mono ?_
      rintro e w' ⟨rfl, rfl⟩
      exact ⟨_, F, rfl, FRow.zero _ _ _ _, fun i hi => absurd hi (by omega), fun i hi => absurd hi (by omega), Below.refl _ _, fun g o h => by cases h⟩
    | some x =>
      refine (copyFields_empty x c w).mono ?_
      rintro e w' ⟨rfl, h2⟩
      exact ⟨_, F, rfl, FRow.zero _ _ _ _, fun i hi => absurd hi (by omega), fun i hi => absurd hi (by omega), h2, fun g o h => by cases h; exact Nat.le_refl _⟩

theorem FRow.set {w : World} {B : Nat} {a : Option Addr} {F : Nat → Fld} {n : Nat} (h : FRow w B a F n) {p : Addr} (hp : ∀ g o, a = some ⟨g, o, none⟩ → p.block < g) (v : Value) : FRow (w.setCell p v) B a F n := by
  intro i hi
  obtain ⟨g, o, ha, hg, h0, h1⟩ := h i hi
  have hlt := hp g o ha
  refine ⟨g, o, ha, hg, ?_, ?_⟩
  · rw [World.cell?_setCell_other (h := by rintro rfl; simp at hlt)]; exact h0
  · rw [World.cell?_setCell_other (h := by rintro rfl; simp at hlt)]; exact h1

/-- How the world stands when the second argument has been copied into its box: 'T' lies in the box; the fields' copies lie as they did. -/
structure Boxed (w : World) (a3 : Option Addr) (G : Nat → Fld) (n : Nat) (T : Fld) (wx : World) : Prop where
  box0 : wx.cell? ⟨w.heap.size, 0, none⟩ = some (.slice T.nm.a T.nm.n T.nm.c)
  box1 : wx.cell? ⟨w.heap.size, 1, none⟩ = some (.slice T.vl.a T.vl.n T.vl.c)
  frow : FRow wx wx.heap.size a3 G n
  fok : FOk wx wx.heap.size G n
  nm : SlOk wx wx.heap.size T.nm
  vl : SlOk wx wx.heap.size T.vl
  nml : T.nm.n ≤ 1048576
  vll : T.vl.n ≤ 1048576
  below : Below w.heap.size w wx
  size : w.heap.size < wx.heap.size

theorem Boxed.mk2 {w w3 w4 w5 : World} {a3 : Option Addr} {G : Nat → Fld} {n : Nat} {x : Fld} {t1 t2 : Bs} (hfr3 : FRow w3 w3.heap.size a3 G n) (hf3 : FOk w3 w3.heap.size G n) (hb3 : Below w.heap.size w w3) (hsz3 : w.heap.size < w3.heap.size)
    (hat : ∀ g o, a3 = some ⟨g, o, none⟩ → w.heap.size < g) (l1 : x.nm.n ≤ 1048576) (l2 : x.vl.n ≤ 1048576) (e1 : x.nm.l.length = x.nm.n) (e2 : x.vl.l.length = x.vl.n)
    (t1ok : SlOk w4 w4.heap.size t1) (t1l : t1.l = x.nm.l) (t2ok : SlOk w5 w5.heap.size t2) (t2l : t2.l = x.vl.l) (b5 : Below w4.heap.size w4 w5) (hb5 : Below w3.heap.size w3 w5)
    (r0 : w5.cell? ⟨w.heap.size, 0, none⟩ = some (.slice x.nm.a x.nm.n x.nm.c)) (r1 : w5.cell? ⟨w.heap.size, 1, none⟩ = some (.slice x.vl.a x.vl.n x.vl.c)) :
    Boxed w a3 G n ⟨t1, t2⟩ ((w5.setCell ⟨w.heap.size, 0, none⟩ (.slice t1.a t1.n t1.c)).setCell ⟨w.heap.size, 1, none⟩ (.slice t2.a t2.n t2.c)) := by
  have r1' : (w5.setCell ⟨w.heap.size, 0, none⟩ (.slice t1.a t1.n t1.c)).cell? ⟨w.heap.size, 1, none⟩ = some (.slice x.vl.a x.vl.n x.vl.c) := by
    rw [World.cell?_setCell_other (h := by simp)]; exact r1
  refine ⟨?_, World.cell?_setCell_same _ _ _ r1', ?_, ?_, ?_, ?_, ?_, ?_, ?_, ?_⟩
  · rw [World.cell?_setCell_other (h := by simp)]
    exact World.cell?_setCell_same _ _ _ r0
  · rw [size_two]
    exact (((hfr3.below hb5).mono hb5.size).set (fun g o h => hat g o h) _).set (fun g o h => hat g o h) _
  · rw [size_two]
    intro i hi
    obtain ⟨h0, h1⟩ := (hf3.below hb5).mono hb5.size i hi
    exact ⟨(h0.store r0 _).store r1' _, (h1.store r0 _).store r1' _⟩
  · rw [size_two]
    exact ((((t1ok.below b5).mono b5.size).store r0 _).store r1' _)
  · rw [size_two]
    exact ((t2ok.store r0 _).store r1' _)
  · have := t1ok.len
    rw [t1l] at this
    show t1.n ≤ _
    omega
  · have := t2ok.len
    rw [t2l] at this
    show t2.n ≤ _
    omega
  · exact ((hb3.trans (hb5.mono hb3.size)).setCell (Nat.le_refl _) _).setCell (Nat.le_refl _) _
  · rw [size_two]
    exact Nat.lt_of_lt_of_le hsz3 hb5.size

theorem Boxed.drew {w : World} {a3 : Option Addr} {G : Nat → Fld} {n : Nat} {T : Fld} {wx : World} (h : Boxed w a3 G n T wx) : Boxed w a3 G n T wx.drew :=
  ⟨h.box0, h.box1, h.frow.below (Below.refl _ _).drew, h.fok.below (Below.refl _ _).drew, h.nm.drew, h.vl.drew, h.nml, h.vll, h.below.drew, h.size⟩

/-- .. stays so behind what makes new memory alone. -/
theorem Boxed.later {w : World} {a3 : Option Addr} {G : Nat → Fld} {n : Nat} {T : Fld} {wx wy : World} (h : Boxed w a3 G n T wx) (b : Below wx.heap.size wx wy) : Boxed w a3 G n T wy :=
  ⟨(b.cell (p := ⟨w.heap.size, 0, none⟩) h.size).trans h.box0, (b.cell (p := ⟨w.heap.size, 1, none⟩) h.size).trans h.box1, (h.frow.below b).mono b.size, (h.fok.below b).mono b.size, (h.nm.below b).mono b.size, (h.vl.below b).mono b.size, h.nml, h.vll,
    h.below.trans (b.mono h.below.size), Nat.lt_of_lt_of_le h.size b.size⟩

/-- The fields with one more behind them. -/
def more (G : Nat → Fld) (n : Nat) (T : Fld) : Nat → Fld := fun j => if j = n then T else G j
theorem more_lt {G : Nat → Fld} {n : Nat} {T : Fld} {j : Nat} (h : j < n) : more G n T j = G j := if_neg (by omega)
theorem more_at {G : Nat → Fld} {n : Nat} {T : Fld} : more G n T n = T := if_pos rfl

/-- How the world stands when the grown row is laid. -/
structure Grew (w7 : World) (G : Nat → Fld) (n : Nat) (T : Fld) (W : World) : Prop where
  below : Below w7.heap.size w7 W
  frow : FRow W W.heap.size (some ⟨w7.heap.size, 0, none⟩) (more G n T) (n + 1)
  fok : FOk W W.heap.size (more G n T) (n + 1)

theorem Grew.mk2 {w w7 wr : World} {a3 : Option Addr} {E G : Nat → Fld} {n : Nat} {T : Fld} (hT : Boxed w a3 G n T w7) (hcr : CRow wr w7.heap.size E (n + 1)) (hE : ∀ j, j < n → E j = G j) (hbl : Below w7.heap.size w7 wr) (hsz : w7.heap.size < wr.heap.size) :
    Grew w7 G n T ((wr.setCell ⟨w7.heap.size, n * 2, none⟩ (.slice T.nm.a T.nm.n T.nm.c)).setCell ⟨w7.heap.size, n * 2 + 1, none⟩ (.slice T.vl.a T.vl.n T.vl.c)) := by
  have hb : Below w7.heap.size w7 ((wr.setCell ⟨w7.heap.size, n * 2, none⟩ (.slice T.nm.a T.nm.n T.nm.c)).setCell ⟨w7.heap.size, n * 2 + 1, none⟩ (.slice T.vl.a T.vl.n T.vl.c)) := (hbl.setCell (Nat.le_refl _) _).setCell (Nat.le_refl _) _
  refine ⟨hb, ?_, ?_⟩
  · refine ((hcr.store (show n < n + 1 by omega) T.nm T.vl).frow (by rw [size_two]; exact hsz)).congr (fun j hj => ?_)
    by_cases e : j = n
    · simp only [if_pos e]; rw [e, more_at]
    · simp only [if_neg e]; rw [more_lt (by omega), hE j (by omega)]
  · intro i hi
    by_cases e : i = n
    · rw [e, more_at]
      exact ⟨(hT.nm.below hb).mono hb.size, (hT.vl.below hb).mono hb.size⟩
    · rw [more_lt (by omega)]
      obtain ⟨h0, h1⟩ := hT.fok i (by omega)
      exact ⟨(h0.below hb).mono hb.size, (h1.below hb).mono hb.size⟩

theorem Grew.later {w7 : World} {G : Nat → Fld} {n : Nat} {T : Fld} {W W' : World} (h : Grew w7 G n T W) (b : Below W.heap.size W W') : Grew w7 G n T W' :=
  ⟨h.below.trans (b.mono h.below.size), (h.frow.below b).mono b.size, (h.fok.below b).mono b.size⟩

set_option maxRecDepth 100000 in
set_option maxHeartbeats 4000000 in
theorem lawAK (a : Option Addr) (n c : Nat) (F : Nat → Fld) (x : Fld) (s : ByteArray) (w : World) (hfr : FRow w w.heap.size a F n) (hf : FOk w w.heap.size F n) (hx : SlOk w w.heap.size x.nm) (hy : SlOk w w.heap.size x.vl) (hnc : a = none → c = 0) (hss : s.size ≤ maxLen) :
    Calls Try.prog 5 #[.slice a n c, .agg #[.slice x.nm.a x.nm.n x.nm.c, .slice x.vl.a x.vl.n x.vl.c], .string s] w fun e w' => e = .returned (.bool true) ∧ Below w.heap.size w w' := by
  have Hnc := hide hnc
  clear hnc
  -- the box of the second argument
  have b0 : Below w.heap.size w (w.alloc (.cells #[.slice x.nm.a x.nm.n x.nm.c, .slice x.vl.a x.vl.n x.vl.c] 38)) := (Below.refl _ _).alloc (Nat.le_refl _) _
  have hby := bytes15 a n c F x s (w.alloc (.cells #[.slice x.nm.a x.nm.n x.nm.c, .slice x.vl.a x.vl.n x.vl.c] 38)) ((hfr.below b0).mono b0.size) hss
  have HBY := hide hby
  clear hby hss
  go_enter Try.func5, Try.ntmps5
  go_wp2_with fail
  refine (unhide HBY).mono ?_
  clear HBY
  rintro e w1 ⟨b, rfl, b1, hq⟩
  have HQ := hide hq
  clear hq
  cases b with
  | false =>
    go_wp2
    go_ret
    exact ⟨rfl, b0.trans (b1.mono b0.size)⟩
  | true =>
    obtain ⟨l4, hsm, l1, l2, l5⟩ := unhide HQ rfl
    have hsz1 : w.heap.size < w1.heap.size := by have := b1.size; simp at this; omega
    have hb1 : Below w.heap.size w w1 := b0.trans (b1.mono b0.size)
    have x0 : w1.cell? ⟨w.heap.size, 0, none⟩ = some (.slice x.nm.a x.nm.n x.nm.c) := by rw [b1.cell (p := ⟨w.heap.size, 0, none⟩) (by simp), World.cell?_alloc_at (hn := rfl)]; rfl
    have x1 : w1.cell? ⟨w.heap.size, 1, none⟩ = some (.slice x.vl.a x.vl.n x.vl.c) := by rw [b1.cell (p := ⟨w.heap.size, 1, none⟩) (by simp), World.cell?_alloc_at (hn := rfl)]; rfl
    have z0 : w1.frozen? ⟨w.heap.size, 0, none⟩ = false := by rw [b1.frozen (p := ⟨w.heap.size, 0, none⟩) (by simp), World.frozen?_alloc_at (hn := rfl)]
    have z1 : w1.frozen? ⟨w.heap.size, 1, none⟩ = false := by rw [b1.frozen (p := ⟨w.heap.size, 1, none⟩) (by simp), World.frozen?_alloc_at (hn := rfl)]
    have hfr1 := (hfr.below hb1).mono hb1.size
    have hf1 := (hf.below hb1).mono hb1.size
    have hx1 := (hx.below hb1).mono hb1.size
    have hy1 := (hy.below hb1).mono hb1.size
    clear HQ b0 b1 hfr hf hx hy
    obtain ⟨v0, v1⟩ := fbVal_bound F n hsm
    have HFB : Hid (∀ q, Calls Try.prog 7 #[.slice a n c] (w1.drewN q) fun e w' => e = .returned (.int .i64 (fbVal F n)) ∧ ∃ m, w' = (w1.drewN q).drewN m) := fun q => fieldsBytes_any a n c F (w1.drewN q) w1.heap.size (hfr1.below (below_drewN (Below.refl _ _) q)) hsm
    generalize fbVal F n = V at *
    go_wp2
    go_quiet ((go_at_call 7; exact Calls.quiet_of (unhide HFB _)))
    clear HFB
    have hb2 : Below w.heap.size w (w1.drewN nq) := below_drewN hb1 nq
    have x0' : (w1.drewN nq).cell? ⟨w.heap.size, 0, none⟩ = some (.slice x.nm.a x.nm.n x.nm.c) := x0
    have x1' : (w1.drewN nq).cell? ⟨w.heap.size, 1, none⟩ = some (.slice x.vl.a x.vl.n x.vl.c) := x1
    have z0' : (w1.drewN nq).frozen? ⟨w.heap.size, 0, none⟩ = false := z0
    have z1' : (w1.drewN nq).frozen? ⟨w.heap.size, 1, none⟩ = false := z1
    have hsz2 : w.heap.size < (w1.drewN nq).heap.size := hsz1
    have hfr2 : FRow (w1.drewN nq) (w1.drewN nq).heap.size a F n := hfr1.below (below_drewN (Below.refl _ _) nq)
    have hf2 : FOk (w1.drewN nq) (w1.drewN nq).heap.size F n := hf1.below (below_drewN (Below.refl _ _) nq)
    have hx2 : SlOk (w1.drewN nq) (w1.drewN nq).heap.size x.nm := hx1.below (below_drewN (Below.refl _ _) nq)
    have hy2 : SlOk (w1.drewN nq) (w1.drewN nq).heap.size x.vl := hy1.below (below_drewN (Below.refl _ _) nq)
    clear x0 x1 z0 z1 hsz1 hfr1 hf1 hx1 hy1 hb1
    generalize w1.drewN nq = w2 at *
    by_cases hsum : V + 48 + (x.nm.n : Int) + (x.vl.n : Int) + (s.size : Int) ≤ 1048576
    · go_wp2_with fail
      refine (copyFields_at a n c F w2 hfr2 hf2 hsm l4 (unhide Hnc)).mono ?_
      rintro e w3 ⟨a3, G, rfl, hfr3, hf3, hsame, b3, hat3⟩
      have hsm3 := small_same hsm hf2 hf3 hsame
      have hb3 : Below w.heap.size w w3 := hb2.trans (b3.mono hb2.size)
      have Hn3 : Hid (a3 = none → n = 0) := fun h => by
        by_cases h0 : 0 < n
        · obtain ⟨g, o, ha, _⟩ := hfr3.open h0
          rw [h] at ha; cases ha
        · omega
      have y0 : w3.cell? ⟨w.heap.size, 0, none⟩ = some (.slice x.nm.a x.nm.n x.nm.c) := (b3.cell (p := ⟨w.heap.size, 0, none⟩) hsz2).trans x0'
      have y1 : w3.cell? ⟨w.heap.size, 1, none⟩ = some (.slice x.vl.a x.vl.n x.vl.c) := (b3.cell (p := ⟨w.heap.size, 1, none⟩) hsz2).trans x1'
      have u0 : w3.frozen? ⟨w.heap.size, 0, none⟩ = false := (b3.frozen (p := ⟨w.heap.size, 0, none⟩) hsz2).trans z0'
      have u1 : w3.frozen? ⟨w.heap.size, 1, none⟩ = false := (b3.frozen (p := ⟨w.heap.size, 1, none⟩) hsz2).trans z1'
      have hx3 := (hx2.below b3).mono b3.size
      have hy3 := (hy2.below b3).mono b3.size
      have hsz3 : w.heap.size < w3.heap.size := Nat.lt_of_lt_of_le hsz2 b3.size
      have Hat : Hid (∀ g o, a3 = some ⟨g, o, none⟩ → w.heap.size < g) := fun g o h => Nat.lt_of_lt_of_le hsz2 (hat3 g o h)
      clear hfr2 hf2 hx2 hy2 x0' x1' z0' z1' hsame b3 hat3 hsm hb2 hsz2
      have HX : Hid (∀ W : World, Below w3.heap.size w3 W → W.cell? ⟨w.heap.size, 0, none⟩ = some (.slice x.nm.a x.nm.n x.nm.c) ∧ W.cell? ⟨w.heap.size, 1, none⟩ = some (.slice x.vl.a x.vl.n x.vl.c) ∧ W.frozen? ⟨w.heap.size, 0, none⟩ = false ∧ W.frozen? ⟨w.heap.size, 1, none⟩ = false) :=
        fun W hW => ⟨(hW.cell (p := ⟨w.heap.size, 0, none⟩) hsz3).trans y0, (hW.cell (p := ⟨w.heap.size, 1, none⟩) hsz3).trans y1, (hW.frozen (p := ⟨w.heap.size, 0, none⟩) hsz3).trans u0, (hW.frozen (p := ⟨w.heap.size, 1, none⟩) hsz3).trans u1⟩
      have HN : Hid (∀ W : World, Below w3.heap.size w3 W → SlOk W W.heap.size x.nm) := fun W hW => (hx3.below hW).mono hW.size
      have HV : Hid (∀ W : World, Below w3.heap.size w3 W → SlOk W W.heap.size x.vl) := fun W hW => (hy3.below hW).mono hW.size
      have b30 : Below w3.heap.size w3 w3 := Below.refl _ _
      have HL1 := hide hx3.len
      have HL2 := hide hy3.len
      clear hx3 hy3
      go_upto_region 8 with fail
      go_cut [] (fun wx => ∃ T, Boxed w a3 G n T wx)
      case first =>
        go_region_with (first
          | (go_at_call_of 8 (x.nm.a); refine (clone_bs x.nm _ (unhide HN _ b30.drew) l1).mono ?_; rintro e w4 ⟨t1, rfl, t1ok, t1l, t1n, b4⟩; have hb4 : Below w3.heap.size w3 w4 := b30.drew.trans b4; have q0 := (unhide HX w4 hb4).1; have q1 := (unhide HX w4 hb4).2.1)
          | (go_at_call_of 8 (x.vl.a); refine (clone_bs x.vl _ (unhide HV _ hb4) l2).mono ?_; rintro e w5 ⟨t2, rfl, t2ok, t2l, t2n, b5⟩; have hb5 : Below w3.heap.size w3 w5 := hb4.trans (b5.mono hb4.size); have r0 := (unhide HX w5 hb5).1; have r1 := (unhide HX w5 hb5).2.1; have r2 := (unhide HX w5 hb5).2.2.1; have r3 := (unhide HX w5 hb5).2.2.2))
        all_goals
          go_wp2_with fail
          go_meet
          exact ⟨_, Boxed.mk2 hfr3 hf3 hb3 hsz3 (unhide Hat) l1 l2 (unhide HL1) (unhide HL2) t1ok t1l t2ok t2l b5 hb5 r0 r1⟩
      case rest =>
        obtain ⟨T, hT⟩ := hcut
        clear HX HN HV b30 HL1 HL2 Hat hfr3 hf3 hb3 hsz3 y0 y1 u0 u1
        go_wp2_with fail
        refine (toWire_any a3 n n G wc hT.frow l4 (unhide Hn3)).mono ?_
        rintro e w6 ⟨a6, rfl, hfr6, b6⟩
        go_upto_region 10 with fail
        obtain ⟨cs, hcs⟩ : ∃ cs : Array Value, Hid (#[.slice none 0 0, .slice none 0 0, .int .i64 0, .slice none 0 0, .int .i64 0, .slice a6 n n, .slice none 0 0, .int .i64 0, .int .i64 0] = cs) := ⟨_, rfl⟩
        rw [unhide hcs]
        have h5 : cs[5]? = some (.slice a6 n n) := by rw [← unhide hcs]; rfl
        have hh7 : (w6.alloc (.cells cs 32)).cell? ⟨w6.heap.size, 5, none⟩ = some (.slice a6 n n) := by rw [World.cell?_alloc_at (hn := rfl)]; exact h5
        have b7 : Below w6.heap.size w6 (w6.alloc (.cells cs 32)) := (Below.refl _ _).alloc (Nat.le_refl _) _
        have hsz7 : w6.heap.size < (w6.alloc (.cells cs 32)).heap.size := by simp
        clear hcs h5
        generalize w6.alloc (.cells cs 32) = w7 at *
        have hT7 : Boxed w a3 G n T w7 := hT.later (b6.trans (b7.mono b6.size))
        have hfr7 : FRow w7 w7.heap.size a6 G n := (hfr6.below b7).mono b7.size
        have hmk := run_make_pairs 29 41 Try.underlying29 Try.info41 (n + 1) (by omega)
        simp only [Int.natCast_add, Int.natCast_one] at hmk
        clear hT hfr6 b6 b7
        have HT := hide hT7
        have HR7 := hide hfr7
        have HH7 := hide hh7
        clear hT7 hfr7 hh7
        go_wp2
        clear hmk
        go_loopw [9] (fun i wr => ∃ (k : Nat) (E : Nat → Fld), k ≤ n ∧ i = .int .i64 k ∧ CRow wr w7.heap.size E (n + 1) ∧ (∀ j, j < k → E j = G j) ∧ Below w7.heap.size w7 wr ∧ w7.heap.size < wr.heap.size) (fun i _ => n - (intOf i).toNat)
        case atStart => exact ⟨0, _, Nat.zero_le _, rfl, CRow.new w7 (n + 1) 41, fun j hj => absurd hj (by omega), (Below.refl _ _).alloc (Nat.le_refl _) _, by simp⟩
        case round =>
          obtain ⟨k, E, hk, rfl, hcr, hE, hbl, hsz⟩ := hrel
          have HE := hide hE
          clear hE
          by_cases hlt : k < n
          · obtain ⟨g, o, rfl, hg, hc⟩ := (unhide HT).frow.open (by omega)
            obtain ⟨c0, c1⟩ := hc k hlt
            have c0' : wr.cell? ⟨g, o + k * 2, none⟩ = some (.slice (G k).nm.a (G k).nm.n (G k).nm.c) := (hbl.cell (p := ⟨g, o + k * 2, none⟩) hg).trans c0
            have c1' : wr.cell? ⟨g, o + k * 2 + 1, none⟩ = some (.slice (G k).vl.a (G k).vl.n (G k).vl.c) := (hbl.cell (p := ⟨g, o + k * 2 + 1, none⟩) hg).trans c1
            obtain ⟨d0, d1, f0, f1⟩ := hcr k (by omega)
            have hlz : (k : Int) < (n : Int) := by omega
            have hlz2 : (k : Int) < (n : Int) + 1 := by omega
            clear c0 c1 hc
            go_wp2
            go_region
            go_wp2
            go_roundw
            case rel =>
              refine ⟨k + 1, fun j => if j = k then ⟨(G k).nm, (G k).vl⟩ else E j, by omega, by go_num, (hcr.store (by omega) _ _).drew, fun j hj => ?_, ((hbl.setCell (Nat.le_refl _) _).setCell (Nat.le_refl _) _).drew, by simpa [World.drew, World.setCell] using hsz⟩
              by_cases e : j = k
              · simp only [if_pos e]; rw [e]
              · simp only [if_neg e]; exact unhide HE j (by omega)
            case measure => simp [intOf]; omega
          · obtain rfl : k = n := by omega
            obtain ⟨d0, d1, f0, f1⟩ := hcr k (by omega)
            have x0 : wr.cell? ⟨w.heap.size, 0, none⟩ = some (.slice T.nm.a T.nm.n T.nm.c) := (hbl.cell (p := ⟨w.heap.size, 0, none⟩) (unhide HT).size).trans (unhide HT).box0
            have x1 : wr.cell? ⟨w.heap.size, 1, none⟩ = some (.slice T.vl.a T.vl.n T.vl.c) := (hbl.cell (p := ⟨w.heap.size, 1, none⟩) (unhide HT).size).trans (unhide HT).box1
            have hgr := Grew.mk2 (unhide HT) hcr (unhide HE) hbl hsz
            have hszW := size_two wr ⟨w7.heap.size, k * 2, none⟩ ⟨w7.heap.size, k * 2 + 1, none⟩ (.slice T.nm.a T.nm.n T.nm.c) (.slice T.vl.a T.vl.n T.vl.c)
            have HG := hide hgr
            have HZ := hide hszW
            clear hgr hszW
            go_wp2_with fail
            obtain ⟨cs, hcs⟩ : ∃ cs : Array Value, Hid (#[.slice none 0 0, .slice none 0 0, .int .i64 0, .slice none 0 0, .int .i64 0, .slice (some ⟨w7.heap.size, 0, none⟩) (k + 1) (k + 1), .slice none 0 0, .int .i64 0, .int .i64 0] = cs) := ⟨_, rfl⟩
            rw [unhide hcs]
            have h5 : cs[5]? = some (.slice (some ⟨w7.heap.size, 0, none⟩) (k + 1) (k + 1)) := by rw [← unhide hcs]; rfl
            clear x0 x1 d0 d1 f0 f1 hcr hcs hbl hsz HE
            rw [← unhide HZ] at *
            generalize ((wr.setCell ⟨w7.heap.size, k * 2, none⟩ (.slice T.nm.a T.nm.n T.nm.c)).setCell ⟨w7.heap.size, k * 2 + 1, none⟩ (.slice T.vl.a T.vl.n T.vl.c)) = w8 at *
            have hh9 : (w8.alloc (.cells cs 32)).cell? ⟨w8.heap.size, 5, none⟩ = some (.slice (some ⟨w7.heap.size, 0, none⟩) (k + 1) (k + 1)) := by rw [World.cell?_alloc_at (hn := rfl)]; exact h5
            have b9 : Below w8.heap.size w8 (w8.alloc (.cells cs 32)) := (Below.refl _ _).alloc (Nat.le_refl _) _
            have hsz9 : w8.heap.size < (w8.alloc (.cells cs 32)).heap.size := by simp
            clear h5 HZ
            generalize w8.alloc (.cells cs 32) = w9 at *
            have hg9 := (unhide HG).later b9
            have hT9 := (unhide HT).later hg9.below
            have hfr9 := ((unhide HR7).below hg9.below).mono hg9.below.size
            have hh79 : w9.cell? ⟨w6.heap.size, 5, none⟩ = some (.slice a6 k k) := (hg9.below.cell (p := ⟨w6.heap.size, 5, none⟩) hsz7).trans (unhide HH7)
            have c1 := ZZfirstValue_any w6.heap.size a6 k k G s w9 hh79 hfr9 hT9.fok (by omega) (fun i hi => (hsm3 i hi).1)
            clear HG HT HR7 HH7 hfr9 hh79
            refine c1.mono ?_
            clear c1
            rintro e w10 ⟨hres1, b10⟩
            have hg10 := hg9.later b10
            have hT10 := hT9.later b10
            have hh10 : w10.cell? ⟨w8.heap.size, 5, none⟩ = some (.slice (some ⟨w7.heap.size, 0, none⟩) (k + 1) (k + 1)) := (b10.cell (p := ⟨w8.heap.size, 5, none⟩) hsz9).trans hh9
            have hsmm : ∀ i, i < k + 1 → (more G k T i).nm.n ≤ 1048576 := fun i hi => by
              by_cases e : i = k
              · rw [e, more_at]; exact hT10.nml
              · rw [more_lt (by omega)]; exact (hsm3 i (by omega)).1
            have c2 := ZZfirstValue_any w8.heap.size (some ⟨w7.heap.size, 0, none⟩) (k + 1) (k + 1) (more G k T) s w10 hh10 hg10.frow hg10.fok (by omega) hsmm
            have hpl : ∀ i, i < k → eqUnder lowr (more G k T i).nm.l (strBytes s) = eqUnder lowr (G i).nm.l (strBytes s) := fun i hi => by rw [more_lt hi]
            have hpn : eqUnder lowr (more G k T k).nm.l (strBytes s) = eqUnder lowr T.nm.l (strBytes s) := by rw [more_at]
            have HC2 := hide c2
            have HPL := hide hpl
            have HPN := hide hpn
            clear c2 hpl hpn hsmm hg9 hT9 hh9 hh10 b9 b10 hsz9
            have HSM := hide hsm3
            have HT10 := hide hT10
            have HG10 := hide hg10
            clear hsm3 hT10 hg10
            rcases hres1 with ⟨i, hi, hp, hno, rfl⟩ | ⟨hno, rfl⟩
            · have HP := hide hp
              have HNO := hide hno
              clear hp hno
              go_wp2_with fail
              refine (unhide HC2).mono ?_
              clear HC2
              rintro e w11 ⟨hres2, b11⟩
              dsimp only at hres2
              obtain rfl : e = .returned (.tuple #[.slice (G i).vl.a (G i).vl.n (G i).vl.c, .bool true]) := by
                rcases hres2 with ⟨j, hj, hpj, hnoj, rfl⟩ | ⟨hall, rfl⟩
                · obtain rfl : i = j := by
                    by_cases h1 : i < j
                    · have := hnoj i h1; rw [unhide HPL i hi, unhide HP] at this; cases this
                    · by_cases h2 : j < i
                      · have := unhide HNO j h2; rw [← unhide HPL j (by omega), hpj] at this; cases this
                      · omega
                  rw [more_lt hi]
                · have := hall i (by omega); rw [unhide HPL i hi, unhide HP] at this; cases this
              clear hres2
              have hT11 := (unhide HT10).later b11
              have hsv := (hT11.fok i hi).2
              have hsl := (unhide HSM i hi).2
              have c3 := sameValue_yes (G i).vl.a (G i).vl.a (G i).vl.n (G i).vl.n (G i).vl.c (G i).vl.c (G i).vl.l w11 w11.heap.size w11.heap.size hsv.row hsv.row hsv.len hsv.len (by omega) rfl
              have HB := hide hT11.below
              have HC3 := hide c3
              clear c3 hT11 hsv b11
              go_wp2_with fail
              refine (unhide HC3).mono ?_
              rintro e w' ⟨rfl, q, rfl⟩
              go_wp2
              go_ret
              exact ⟨rfl, below_drewN (unhide HB) q⟩
            · have HNO := hide hno
              clear hno
              go_wp2_with fail
              refine (unhide HC2).mono ?_
              clear HC2
              rintro e w11 ⟨hres2, b11⟩
              dsimp only at hres2
              have hT11 := (unhide HT10).later b11
              have x0 := hT11.box0
              have x1 := hT11.box1
              have HB := hide hT11.below
              have l7 := hT11.nml
              have l8 := hT11.vll
              have c3 := foldEqual_any T.nm.a T.nm.n T.nm.c T.nm.l s w11 w11.heap.size hT11.nm.row hT11.nm.len hT11.nm.bytes (by omega)
              rw [← fold_agree] at c3
              have HV := hide hT11.vl
              clear hT11 b11 HT10 HG10
              cases hb : eqUnder lowr T.nm.l (strBytes s) with
              | true =>
                rw [hb] at c3
                have HC3 := hide c3
                clear c3
                obtain rfl : e = .returned (.tuple #[.slice T.vl.a T.vl.n T.vl.c, .bool true]) := by
                  rcases hres2 with ⟨j, hj, hpj, hnoj, rfl⟩ | ⟨hall, rfl⟩
                  · obtain rfl : j = k := by
                      by_cases h1 : j < k
                      · have := unhide HNO j h1; rw [← unhide HPL j h1, hpj] at this; cases this
                      · omega
                    rw [more_at]
                  · have := hall k (by omega); rw [unhide HPN, hb] at this; cases this
                clear hres2 hb
                go_wp2_with fail
                refine (unhide HC3).mono ?_
                rintro e w' ⟨rfl, q, rfl⟩
                have hrow : Row (w11.drewN q) w11.heap.size T.vl.a T.vl.l := (unhide HV).row.below (below_drewN (Below.refl _ _) q)
                have c4 := sameValue_yes T.vl.a T.vl.a T.vl.n T.vl.n T.vl.c T.vl.c T.vl.l (w11.drewN q) w11.heap.size w11.heap.size hrow hrow (unhide HV).len (unhide HV).len (by omega) rfl
                have HC4 := hide c4
                clear c4 hrow HC3
                go_wp2_with fail
                refine (unhide HC4).mono ?_
                rintro e w' ⟨rfl, q2, rfl⟩
                go_wp2
                go_ret
                exact ⟨rfl, below_drewN (unhide HB) _⟩
              | false =>
                rw [hb] at c3
                have HC3 := hide c3
                clear c3
                obtain rfl : e = .returned (.tuple #[.slice none 0 0, .bool false]) := by
                  rcases hres2 with ⟨j, hj, hpj, hnoj, rfl⟩ | ⟨hall, rfl⟩
                  · by_cases h1 : j < k
                    · have := unhide HNO j h1; rw [← unhide HPL j h1, hpj] at this; cases this
                    · obtain rfl : j = k := by omega
                      rw [unhide HPN, hb] at hpj; cases hpj
                  · rfl
                clear hres2 hb
                have hnil := fun w => Lib.run_eql_slice_nil (P := Try.prog) w 22 5 none 0 0 0 0 Try.underlying22
                go_wp2_with fail
                refine (unhide HC3).mono ?_
                rintro e w' ⟨rfl, q, rfl⟩
                go_wp2
                go_ret
                exact ⟨rfl, below_drewN (unhide HB) q⟩
    · go_wp2
      go_ret
      exact ⟨rfl, hb2⟩
end Go.Proofs.Qxb6602294a
