/- The walk of copyFields. -/
import Derived.Test.Qxb6602294aWire
import Derived.Deep.RegionHeld3
import Derived.Deep.RegionWith
namespace Go.Proofs.Qxb6602294a
open Go.RowKit

/-- The copy of a slice of bytes: the same bytes, nil where it was nil. -/
theorem clone_bs (s : Bs) (w : World) (h : SlOk w w.heap.size s) (hmax : s.n ≤ 1048576) :
    Calls Try.prog 8 #[.slice s.a s.n s.c] w fun e w' => ∃ t : Bs, e = .returned (.slice t.a t.n t.c) ∧ SlOk w' w'.heap.size t ∧ t.l = s.l ∧ t.a.isNone = s.a.isNone ∧ Below w.heap.size w w' := by
  obtain ⟨a, n, c, l⟩ := s
  obtain ⟨hr, hl, hb, hn⟩ := h
  simp only at *
  have fin : a.isNone = false → ∀ (e : Ending) (w' : World), e = .returned (.slice (some ⟨w.heap.size, 0, none⟩) n n) ∧ w' = w.alloc (.cells (cellsTo l n) 5) →
      ∃ t : Bs, e = .returned (.slice t.a t.n t.c) ∧ SlOk w' w'.heap.size t ∧ t.l = l ∧ t.a.isNone = a.isNone ∧ Below w.heap.size w w' := by
    rintro ha e w' ⟨rfl, rfl⟩
    exact ⟨⟨some ⟨w.heap.size, 0, none⟩, n, n, l⟩, rfl, ⟨row_new w l n hl _ (by simp), hl, hb, fun h => by cases h⟩, rfl, by rw [ha]; rfl, (Below.refl _ _).alloc (Nat.le_refl _) _⟩
  by_cases h0 : 0 < l.length
  · obtain ⟨g, o, rfl, hg, hc⟩ := hr.open h0
    exact (clone_some g o n c l w hl hmax hc hg).mono (fin rfl)
  · obtain rfl : l = [] := List.eq_nil_of_length_eq_zero (by omega)
    obtain rfl : n = 0 := by simpa using hl.symm
    cases a with
    | none =>
      obtain rfl := hn rfl
      refine (clone_none w).mono ?_
      rintro e w' ⟨rfl, rfl⟩
      exact ⟨⟨none, 0, 0, []⟩, rfl, ⟨Row.nil _ _ _, rfl, hb, fun _ => rfl⟩, rfl, rfl, Below.refl _ _⟩
    | some x => exact (clone_empty x c w).mono (fin rfl)

/-- Two fields of the same content. -/
def SameB (s t : Bs) : Prop := t.l = s.l ∧ t.a.isNone = s.a.isNone

theorem Row.store {w : World} {B : Nat} {a : Option Addr} {l : List Int} (h : Row w B a l) {p : Addr} {b : Option Addr} {m c : Nat} (hp : w.cell? p = some (.slice b m c)) (v : Value) : Row (w.setCell p v) B a l := by
  intro i hi
  obtain ⟨g, o, ha, hg, hc⟩ := h i hi
  refine ⟨g, o, ha, hg, ?_⟩
  rw [World.cell?_setCell_other (h := ?_)]
  · exact hc
  · rintro rfl
    rw [hp] at hc
    cases hc

theorem SlOk.store {w : World} {B : Nat} {s : Bs} (h : SlOk w B s) {p : Addr} {b : Option Addr} {m c : Nat} (hp : w.cell? p = some (.slice b m c)) (v : Value) : SlOk (w.setCell p v) B s := ⟨h.row.store hp v, h.len, h.bytes, h.nil⟩

theorem SlOk.drew {w : World} {B : Nat} {s : Bs} (h : SlOk w B s) : SlOk w.drew B s := ⟨fun i hi => h.row i hi, h.len, h.bytes, h.nil⟩

theorem cell_two {w : World} {cb g i j x : Nat} {u v : Value} (h : g ≠ cb) : ((w.setCell ⟨cb, i, none⟩ u).setCell ⟨cb, j, none⟩ v).cell? ⟨g, x, none⟩ = w.cell? ⟨g, x, none⟩ := by
  rw [World.cell?_setCell_other (h := by simp <;> omega), World.cell?_setCell_other (h := by simp <;> omega)]

theorem size_two (w : World) (p q : Addr) (u v : Value) : ((w.setCell p u).setCell q v).heap.size = w.heap.size := by simp [World.setCell]

/-- Behind the store of a field into a row of fields a slice of bytes reads as it did. -/
theorem SlOk.two {w : World} {s : Bs} {cb k : Nat} {b0 b1 : Option Addr} {n0 c0 n1 c1 : Nat} (h : SlOk w w.heap.size s) (h0 : w.cell? ⟨cb, k * 2, none⟩ = some (.slice b0 n0 c0)) (h1 : w.cell? ⟨cb, k * 2 + 1, none⟩ = some (.slice b1 n1 c1)) (u v : Value) :
    SlOk ((w.setCell ⟨cb, k * 2, none⟩ u).setCell ⟨cb, k * 2 + 1, none⟩ v) ((w.setCell ⟨cb, k * 2, none⟩ u).setCell ⟨cb, k * 2 + 1, none⟩ v).heap.size s := by
  rw [size_two]
  refine (h.store h0 u).store (b := b1) (m := n1) (c := c1) ?_ v
  rw [World.cell?_setCell_other (h := by simp)]
  exact h1

set_option maxHeartbeats 2000000 in
theorem copyFields_some (g o n c : Nat) (F : Nat → Fld) (w : World) (hr : FRow w w.heap.size (some ⟨g, o, none⟩) F n) (hf : FOk w w.heap.size F n) (hs : Small F n) (hn : n ≤ 1048576) (h0 : 0 < n) :
    Calls Try.prog 9 #[.slice (some ⟨g, o, none⟩) n c] w fun e w' => ∃ G, e = .returned (.slice (some ⟨w.heap.size, 0, none⟩) n n) ∧ FRow w' w'.heap.size (some ⟨w.heap.size, 0, none⟩) G n ∧ FOk w' w'.heap.size G n ∧
      (∀ j, j < n → SameB (F j).nm (G j).nm ∧ SameB (F j).vl (G j).vl) ∧ Below w.heap.size w w' := by
  have hmk := run_make_pairs 23 38 Try.underlying23 Try.info38 n (by omega)
  have hnil := fun w => Lib.run_eql_slice_nil (P := Try.prog) w 23 38 (some ⟨g, o, none⟩) n c 0 0 Try.underlying23
  obtain ⟨g', o', hgo, hg, hcells⟩ := hr.open h0
  simp only [Option.some.injEq, Addr.mk.injEq] at hgo
  obtain ⟨rfl, rfl, _⟩ := hgo
  have HC := hide hcells
  have HF := hide hf
  have HS := hide hs
  clear hcells hr hf hs
  go_enter Try.func9, Try.ntmps9
  go_wp2
  clear hmk hnil
  go_loopw [4] (fun i wr => ∃ (k : Nat) (G : Nat → Fld), k ≤ n ∧ i = .int .i64 k ∧ CRow wr w.heap.size G n ∧ (∀ j, j < k → SlOk wr wr.heap.size (G j).nm ∧ SlOk wr wr.heap.size (G j).vl ∧ SameB (F j).nm (G j).nm ∧ SameB (F j).vl (G j).vl) ∧ Below w.heap.size w wr ∧ w.heap.size < wr.heap.size) (fun i _ => n - (intOf i).toNat)
  case atStart => exact ⟨0, _, Nat.zero_le _, rfl, CRow.new w n 38, fun j hj => absurd hj (by omega), (Below.refl _ _).alloc (Nat.le_refl _) _, by simp⟩
  case round =>
    obtain ⟨k, G, hk, rfl, hcr, hG, hbl, hsz⟩ := hrel
    have HG := hide hG
    clear hG
    by_cases hlt : k < n
    · obtain ⟨c0, c1⟩ := unhide HC k hlt
      obtain ⟨sn, sv⟩ := unhide HF k hlt
      obtain ⟨mn, mv⟩ := unhide HS k hlt
      have hcell : ∀ W : World, Below w.heap.size w W → W.cell? ⟨g, o + k * 2, none⟩ = some (.slice (F k).nm.a (F k).nm.n (F k).nm.c) ∧ W.cell? ⟨g, o + k * 2 + 1, none⟩ = some (.slice (F k).vl.a (F k).vl.n (F k).vl.c) :=
        fun W hW => ⟨(hW.cell (p := ⟨g, o + k * 2, none⟩) hg).trans c0, (hW.cell (p := ⟨g, o + k * 2 + 1, none⟩) hg).trans c1⟩
      have HN : Hid (∀ W : World, Below w.heap.size w W → SlOk W W.heap.size (F k).nm) := fun W hW => (sn.below hW).mono hW.size
      have HV : Hid (∀ W : World, Below w.heap.size w W → SlOk W W.heap.size (F k).vl) := fun W hW => (sv.below hW).mono hW.size
      have HX := hide hcell
      obtain ⟨e0, e1⟩ := hcell wr hbl
      obtain ⟨d0, d1, f0, f1⟩ := hcr k hlt
      have hlz : (k : Int) < (n : Int) := by omega
      clear c0 c1 hcell sn sv
      go_wp2
      go_region_held3 (fun w' => w'.cell? ⟨g, o + k * 2, none⟩ = some (.slice (F k).nm.a (F k).nm.n (F k).nm.c) ∧ w'.cell? ⟨g, o + k * 2 + 1, none⟩ = some (.slice (F k).vl.a (F k).vl.n (F k).vl.c)) (first | exact ⟨(cell_two (Nat.ne_of_lt hg)).trans r0, (cell_two (Nat.ne_of_lt hg)).trans r1⟩ | exact ⟨r0, r1⟩ | exact ⟨q0, q1⟩ | exact ⟨e0, e1⟩)
        (first
          | (go_at_call_of 8 ((F k).nm.a); refine (clone_bs (F k).nm _ (unhide HN _ hbl.drew) mn).mono ?_; rintro e w1 ⟨t1, rfl, t1ok, t1l, t1n, hb1⟩; have hb1' : Below w.heap.size w w1 := hbl.drew.trans (hb1.mono hbl.size); have q0 := (unhide HX w1 hb1').1; have q1 := (unhide HX w1 hb1').2)
          | (go_at_call_of 8 ((F k).vl.a); refine (clone_bs (F k).vl _ (unhide HV _ hb1') mv).mono ?_; rintro e w2 ⟨t2, rfl, t2ok, t2l, t2n, hb2⟩; have hb2' : Below w.heap.size w w2 := hb1'.trans (hb2.mono hb1'.size); have r0 := (unhide HX w2 hb2').1; have r1 := (unhide HX w2 hb2').2; have hcr2 := (hcr.drew.below hb1 hsz).below hb2 (Nat.lt_of_lt_of_le hsz hb1.size); have s0 := (hcr2 k hlt).1; have s1 := (hcr2 k hlt).2.1; have s2 := (hcr2 k hlt).2.2.1; have s3 := (hcr2 k hlt).2.2.2))
      go_wp2
      go_roundw
      case rel =>
        refine ⟨k + 1, fun j => if j = k then ⟨t1, t2⟩ else G j, by omega, by go_num, hcr2.store hlt _ _, fun j hj => ?_, (hb2'.setCell (Nat.le_refl _) _).setCell (Nat.le_refl _) _, by rw [size_two]; exact Nat.lt_of_lt_of_le hsz (Nat.le_trans hb1.size hb2.size)⟩
        by_cases e : j = k
        · simp only [if_pos e]
          rw [e]
          exact ⟨((t1ok.below hb2).mono hb2.size).two s0 s1 _ _, t2ok.two s0 s1 _ _, ⟨t1l, t1n⟩, ⟨t2l, t2n⟩⟩
        · simp only [if_neg e]
          obtain ⟨p0, p1, p2, p3⟩ := unhide HG j (by omega)
          have up : ∀ s, SlOk wr wr.heap.size s → SlOk w2 w2.heap.size s := fun s h => (((h.drew.below hb1).mono hb1.size).below hb2).mono hb2.size
          exact ⟨(up _ p0).two s0 s1 _ _, (up _ p1).two s0 s1 _ _, p2, p3⟩
      case measure => simp [intOf]; omega
    · go_wp2
      go_ret
      have hG := unhide HG
      exact ⟨G, rfl, hcr.frow hsz, fun j hj => ⟨(hG j (by omega)).1, (hG j (by omega)).2.1⟩, fun j hj => (hG j (by omega)).2.2, hbl⟩

theorem copyFields_empty (x : Addr) (c : Nat) (w : World) :
    Calls Try.prog 9 #[.slice (some x) 0 c] w fun e w' => e = .returned (.slice (some ⟨w.heap.size, 0, none⟩) 0 0) ∧ Below w.heap.size w w' := by
  have hmk := run_make_pairs 23 38 Try.underlying23 Try.info38 0 (by omega)
  simp only [Int.natCast_zero] at hmk
  have hnil := fun w => Lib.run_eql_slice_nil (P := Try.prog) w 23 38 (some x) 0 c 0 0 Try.underlying23
  go_enter Try.func9, Try.ntmps9
  go_wp2
  clear hmk hnil
  go_loopw [4] (fun i wr => i = .int .i64 0 ∧ Below w.heap.size w wr) (fun i _ => 0)
  case atStart => exact ⟨rfl, (Below.refl _ _).alloc (Nat.le_refl _) _⟩
  case round =>
    obtain ⟨rfl, hbl⟩ := hrel
    go_wp2
    go_ret
    exact ⟨rfl, hbl⟩

theorem copyFields_none (w : World) :
    Calls Try.prog 9 #[.slice none 0 0] w fun e w' => e = .returned (.slice none 0 0) ∧ w' = w := by
  have hnil := fun w => Lib.run_eql_slice_nil (P := Try.prog) w 23 38 none 0 0 0 0 Try.underlying23
  go_enter Try.func9, Try.ntmps9
  go_wp2
  go_ret
  exact ⟨rfl, rfl⟩

theorem copyFields_any (a : Option Addr) (n c : Nat) (F : Nat → Fld) (w : World) (hr : FRow w w.heap.size a F n) (hf : FOk w w.heap.size F n) (hs : Small F n) (hn : n ≤ 1048576) (hnc : a = none → c = 0) :
    Calls Try.prog 9 #[.slice a n c] w fun e w' => ∃ a' G, e = .returned (.slice a' n n) ∧ FRow w' w'.heap.size a' G n ∧ FOk w' w'.heap.size G n ∧
      (∀ j, j < n → SameB (F j).nm (G j).nm ∧ SameB (F j).vl (G j).vl) ∧ Below w.heap.size w w' := by
  by_cases h0 : 0 < n
  · obtain ⟨g, o, rfl, _⟩ := hr.open h0
    refine (copyFields_some g o n c F w hr hf hs hn h0).mono ?_
    rintro e w' ⟨G, rfl, h1, h2, h3, h4⟩
    exact ⟨_, G, rfl, h1, h2, h3, h4⟩
  · obtain rfl : n = 0 := by omega
    cases a with
    | none =>
      obtain rfl := hnc rfl
      refine (copyFields_none w).mono ?_
      rintro e w' ⟨rfl, rfl⟩
      exact ⟨_, F, rfl, FRow.zero _ _ _ _, fun i hi => absurd hi (by omega), fun i hi => absurd hi (by omega), Below.refl _ _⟩
    | some x =>
      refine (copyFields_empty x c w).mono ?_
      rintro e w' ⟨rfl, h2⟩
      exact ⟨_, F, rfl, FRow.zero _ _ _ _, fun i hi => absurd hi (by omega), fun i hi => absurd hi (by omega), h2⟩
end Go.Proofs.Qxb6602294a
