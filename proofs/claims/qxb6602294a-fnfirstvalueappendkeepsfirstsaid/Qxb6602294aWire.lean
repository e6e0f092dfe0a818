/- Rows of fields that the call makes; the walk of toWire. -/
import Derived.Test.Qxb6602294aSums
namespace Go.Proofs.Qxb6602294a
open Go.RowKit

theorem Try.info38 : (Try.prog.info? 38).map (fun i => (i.zero, i.size, i.bytes)) = some (some (.agg #[.slice none 0 0, .slice none 0 0]), 2, 48) := by kernel_rfl
theorem Try.info41 : (Try.prog.info? 41).map (fun i => (i.zero, i.size, i.bytes)) = some (some (.agg #[.slice none 0 0, .slice none 0 0]), 2, 48) := by kernel_rfl

/-- The cells of a new row of n fields. -/
def pairs (n : Nat) : Array Value := madeCells #[.slice none 0 0, .slice none 0 0] (n * 2)

theorem pairs_at (n i : Nat) (h : i < n * 2) : (pairs n)[i]? = some (.slice none 0 0) := by
  have h2 : i % 2 = 0 ∨ i % 2 = 1 := by omega
  unfold pairs madeCells
  rw [Array.getElem?_map, Array.getElem?_range, if_pos h]
  rcases h2 with h2 | h2 <;> simp [h2]

theorem run_make_pairs (t e : TypeId) (ht : Try.prog.underlying t = some (.slice e)) (hinfo : (Try.prog.info? e).map (fun i => (i.zero, i.size, i.bytes)) = some (some (.agg #[.slice none 0 0, .slice none 0 0]), 2, 48))
    (n : Nat) (hn : n ≤ 2097152) (w : World) :
    (Instr.makeSlice t (.int .i64 (n : Int)) (.int .i64 (n : Int))).run Try.prog w = .ok (.slice (some ⟨w.heap.size, 0, none⟩) n n) (w.alloc (.cells (pairs n) e)) := by
  obtain ⟨i, hi, hzz⟩ := Option.map_eq_some_iff.1 hinfo
  simp only [Prod.mk.injEq] at hzz
  obtain ⟨hz, hs, hb⟩ := hzz
  have hr := run_make (P := Try.prog) w t e i _ ht hi hz .i64 .i64 n n (by omega) (Int.le_refl _) (by rw [hb]; omega) (by omega)
  rw [hs] at hr
  simpa [Value.cells, pairs] using hr

/-- The fields 'G 0' .. lie in block 'cb' from its head on, and may be written. -/
def CRow (w : World) (cb : Nat) (G : Nat → Fld) (n : Nat) : Prop :=
  ∀ j, j < n → w.cell? ⟨cb, j * 2, none⟩ = some (.slice (G j).nm.a (G j).nm.n (G j).nm.c) ∧ w.cell? ⟨cb, j * 2 + 1, none⟩ = some (.slice (G j).vl.a (G j).vl.n (G j).vl.c) ∧
    w.frozen? ⟨cb, j * 2, none⟩ = false ∧ w.frozen? ⟨cb, j * 2 + 1, none⟩ = false

theorem CRow.below {w w' : World} {cb B : Nat} {G : Nat → Fld} {n : Nat} (h : CRow w cb G n) (hb : Below B w w') (hc : cb < B) : CRow w' cb G n := by
  intro j hj
  obtain ⟨h0, h1, f0, f1⟩ := h j hj
  exact ⟨(hb.cell (p := ⟨cb, j * 2, none⟩) hc).trans h0, (hb.cell (p := ⟨cb, j * 2 + 1, none⟩) hc).trans h1, (hb.frozen (p := ⟨cb, j * 2, none⟩) hc).trans f0, (hb.frozen (p := ⟨cb, j * 2 + 1, none⟩) hc).trans f1⟩

def nilB : Bs := ⟨none, 0, 0, []⟩

theorem CRow.new (w : World) (n e : Nat) : CRow (w.alloc (.cells (pairs n) e)) w.heap.size (fun _ => ⟨nilB, nilB⟩) n := by
  intro j hj
  refine ⟨?_, ?_, ?_, ?_⟩
  · rw [World.cell?_alloc_at (hn := rfl), pairs_at _ _ (by omega)]; rfl
  · rw [World.cell?_alloc_at (hn := rfl), pairs_at _ _ (by omega)]; rfl
  · rw [World.frozen?_alloc_at (hn := rfl)]
  · rw [World.frozen?_alloc_at (hn := rfl)]

/-- One field is stored. -/
theorem CRow.store {w : World} {cb : Nat} {G : Nat → Fld} {n k : Nat} (h : CRow w cb G n) (hk : k < n) (x y : Bs) :
    CRow ((w.setCell ⟨cb, k * 2, none⟩ (.slice x.a x.n x.c)).setCell ⟨cb, k * 2 + 1, none⟩ (.slice y.a y.n y.c)) cb (fun j => if j = k then ⟨x, y⟩ else G j) n := by
  intro j hj
  obtain ⟨h0, h1, f0, f1⟩ := h j hj
  simp only [World.frozen?_setCell]
  by_cases e : j = k
  · subst e
    simp only [if_true]
    refine ⟨?_, World.cell?_setCell_same _ _ _ (u := .slice (G j).vl.a (G j).vl.n (G j).vl.c) ?_, f0, f1⟩
    · rw [World.cell?_setCell_other (h := by simp)]
      exact World.cell?_setCell_same _ _ _ h0
    · rw [World.cell?_setCell_other (h := by simp)]
      exact h1
  · simp only [if_neg e]
    refine ⟨?_, ?_, f0, f1⟩
    · rw [World.cell?_setCell_other (h := by simp <;> omega), World.cell?_setCell_other (h := by simp <;> omega)]
      exact h0
    · rw [World.cell?_setCell_other (h := by simp <;> omega), World.cell?_setCell_other (h := by simp <;> omega)]
      exact h1

theorem CRow.drew {w : World} {cb : Nat} {G : Nat → Fld} {n : Nat} (h : CRow w cb G n) : CRow w.drew cb G n := fun j hj => h j hj

theorem CRow.frow {w : World} {cb B : Nat} {G : Nat → Fld} {n : Nat} (h : CRow w cb G n) (hB : cb < B) : FRow w B (some ⟨cb, 0, none⟩) G n := by
  intro i hi
  obtain ⟨h0, h1, _, _⟩ := h i hi
  exact ⟨cb, 0, rfl, hB, by rw [Nat.zero_add]; exact h0, by rw [Nat.zero_add]; exact h1⟩

theorem FRow.congr {w : World} {B : Nat} {a : Option Addr} {F G : Nat → Fld} {n : Nat} (h : FRow w B a G n) (he : ∀ j, j < n → G j = F j) : FRow w B a F n := by
  intro i hi
  rw [← he i hi]
  exact h i hi

set_option maxHeartbeats 1000000 in
theorem toWire_some (g o n c : Nat) (F : Nat → Fld) (w : World) (hr : FRow w w.heap.size (some ⟨g, o, none⟩) F n) (hn : n ≤ 1048576) (h0 : 0 < n) :
    Calls Try.prog 10 #[.slice (some ⟨g, o, none⟩) n c] w fun e w' => e = .returned (.slice (some ⟨w.heap.size, 0, none⟩) n n) ∧ FRow w' w'.heap.size (some ⟨w.heap.size, 0, none⟩) F n ∧ Below w.heap.size w w' := by
  have hmk := run_make_pairs 29 41 Try.underlying29 Try.info41 n (by omega)
  have hnil := fun w => Lib.run_eql_slice_nil (P := Try.prog) w 23 38 (some ⟨g, o, none⟩) n c 0 0 Try.underlying23
  obtain ⟨g', o', hgo, hg, hcells⟩ := hr.open h0
  simp only [Option.some.injEq, Addr.mk.injEq] at hgo
  obtain ⟨rfl, rfl, _⟩ := hgo
  have HC := hide hcells
  clear hcells hr
  go_enter Try.func10, Try.ntmps10
  go_wp2
  clear hmk hnil
  go_loopw [4] (fun i wr => ∃ (k : Nat) (G : Nat → Fld), k ≤ n ∧ i = .int .i64 k ∧ CRow wr w.heap.size G n ∧ (∀ j, j < k → G j = F j) ∧ Below w.heap.size w wr ∧ w.heap.size < wr.heap.size) (fun i _ => n - (intOf i).toNat)
  case atStart => exact ⟨0, _, Nat.zero_le _, rfl, CRow.new w n 41, fun j hj => absurd hj (by omega), (Below.refl _ _).alloc (Nat.le_refl _) _, by simp⟩
  case round =>
    obtain ⟨k, G, hk, rfl, hcr, hG, hbl, hsz⟩ := hrel
    have HG := hide hG
    clear hG
    by_cases hlt : k < n
    · obtain ⟨c0, c1⟩ := unhide HC k hlt
      have c0' : wr.cell? ⟨g, o + k * 2, none⟩ = some (.slice (F k).nm.a (F k).nm.n (F k).nm.c) := (hbl.cell (p := ⟨g, o + k * 2, none⟩) hg).trans c0
      have c1' : wr.cell? ⟨g, o + k * 2 + 1, none⟩ = some (.slice (F k).vl.a (F k).vl.n (F k).vl.c) := (hbl.cell (p := ⟨g, o + k * 2 + 1, none⟩) hg).trans c1
      obtain ⟨d0, d1, f0, f1⟩ := hcr k hlt
      have hlz : (k : Int) < (n : Int) := by omega
      clear c0 c1
      go_wp2
      go_region
      go_wp2
      go_roundw
      case rel =>
        refine ⟨k + 1, fun j => if j = k then ⟨(F k).nm, (F k).vl⟩ else G j, by omega, by go_num, (hcr.store hlt _ _).drew, fun j hj => ?_, ((hbl.setCell (Nat.le_refl _) _).setCell (Nat.le_refl _) _).drew, by simpa [World.drew, World.setCell] using hsz⟩
        by_cases e : j = k
        · simp only [if_pos e]; rw [e]
        · simp only [if_neg e]; exact unhide HG j (by omega)
      case measure => simp [intOf]; omega
    · go_wp2
      go_ret
      exact ⟨rfl, (hcr.frow hsz).congr (fun j hj => unhide HG j (by omega)), hbl⟩

theorem toWire_empty (x : Addr) (c : Nat) (w : World) :
    Calls Try.prog 10 #[.slice (some x) 0 c] w fun e w' => e = .returned (.slice (some ⟨w.heap.size, 0, none⟩) 0 0) ∧ Below w.heap.size w w' := by
  have hmk := run_make_pairs 29 41 Try.underlying29 Try.info41 0 (by omega)
  simp only [Int.natCast_zero] at hmk
  have hnil := fun w => Lib.run_eql_slice_nil (P := Try.prog) w 23 38 (some x) 0 c 0 0 Try.underlying23
  go_enter Try.func10, Try.ntmps10
  go_wp2
  clear hmk hnil
  go_loopw [4] (fun i wr => i = .int .i64 0 ∧ Below w.heap.size w wr) (fun i _ => 0)
  case atStart => exact ⟨rfl, (Below.refl _ _).alloc (Nat.le_refl _) _⟩
  case round =>
    obtain ⟨rfl, hbl⟩ := hrel
    go_wp2
    go_ret
    exact ⟨rfl, hbl⟩

theorem toWire_none (w : World) :
    Calls Try.prog 10 #[.slice none 0 0] w fun e w' => e = .returned (.slice none 0 0) ∧ w' = w := by
  have hnil := fun w => Lib.run_eql_slice_nil (P := Try.prog) w 23 38 none 0 0 0 0 Try.underlying23
  go_enter Try.func10, Try.ntmps10
  go_wp2
  go_ret
  exact ⟨rfl, rfl⟩

theorem FRow.zero (w : World) (B : Nat) (a : Option Addr) (F : Nat → Fld) : FRow w B a F 0 := fun i hi => absurd hi (by omega)

theorem toWire_any (a : Option Addr) (n c : Nat) (F : Nat → Fld) (w : World) (hr : FRow w w.heap.size a F n) (hn : n ≤ 1048576) (hnc : a = none → c = 0) :
    Calls Try.prog 10 #[.slice a n c] w fun e w' => ∃ a', e = .returned (.slice a' n n) ∧ FRow w' w'.heap.size a' F n ∧ Below w.heap.size w w' := by
  by_cases h0 : 0 < n
  · obtain ⟨g, o, rfl, _⟩ := hr.open h0
    refine (toWire_some g o n c F w hr hn h0).mono ?_
    rintro e w' ⟨rfl, h1, h2⟩
    exact ⟨_, rfl, h1, h2⟩
  · obtain rfl : n = 0 := by omega
    cases a with
    | none =>
      obtain rfl := hnc rfl
      refine (toWire_none w).mono ?_
      rintro e w' ⟨rfl, rfl⟩
      exact ⟨_, rfl, FRow.zero _ _ _ _, Below.refl _ _⟩
    | some x =>
      refine (toWire_empty x c w).mono ?_
      rintro e w' ⟨rfl, h2⟩
      exact ⟨_, rfl, FRow.zero _ _ _ _, h2⟩
end Go.Proofs.Qxb6602294a
