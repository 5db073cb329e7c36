/- The reference: New; the same numbers. -/
import Derived.Test.YthplmbgdcfmkgaaGreatDoorA27
import Derived.Deep.RegionHeld3
import Derived.Deep.AppendLies
import Derived.Deep.RegionLaw
set_option linter.unusedVariables false
set_option linter.unusedSimpArgs false
/- The reference: New, the walk. -/
namespace Go.Proofs.YthplmbgdcfmkgaaGreatDoor
open Go.RowKit Go.Proofs Go.Sort

def NewPost (c nz : Nat) (xs : List Nat) (w : World) (e : Ending) (w' : World) : Prop :=
  Below w.heap.size w w' ∧ ∃ ao cap, e = .returned (.agg #[.int .i64 2, .int .i64 (c : Int), .slice ao nz cap, .slice none 0 0]) ∧ w'.ownsRow w.heap.size 75 1 (.slice ao nz cap) nz (flts xs)
set_option maxHeartbeats 4000000 in
set_option maxRecDepth 100000 in
theorem new_ok (c : Nat) (hc : c < 4) (ao : Option Addr) (nz cap B : Nat) (xs : List Nat) (w : World) (hl : xs.length = nz) (hm : nz % wid c = 0) (hn : nz ≤ 5000000) (hrow : w.ownsRow B 75 1 (.slice ao nz cap) nz (flts xs)) (hB : B ≤ w.heap.size) :
    Calls Tryz.prog 18 #[.agg #[.int .i64 2, .int .i64 (c : Int), .slice ao nz cap, .slice none 0 0]] w (NewPost c nz xs w) := by
  have hbits : bits .and .i64 (c : Int) 3 = (c : Int) := by
    have h5 : c = 0 ∨ c = 1 ∨ c = 2 ∨ c = 3 := by omega
    rcases h5 with rfl | rfl | rfl | rfl <;> decide
  have cW := fun W : World => width_ok c hc W
  obtain ⟨N, hNe⟩ : ∃ N, N = wid c := ⟨_, rfl⟩
  have hN : 0 < N := by rw [hNe]; unfold wid; split <;> (try split) <;> omega
  have hN4 : N ≤ 4 := by rw [hNe]; unfold wid; split <;> (try split) <;> omega
  rw [← hNe] at cW hm
  obtain ⟨k, hk⟩ : ∃ k, nz = k * N := ⟨nz / N, by have := Nat.div_add_mod nz N; rw [hm, Nat.add_zero, Nat.mul_comm] at this; exact this.symm⟩
  have hquo : Int.tdiv (nz : Int) (N : Int) = (k : Int) := by
    rw [hk, Int.tdiv_eq_ediv_of_nonneg (Int.natCast_nonneg _), ← Int.natCast_ediv, Nat.mul_div_cancel _ hN]
  have hmul : (k : Int) * (N : Int) = (nz : Int) := by rw [hk, Int.natCast_mul]
  have CW := Lib.hid cW
  have HR := Lib.hid hrow
  have HL := Lib.hid hl
  have HB := Lib.hid hB
  obtain ⟨b1, hb1⟩ : ∃ b, b = w.heap.size := ⟨_, rfl⟩
  obtain ⟨b2, hb2⟩ : ∃ b, b = w.heap.size + 1 := ⟨_, rfl⟩
  obtain ⟨b3, hb3⟩ : ∃ b, b = w.heap.size + 2 := ⟨_, rfl⟩
  have hkz : k ≤ nz := by rw [hk]; exact Nat.le_mul_of_pos_right _ hN
  have HK := Lib.hid hk
  have hN0 : ¬ N = 0 := by omega
  have hkw : IntKind.i64.wrap (k : Int) = (k : Int) := by rw [IntKind.wrap_i64]; omega
  have hnw : IntKind.i64.wrap (nz : Int) = (nz : Int) := by rw [IntKind.wrap_i64]; omega
  clear cW hrow hl hm hk hNe hB
  go_enter Tryz.func18, Tryz.ntmps18
  go_wp2_with fail
  obtain ⟨wa, hwa⟩ : ∃ wa, wa = w.alloc (Obj.cells #[.int .i64 2, .int .i64 (c : Int), .slice ao nz cap, .slice none 0 0] 33) := ⟨_, rfl⟩
  obtain ⟨wb, hwb⟩ : ∃ wb, wb = wa.alloc (Obj.cells #[.int .i64 0, .int .i64 0, .slice none 0 0, .slice none 0 0] 33) := ⟨_, rfl⟩
  obtain ⟨wc, hwc⟩ : ∃ wc, wc = wb.alloc (Obj.cells #[.int .i64 2, .int .i64 (c : Int), .slice none 0 0, .slice none 0 0] 33) := ⟨_, rfl⟩
  rw [← hwa, ← hwb, ← hwc, show w.heap.size + 1 + 1 = w.heap.size + 2 from rfl, ← hb3, ← hb2, ← hb1]
  have hsa : wa.heap.size = w.heap.size + 1 := by rw [hwa]; show (w.heap.push _).size = _; rw [Array.size_push]
  have hsb : wb.heap.size = w.heap.size + 2 := by rw [hwb]; show (wa.heap.push _).size = _; rw [Array.size_push, hsa]
  have hka : Kp w wa := by rw [hwa]; exact Kp.alloc w _
  have hkb : Kp wa wb := by rw [hwb]; exact Kp.alloc wa _
  have hkc : Kp wb wc := by rw [hwc]; exact Kp.alloc wb _
  have hkp : Hid (Kp w wc) := (hka.trans hkb).trans hkc
  have hG1 : Hid (wc.heap[b1]? = some (.cells (gcells c (.slice ao nz cap)) 33 (0, 0))) := by
    refine hkc.ko _ _ (hkb.ko _ _ ?_)
    rw [hwa, hb1]; exact alloc_new w _
  have hG2 : Hid (wc.heap[b2]? = some (.cells geom0 33 (0, 0))) := by
    refine hkc.ko _ _ ?_
    rw [hwb, hb2, ← hsa]; exact alloc_new wa _
  have hG3 : Hid (wc.heap[b3]? = some (.cells (gcells c (.slice none 0 0)) 33 (0, 0))) := by
    rw [Hid, hwc, hb3, ← hsb]; exact alloc_new wb _
  have hRw : Hid (wc.ownsRow B 75 1 (.slice ao nz cap) nz (flts xs)) := row_kp HR.out hkp.out
  have Hb1 := Lib.hid hb1
  have Hb2 := Lib.hid hb2
  have Hb3 := Lib.hid hb3
  have hn12 : b1 ≠ b2 := by omega
  have hn13 : b1 ≠ b3 := by omega
  have hn23 : b2 ≠ b3 := by omega
  have hl1 : w.heap.size ≤ b1 := by omega
  have hl2 : w.heap.size ≤ b2 := by omega
  have hl3 : w.heap.size ≤ b3 := by omega
  clear hwa hwb hwc hsa hsb hka hkb hkc hb1 hb2 hb3
  refine (leaf_ok _).mono ?_
  rintro e wx ⟨rfl, hwx⟩
  obtain rfl := hwx.symm
  have g0 : wc.cell? ⟨b1, 2, none⟩ = some (.slice ao nz cap) := by rw [Lib.cell_of_heap hG1.out]; rfl
  have g1 : wc.cell? ⟨b3, 1, none⟩ = some (.int .i64 (c : Int)) := by rw [Lib.cell_of_heap hG3.out]; rfl
  go_upto_region 5 with fail
  have g0' : wc.drew.cell? ⟨b1, 2, none⟩ = some (.slice ao nz cap) := g0
  have g1' : wc.drew.cell? ⟨b3, 1, none⟩ = some (.int .i64 (c : Int)) := g1
  go_region_held3 (fun w' => w'.cell? ⟨b1, 2, none⟩ = some (.slice ao nz cap) ∧ w'.cell? ⟨b3, 1, none⟩ = some (.int .i64 (c : Int))) (first | exact ⟨g0', g1'⟩ | go_keep) (first | (go_at_call 31; refine (CW.out _).mono ?_; rintro e wy ⟨rfl, hwy⟩; obtain rfl := hwy.symm))
  have g2 : wc.drew.drew.cell? ⟨b1, 2, none⟩ = some (.slice ao nz cap) := by rw [Lib.cell_of_heap (w := wc.drew.drew) hG1.out]; rfl
  have g3 : wc.drew.drew.cell? ⟨b3, 1, none⟩ = some (.int .i64 (c : Int)) := by rw [Lib.cell_of_heap (w := wc.drew.drew) hG3.out]; rfl
  have g4 : wc.drew.drew.cell? ⟨b3, 2, none⟩ = some (.slice none 0 0) := by rw [Lib.cell_of_heap (w := wc.drew.drew) hG3.out]; rfl
  have g5 : wc.drew.cell? ⟨b3, 0, none⟩ = some (.int .i64 2) := by rw [Lib.cell_of_heap (w := wc.drew) hG3.out]; rfl
  have f4 : wc.drew.drew.frozen? ⟨b3, 2, none⟩ = false := Lib.frozen_of_heap (w := wc.drew.drew) hG3.out 2
  clear g0 g1
  rcases Nat.eq_zero_or_pos nz with hz | hz
  · have hk0 : k = 0 := by omega
    subst hz
    subst hk0
    have h0c : (0 : Int) ≤ (cap : Int) := by omega
    have hw0 : IntKind.i64.wrap 0 = 0 := by decide
    have hG3' : ∀ u, (wc.setCell ⟨b3, 2, none⟩ u).heap[b3]? = some (.cells ((gcells c (.slice none 0 0)).set! 2 u) 33 (0, 0)) := fun u => Lib.heap_setCell_same (i := 2) hG3.out u
    have hca : (ao = none ∧ cap = 0) ∨ (∃ q, ao = some ⟨q, 0, none⟩ ∧ cap = 0) ∨ (∃ q, ao = some ⟨q, 0, none⟩ ∧ 0 < cap) := by
      rcases HR.out.2 with ⟨h0, _⟩ | ⟨g, cap', cur, hv, _⟩
      · exact Or.inl ⟨(Value.slice.inj h0).1, (Value.slice.inj h0).2.2⟩
      · rcases Nat.eq_zero_or_pos cap with h | h
        · exact Or.inr (Or.inl ⟨g, (Value.slice.inj hv).1, h⟩)
        · exact Or.inr (Or.inr ⟨g, (Value.slice.inj hv).1, h⟩)
    rcases hca with ⟨rfl, rfl⟩ | ⟨q, rfl, rfl⟩ | ⟨q, rfl, hcp⟩
    · go_upto_region 8 with fail
      have K7 : Hid ((wc.setCell ⟨b3, 2, none⟩ (.slice none 0 0)).drew.drew.cell? ⟨b1, 2, none⟩ = some (.slice none 0 0) ∧ (wc.setCell ⟨b3, 2, none⟩ (.slice none 0 0)).drew.drew.cell? ⟨b3, 1, none⟩ = some (.int .i64 (c : Int)) ∧ (wc.setCell ⟨b3, 2, none⟩ (.slice none 0 0)).drew.drew.cell? ⟨b3, 2, none⟩ = some (.slice none 0 0)) := ⟨(Lib.cell_of_heap (w := (wc.setCell ⟨b3, 2, none⟩ (.slice none 0 0)).drew.drew) ((Below.heap_setCell _ _ _ _ hn13).trans hG1.out) 2).trans rfl, (Lib.cell_of_heap (w := (wc.setCell ⟨b3, 2, none⟩ (.slice none 0 0)).drew.drew) (hG3' _) 1).trans rfl, (Lib.cell_of_heap (w := (wc.setCell ⟨b3, 2, none⟩ (.slice none 0 0)).drew.drew) (hG3' _) 2).trans rfl⟩
      go_region_held3 (fun w' => w'.cell? ⟨b1, 2, none⟩ = some (.slice none 0 0) ∧ w'.cell? ⟨b3, 1, none⟩ = some (.int .i64 (c : Int)) ∧ w'.cell? ⟨b3, 2, none⟩ = some (.slice none 0 0)) (first | exact ⟨g2, g3, g4⟩ | exact K7.out | go_keep) (first | (go_at_call 31; refine (CW.out _).mono ?_; rintro e wy ⟨rfl, hwy⟩; obtain rfl := hwy.symm))
      all_goals
        have F3 : Hid (((wc.setCell ⟨b3, 2, none⟩ (.slice none 0 0)).drew.drew).heap[b3]? = some (.cells (gcells c (.slice none 0 0)) 33 (0, 0))) := hG3' _
        have F2 : Hid (((wc.setCell ⟨b3, 2, none⟩ (.slice none 0 0)).drew.drew).heap[b2]? = some (.cells geom0 33 (0, 0))) := (Below.heap_setCell _ _ _ _ (fun h => hn23 h)).trans hG2.out
        have FB : Hid (Below w.heap.size w ((wc.setCell ⟨b3, 2, none⟩ (.slice none 0 0)).drew.drew)) := Below.drew (Below.drew ((hkp.out.below _ (Nat.le_refl _)).setCell (p := ⟨b3, 2, none⟩) hl3 _))
        have FR : Hid (((wc.setCell ⟨b3, 2, none⟩ (.slice none 0 0)).drew.drew).ownsRow w.heap.size 75 1 (.slice none 0 0) 0 (flts xs)) := by rw [show xs = [] from List.length_eq_zero_iff.mp HL.out]; exact World.ownsRow_nil _ _ _ _
        obtain ⟨w7, hw7⟩ : ∃ w7, w7 = (wc.setCell ⟨b3, 2, none⟩ (.slice none 0 0)).drew.drew := ⟨_, rfl⟩
        rw [← hw7] at F3 F2 FB FR ⊢
        have m0 : w7.cell? ⟨b3, 0, none⟩ = some (.int .i64 2) := by rw [Lib.cell_of_heap F3.out]; rfl
        have m1 : w7.cell? ⟨b3, 1, none⟩ = some (.int .i64 (c : Int)) := by rw [Lib.cell_of_heap F3.out]; rfl
        have m2 : w7.cell? ⟨b3, 2, none⟩ = some (.slice none 0 0) := by rw [Lib.cell_of_heap F3.out]; rfl
        have m3 : w7.cell? ⟨b3, 3, none⟩ = some (.slice none 0 0) := by rw [Lib.cell_of_heap F3.out]; rfl
        have l0 : w7.cell? ⟨b2, 0, none⟩ = some (.int .i64 0) := by rw [Lib.cell_of_heap F2.out]; rfl
        have l1 : w7.cell? ⟨b2, 1, none⟩ = some (.int .i64 0) := by rw [Lib.cell_of_heap F2.out]; rfl
        have l2 : w7.cell? ⟨b2, 2, none⟩ = some (.slice none 0 0) := by rw [Lib.cell_of_heap F2.out]; rfl
        have l3 : w7.cell? ⟨b2, 3, none⟩ = some (.slice none 0 0) := by rw [Lib.cell_of_heap F2.out]; rfl
        have lf0 := Lib.frozen_of_heap F2.out 0
        have lf1 := Lib.frozen_of_heap F2.out 1
        have lf2 := Lib.frozen_of_heap F2.out 2
        have lf3 := Lib.frozen_of_heap F2.out 3
        clear hw7
        go_wp2_with fail
        have y0 := Lib.heap_setCell_same (i := 0) F2.out (.int .i64 2)
        have y1 := Lib.heap_setCell_same (i := 1) y0 (.int .i64 (c : Int))
        have y2 := Lib.heap_setCell_same (i := 2) y1 (.slice none 0 0)
        have y3 := Lib.heap_setCell_same (i := 3) y2 (.slice none 0 0)
        have x0 := FB.out.setCell (p := ⟨b2, 0, none⟩) hl2 (.int .i64 2)
        have x1 := x0.setCell (p := ⟨b2, 1, none⟩) hl2 (.int .i64 (c : Int))
        have x2 := x1.setCell (p := ⟨b2, 2, none⟩) hl2 (.slice none 0 0)
        have x3 := x2.setCell (p := ⟨b2, 3, none⟩) hl2 (.slice none 0 0)
        have r0 := row_set (i := 0) FR.out F2.out (by decide) (.int .i64 2)
        have r1 := row_set (i := 1) r0 y0 (by decide) (.int .i64 (c : Int))
        have r2 := row_set (i := 2) r1 y1 (by decide) (.slice none 0 0)
        have r3 := row_set (i := 3) r2 y2 (by decide) (.slice none 0 0)
        exact ⟨rfl, _, results_cell_row rfl _ _ b2 33 (gcells c (.slice none 0 0)) (0, 0) (.struct (Tryz.prog.fieldsOf 33)) rfl y3 (by kernel_rfl) rfl (by kernel_rfl), x3, none, 0, rfl, r3⟩
    · go_upto_region 8 with fail
      have K7 : Hid ((wc.setCell ⟨b3, 2, none⟩ (.slice none 0 0)).drew.drew.cell? ⟨b1, 2, none⟩ = some (.slice (some ⟨q, 0, none⟩) 0 0) ∧ (wc.setCell ⟨b3, 2, none⟩ (.slice none 0 0)).drew.drew.cell? ⟨b3, 1, none⟩ = some (.int .i64 (c : Int)) ∧ (wc.setCell ⟨b3, 2, none⟩ (.slice none 0 0)).drew.drew.cell? ⟨b3, 2, none⟩ = some (.slice none 0 0)) := ⟨(Lib.cell_of_heap (w := (wc.setCell ⟨b3, 2, none⟩ (.slice none 0 0)).drew.drew) ((Below.heap_setCell _ _ _ _ hn13).trans hG1.out) 2).trans rfl, (Lib.cell_of_heap (w := (wc.setCell ⟨b3, 2, none⟩ (.slice none 0 0)).drew.drew) (hG3' _) 1).trans rfl, (Lib.cell_of_heap (w := (wc.setCell ⟨b3, 2, none⟩ (.slice none 0 0)).drew.drew) (hG3' _) 2).trans rfl⟩
      go_region_held3 (fun w' => w'.cell? ⟨b1, 2, none⟩ = some (.slice (some ⟨q, 0, none⟩) 0 0) ∧ w'.cell? ⟨b3, 1, none⟩ = some (.int .i64 (c : Int)) ∧ w'.cell? ⟨b3, 2, none⟩ = some (.slice none 0 0)) (first | exact ⟨g2, g3, g4⟩ | exact K7.out | go_keep) (first | (go_at_call 31; refine (CW.out _).mono ?_; rintro e wy ⟨rfl, hwy⟩; obtain rfl := hwy.symm))
      all_goals
        have F3 : Hid (((wc.setCell ⟨b3, 2, none⟩ (.slice none 0 0)).drew.drew).heap[b3]? = some (.cells (gcells c (.slice none 0 0)) 33 (0, 0))) := hG3' _
        have F2 : Hid (((wc.setCell ⟨b3, 2, none⟩ (.slice none 0 0)).drew.drew).heap[b2]? = some (.cells geom0 33 (0, 0))) := (Below.heap_setCell _ _ _ _ (fun h => hn23 h)).trans hG2.out
        have FB : Hid (Below w.heap.size w ((wc.setCell ⟨b3, 2, none⟩ (.slice none 0 0)).drew.drew)) := Below.drew (Below.drew ((hkp.out.below _ (Nat.le_refl _)).setCell (p := ⟨b3, 2, none⟩) hl3 _))
        have FR : Hid (((wc.setCell ⟨b3, 2, none⟩ (.slice none 0 0)).drew.drew).ownsRow w.heap.size 75 1 (.slice none 0 0) 0 (flts xs)) := by rw [show xs = [] from List.length_eq_zero_iff.mp HL.out]; exact World.ownsRow_nil _ _ _ _
        obtain ⟨w7, hw7⟩ : ∃ w7, w7 = (wc.setCell ⟨b3, 2, none⟩ (.slice none 0 0)).drew.drew := ⟨_, rfl⟩
        rw [← hw7] at F3 F2 FB FR ⊢
        have m0 : w7.cell? ⟨b3, 0, none⟩ = some (.int .i64 2) := by rw [Lib.cell_of_heap F3.out]; rfl
        have m1 : w7.cell? ⟨b3, 1, none⟩ = some (.int .i64 (c : Int)) := by rw [Lib.cell_of_heap F3.out]; rfl
        have m2 : w7.cell? ⟨b3, 2, none⟩ = some (.slice none 0 0) := by rw [Lib.cell_of_heap F3.out]; rfl
        have m3 : w7.cell? ⟨b3, 3, none⟩ = some (.slice none 0 0) := by rw [Lib.cell_of_heap F3.out]; rfl
        have l0 : w7.cell? ⟨b2, 0, none⟩ = some (.int .i64 0) := by rw [Lib.cell_of_heap F2.out]; rfl
        have l1 : w7.cell? ⟨b2, 1, none⟩ = some (.int .i64 0) := by rw [Lib.cell_of_heap F2.out]; rfl
        have l2 : w7.cell? ⟨b2, 2, none⟩ = some (.slice none 0 0) := by rw [Lib.cell_of_heap F2.out]; rfl
        have l3 : w7.cell? ⟨b2, 3, none⟩ = some (.slice none 0 0) := by rw [Lib.cell_of_heap F2.out]; rfl
        have lf0 := Lib.frozen_of_heap F2.out 0
        have lf1 := Lib.frozen_of_heap F2.out 1
        have lf2 := Lib.frozen_of_heap F2.out 2
        have lf3 := Lib.frozen_of_heap F2.out 3
        clear hw7
        go_wp2_with fail
        have y0 := Lib.heap_setCell_same (i := 0) F2.out (.int .i64 2)
        have y1 := Lib.heap_setCell_same (i := 1) y0 (.int .i64 (c : Int))
        have y2 := Lib.heap_setCell_same (i := 2) y1 (.slice none 0 0)
        have y3 := Lib.heap_setCell_same (i := 3) y2 (.slice none 0 0)
        have x0 := FB.out.setCell (p := ⟨b2, 0, none⟩) hl2 (.int .i64 2)
        have x1 := x0.setCell (p := ⟨b2, 1, none⟩) hl2 (.int .i64 (c : Int))
        have x2 := x1.setCell (p := ⟨b2, 2, none⟩) hl2 (.slice none 0 0)
        have x3 := x2.setCell (p := ⟨b2, 3, none⟩) hl2 (.slice none 0 0)
        have r0 := row_set (i := 0) FR.out F2.out (by decide) (.int .i64 2)
        have r1 := row_set (i := 1) r0 y0 (by decide) (.int .i64 (c : Int))
        have r2 := row_set (i := 2) r1 y1 (by decide) (.slice none 0 0)
        have r3 := row_set (i := 3) r2 y2 (by decide) (.slice none 0 0)
        exact ⟨rfl, _, results_cell_row rfl _ _ b2 33 (gcells c (.slice none 0 0)) (0, 0) (.struct (Tryz.prog.fieldsOf 33)) rfl y3 (by kernel_rfl) rfl (by kernel_rfl), x3, none, 0, rfl, r3⟩
    · have hcz : ¬ cap = 0 := by omega
      go_upto_region 8 with fail
      have K7 : Hid ((wc.setCell ⟨b3, 2, none⟩ (.slice none 0 0)).drew.drew.cell? ⟨b1, 2, none⟩ = some (.slice (some ⟨q, 0, none⟩) 0 cap) ∧ (wc.setCell ⟨b3, 2, none⟩ (.slice none 0 0)).drew.drew.cell? ⟨b3, 1, none⟩ = some (.int .i64 (c : Int)) ∧ (wc.setCell ⟨b3, 2, none⟩ (.slice none 0 0)).drew.drew.cell? ⟨b3, 2, none⟩ = some (.slice none 0 0)) := ⟨(Lib.cell_of_heap (w := (wc.setCell ⟨b3, 2, none⟩ (.slice none 0 0)).drew.drew) ((Below.heap_setCell _ _ _ _ hn13).trans hG1.out) 2).trans rfl, (Lib.cell_of_heap (w := (wc.setCell ⟨b3, 2, none⟩ (.slice none 0 0)).drew.drew) (hG3' _) 1).trans rfl, (Lib.cell_of_heap (w := (wc.setCell ⟨b3, 2, none⟩ (.slice none 0 0)).drew.drew) (hG3' _) 2).trans rfl⟩
      go_region_held3 (fun w' => w'.cell? ⟨b1, 2, none⟩ = some (.slice (some ⟨q, 0, none⟩) 0 cap) ∧ w'.cell? ⟨b3, 1, none⟩ = some (.int .i64 (c : Int)) ∧ w'.cell? ⟨b3, 2, none⟩ = some (.slice none 0 0)) (first | exact ⟨g2, g3, g4⟩ | exact K7.out | go_keep) (first | (go_at_call 31; refine (CW.out _).mono ?_; rintro e wy ⟨rfl, hwy⟩; obtain rfl := hwy.symm))
      all_goals
        have F3 : Hid (((wc.setCell ⟨b3, 2, none⟩ (.slice none 0 0)).drew.drew).heap[b3]? = some (.cells (gcells c (.slice none 0 0)) 33 (0, 0))) := hG3' _
        have F2 : Hid (((wc.setCell ⟨b3, 2, none⟩ (.slice none 0 0)).drew.drew).heap[b2]? = some (.cells geom0 33 (0, 0))) := (Below.heap_setCell _ _ _ _ (fun h => hn23 h)).trans hG2.out
        have FB : Hid (Below w.heap.size w ((wc.setCell ⟨b3, 2, none⟩ (.slice none 0 0)).drew.drew)) := Below.drew (Below.drew ((hkp.out.below _ (Nat.le_refl _)).setCell (p := ⟨b3, 2, none⟩) hl3 _))
        have FR : Hid (((wc.setCell ⟨b3, 2, none⟩ (.slice none 0 0)).drew.drew).ownsRow w.heap.size 75 1 (.slice none 0 0) 0 (flts xs)) := by rw [show xs = [] from List.length_eq_zero_iff.mp HL.out]; exact World.ownsRow_nil _ _ _ _
        obtain ⟨w7, hw7⟩ : ∃ w7, w7 = (wc.setCell ⟨b3, 2, none⟩ (.slice none 0 0)).drew.drew := ⟨_, rfl⟩
        rw [← hw7] at F3 F2 FB FR ⊢
        have m0 : w7.cell? ⟨b3, 0, none⟩ = some (.int .i64 2) := by rw [Lib.cell_of_heap F3.out]; rfl
        have m1 : w7.cell? ⟨b3, 1, none⟩ = some (.int .i64 (c : Int)) := by rw [Lib.cell_of_heap F3.out]; rfl
        have m2 : w7.cell? ⟨b3, 2, none⟩ = some (.slice none 0 0) := by rw [Lib.cell_of_heap F3.out]; rfl
        have m3 : w7.cell? ⟨b3, 3, none⟩ = some (.slice none 0 0) := by rw [Lib.cell_of_heap F3.out]; rfl
        have l0 : w7.cell? ⟨b2, 0, none⟩ = some (.int .i64 0) := by rw [Lib.cell_of_heap F2.out]; rfl
        have l1 : w7.cell? ⟨b2, 1, none⟩ = some (.int .i64 0) := by rw [Lib.cell_of_heap F2.out]; rfl
        have l2 : w7.cell? ⟨b2, 2, none⟩ = some (.slice none 0 0) := by rw [Lib.cell_of_heap F2.out]; rfl
        have l3 : w7.cell? ⟨b2, 3, none⟩ = some (.slice none 0 0) := by rw [Lib.cell_of_heap F2.out]; rfl
        have lf0 := Lib.frozen_of_heap F2.out 0
        have lf1 := Lib.frozen_of_heap F2.out 1
        have lf2 := Lib.frozen_of_heap F2.out 2
        have lf3 := Lib.frozen_of_heap F2.out 3
        clear hw7
        go_wp2_with fail
        have y0 := Lib.heap_setCell_same (i := 0) F2.out (.int .i64 2)
        have y1 := Lib.heap_setCell_same (i := 1) y0 (.int .i64 (c : Int))
        have y2 := Lib.heap_setCell_same (i := 2) y1 (.slice none 0 0)
        have y3 := Lib.heap_setCell_same (i := 3) y2 (.slice none 0 0)
        have x0 := FB.out.setCell (p := ⟨b2, 0, none⟩) hl2 (.int .i64 2)
        have x1 := x0.setCell (p := ⟨b2, 1, none⟩) hl2 (.int .i64 (c : Int))
        have x2 := x1.setCell (p := ⟨b2, 2, none⟩) hl2 (.slice none 0 0)
        have x3 := x2.setCell (p := ⟨b2, 3, none⟩) hl2 (.slice none 0 0)
        have r0 := row_set (i := 0) FR.out F2.out (by decide) (.int .i64 2)
        have r1 := row_set (i := 1) r0 y0 (by decide) (.int .i64 (c : Int))
        have r2 := row_set (i := 2) r1 y1 (by decide) (.slice none 0 0)
        have r3 := row_set (i := 3) r2 y2 (by decide) (.slice none 0 0)
        exact ⟨rfl, _, results_cell_row rfl _ _ b2 33 (gcells c (.slice none 0 0)) (0, 0) (.struct (Tryz.prog.fieldsOf 33)) rfl y3 (by kernel_rfl) rfl (by kernel_rfl), x3, none, 0, rfl, r3⟩
  · obtain ⟨q, rfl⟩ : ∃ q, ao = some ⟨q, 0, none⟩ := by
      rcases HR.out.2 with ⟨_, h0⟩ | ⟨g, cap', cur, hv, _⟩
      · omega
      · exact ⟨g, (Value.slice.inj hv).1⟩
    have hcap : nz ≤ cap := by
      rcases HR.out.2 with ⟨_, h0⟩ | ⟨g, cap', cur, hv, _, _, h1, _⟩
      · omega
      · rw [(Value.slice.inj hv).2.2]; exact h1
    have hcapI : (nz : Int) ≤ (cap : Int) := by omega
    have hnews : Hid (∀ j u, (flts xs)[j]? = some u → wc.drew.drew.cell? ((⟨q, 0, none⟩ : Addr).add j) = some u) := fun j u hj => (hRw.out.cells (g := q) rfl j u hj)
    have hbs : w.heap.size ≤ wc.drew.drew.heap.size := hkp.out.size
    obtain ⟨i0, hi, hz0, hz1, hz2⟩ := float75
    have u30 : Tryz.prog.underlying 30 = some (.slice 75) := by kernel_rfl
    go_upto_region 8 with fail
    go_region_law
      (first
        | (go_simp; go_at_call 31; refine (CW.out _).mono ?_; rintro e wy ⟨rfl, hwy⟩; obtain rfl := hwy.symm)
        | ((refine step_append_lies _ (by rfl) _ _ 30 (by rfl) w.heap.size 75 i0 (.float .f64 0) 1 8 u30 hi hz0 hz1 hz2 (by rfl) (by decide) (.slice none 0 0) 0 [] (by simp [Act.eval, Act.put]) (World.ownsRow_nil _ _ _ _) ⟨q, 0, none⟩ nz cap (flts xs) (by simp [Act.eval, Act.put]) (by rw [Nat.mul_one, ← HL.out]; exact List.length_map _) hnews.out flts_one (by omega) (by unfold maxLen; omega) (by omega) hbs wc.drew.drew.heap.size rfl ?_); intro g6 cap6 w6 hown6 hgrow6 hat6 hlt6; have HO6 := Lib.hid hown6; have HG6 := Lib.hid hgrow6; have G6 : Hid (w6.heap[b3]? = some (.cells (gcells c (.slice none 0 0)) 33 (0, 0))) := (hgrow6.block b3 (Lib.lt_of_heap hG3.out) (by intro h; cases h)).trans hG3.out; have G61 : Hid (w6.heap[b1]? = some (.cells (gcells c (.slice (some ⟨q, 0, none⟩) nz cap)) 33 (0, 0))) := (hgrow6.block b1 (Lib.lt_of_heap hG1.out) (by intro h; cases h)).trans hG1.out; have hc6 : w6.cell? ⟨b3, 2, none⟩ = some (.slice none 0 0) := (Lib.cell_of_heap G6.out 2).trans rfl; have hf6 : w6.frozen? ⟨b3, 2, none⟩ = false := Lib.frozen_of_heap G6.out 2; have K6 : Hid (w6.cell? ⟨b1, 2, none⟩ = some (.slice (some ⟨q, 0, none⟩) nz cap) ∧ w6.cell? ⟨b3, 1, none⟩ = some (.int .i64 (c : Int))) := ⟨(Lib.cell_of_heap G61.out 2).trans rfl, (Lib.cell_of_heap G6.out 1).trans rfl⟩; have K7 : Hid (∀ u, (w6.setCell ⟨b3, 2, none⟩ u).cell? ⟨b1, 2, none⟩ = some (.slice (some ⟨q, 0, none⟩) nz cap) ∧ (w6.setCell ⟨b3, 2, none⟩ u).cell? ⟨b3, 1, none⟩ = some (.int .i64 (c : Int))) := (fun u => ⟨(Lib.cell_of_heap ((Below.heap_setCell _ _ _ _ hn13).trans G61.out) 2).trans rfl, (Lib.cell_of_heap (Lib.heap_setCell_same (i := 2) G6.out u) 1).trans rfl⟩); clear hown6 hgrow6 hat6 hlt6)
        )
    all_goals
      have F3 : Hid ((w6.setCell ⟨b3, 2, none⟩ (.slice (some ⟨g6, 0, none⟩) nz cap6)).heap[b3]? = some (.cells (gcells c (.slice (some ⟨g6, 0, none⟩) nz cap6)) 33 (0, 0))) := Lib.heap_setCell_same (i := 2) G6.out _
      have F2 : Hid ((w6.setCell ⟨b3, 2, none⟩ (.slice (some ⟨g6, 0, none⟩) nz cap6)).heap[b2]? = some (.cells geom0 33 (0, 0))) := (Below.heap_setCell _ _ _ _ hn23).trans ((HG6.out.block b2 (Lib.lt_of_heap hG2.out) (by intro h; cases h)).trans hG2.out)
      have FB : Hid (Below w.heap.size w (w6.setCell ⟨b3, 2, none⟩ (.slice (some ⟨g6, 0, none⟩) nz cap6))) := (Below.grown (w := wc.drew.drew) (row := (Value.slice none 0 0).ownBlock) (Below.drew (Below.drew (hkp.out.below _ (Nat.le_refl _)))) HG6.out hbs (fun k hk => by cases hk)).setCell (p := ⟨b3, 2, none⟩) hl3 _
      have FR : Hid ((w6.setCell ⟨b3, 2, none⟩ (.slice (some ⟨g6, 0, none⟩) nz cap6)).ownsRow w.heap.size 75 1 (.slice (some ⟨g6, 0, none⟩) nz cap6) nz (flts xs)) := row_set (i := 2) (by simpa using HO6.out) G6.out (by decide) _
      obtain ⟨w7, hw7⟩ : ∃ w7, w7 = w6.setCell ⟨b3, 2, none⟩ (.slice (some ⟨g6, 0, none⟩) nz cap6) := ⟨_, rfl⟩
      rw [← hw7] at F3 F2 FB FR ⊢
      have m0 : w7.cell? ⟨b3, 0, none⟩ = some (.int .i64 2) := by rw [Lib.cell_of_heap F3.out]; rfl
      have m1 : w7.cell? ⟨b3, 1, none⟩ = some (.int .i64 (c : Int)) := by rw [Lib.cell_of_heap F3.out]; rfl
      have m2 : w7.cell? ⟨b3, 2, none⟩ = some (.slice (some ⟨g6, 0, none⟩) nz cap6) := by rw [Lib.cell_of_heap F3.out]; rfl
      have m3 : w7.cell? ⟨b3, 3, none⟩ = some (.slice none 0 0) := by rw [Lib.cell_of_heap F3.out]; rfl
      have l0 : w7.cell? ⟨b2, 0, none⟩ = some (.int .i64 0) := by rw [Lib.cell_of_heap F2.out]; rfl
      have l1 : w7.cell? ⟨b2, 1, none⟩ = some (.int .i64 0) := by rw [Lib.cell_of_heap F2.out]; rfl
      have l2 : w7.cell? ⟨b2, 2, none⟩ = some (.slice none 0 0) := by rw [Lib.cell_of_heap F2.out]; rfl
      have l3 : w7.cell? ⟨b2, 3, none⟩ = some (.slice none 0 0) := by rw [Lib.cell_of_heap F2.out]; rfl
      have lf0 := Lib.frozen_of_heap F2.out 0
      have lf1 := Lib.frozen_of_heap F2.out 1
      have lf2 := Lib.frozen_of_heap F2.out 2
      have lf3 := Lib.frozen_of_heap F2.out 3
      clear hw7
      go_wp2_with fail
      have y0 := Lib.heap_setCell_same (i := 0) F2.out (.int .i64 2)
      have y1 := Lib.heap_setCell_same (i := 1) y0 (.int .i64 (c : Int))
      have y2 := Lib.heap_setCell_same (i := 2) y1 (.slice (some ⟨g6, 0, none⟩) nz cap6)
      have y3 := Lib.heap_setCell_same (i := 3) y2 (.slice none 0 0)
      have x0 := FB.out.setCell (p := ⟨b2, 0, none⟩) hl2 (.int .i64 2)
      have x1 := x0.setCell (p := ⟨b2, 1, none⟩) hl2 (.int .i64 (c : Int))
      have x2 := x1.setCell (p := ⟨b2, 2, none⟩) hl2 (.slice (some ⟨g6, 0, none⟩) nz cap6)
      have x3 := x2.setCell (p := ⟨b2, 3, none⟩) hl2 (.slice none 0 0)
      have r0 := row_set (i := 0) FR.out F2.out (by decide) (.int .i64 2)
      have r1 := row_set (i := 1) r0 y0 (by decide) (.int .i64 (c : Int))
      have r2 := row_set (i := 2) r1 y1 (by decide) (.slice (some ⟨g6, 0, none⟩) nz cap6)
      have r3 := row_set (i := 3) r2 y2 (by decide) (.slice none 0 0)
      exact ⟨rfl, _, results_cell_row rfl _ _ b2 33 (gcells c (.slice (some ⟨g6, 0, none⟩) nz cap6)) (0, 0) (.struct (Tryz.prog.fieldsOf 33)) rfl y3 (by kernel_rfl) rfl (by kernel_rfl), x3, (some ⟨g6, 0, none⟩), cap6, rfl, r3⟩
end Go.Proofs.YthplmbgdcfmkgaaGreatDoor
/- The reference: same numbers, same geometries, the walks. -/
namespace Go.Proofs.YthplmbgdcfmkgaaGreatDoor
open Go.RowKit Go.Proofs Go.Sort

theorem flts_at (xs : List Nat) (i : Nat) (h : i < xs.length) : (flts xs)[i]? = some (.float .f64 (xs[i]'h)) := by
  unfold flts
  rw [List.getElem?_map, List.getElem?_eq_getElem h]
  rfl
theorem flt_cell {B q cap : Nat} {w : World} {xs : List Nat} {n : Nat} (h : w.ownsRow B 75 1 (.slice (some ⟨q, 0, none⟩) n cap) n (flts xs)) (i : Nat) (hi : i < xs.length) :
    w.cell? ⟨q, i, none⟩ = some (.float .f64 (xs[i]'hi)) := by
  have ha : ∀ j, (⟨q, 0, none⟩ : Addr).add j = ⟨q, j, none⟩ := by
    intro j
    unfold Addr.add
    split <;> simp_all
  have c1 := h.cells rfl _ _ (flts_at xs i hi)
  rw [ha] at c1
  exact c1
set_option maxHeartbeats 4000000 in
set_option maxRecDepth 100000 in
theorem same_nums (xs : List Nat) (a1 a2 : Option Addr) (n c1 c2 B1 B2 : Nat) (w : World) (hn : xs.length = n) (hl : n ≤ 5000000) (h1 : w.ownsRow B1 75 1 (.slice a1 n c1) n (flts xs)) (h2 : w.ownsRow B2 75 1 (.slice a2 n c2) n (flts xs)) :
    Calls Tryz.prog 20 #[.slice a1 n c1, .slice a2 n c2] w fun e w' => e = .returned (.bool true) ∧ Below w.heap.size w w' := by
  have H1 := Lib.hid h1
  have H2 := Lib.hid h2
  have HN := Lib.hid hn
  have hb := bits_run
  clear h1 h2 hn
  go_enter Tryz.func20, Tryz.ntmps20
  go_wp2_with fail
  go_loopg [5, 6, 14] n (fun q s5 s6 s14 wr => ∃ i : Nat, i ≤ n ∧ q + i = n ∧ s14 = .int .i64 (i : Int) ∧ Hid (Kp w wr))
  case atStart => exact ⟨0, by omega, by omega, rfl, Kp.refl w⟩
  case round =>
    obtain ⟨i, hi, hq, rfl, hK⟩ := hrel
    by_cases hin : i < n
    · have hlt : (i : Int) < (n : Int) := by omega
      obtain ⟨q1, rfl⟩ : ∃ q, a1 = some ⟨q, 0, none⟩ := by
        rcases H1.out.2 with ⟨_, h0⟩ | ⟨g, cap', cur, hv, _⟩
        · omega
        · exact ⟨g, (Value.slice.inj hv).1⟩
      obtain ⟨q2, rfl⟩ : ∃ q, a2 = some ⟨q, 0, none⟩ := by
        rcases H2.out.2 with ⟨_, h0⟩ | ⟨g, cap', cur, hv, _⟩
        · omega
        · exact ⟨g, (Value.slice.inj hv).1⟩
      have hil : i < xs.length := by rw [HN.out]; exact hin
      have d1 := flt_cell (row_kp H1.out hK.out) i hil
      have d2 := flt_cell (row_kp H2.out hK.out) i hil
      obtain ⟨x, hx⟩ : ∃ x, x = xs[i]'hil := ⟨_, rfl⟩
      rw [← hx] at d1 d2
      clear hx
      have d3 : wr.drew.cell? ⟨q2, i, none⟩ = some (.float .f64 x) := d2
      go_upto_region 6 with fail
      go_region
      have HK2 : Hid (Kp w wr.drew) := ⟨hK.out.ko, fun B hB => Below.drew (hK.out.below B hB)⟩
      go_wp2_with fail
      go_roundg (gk - 1)
      case measure => omega
      case rel => exact ⟨i + 1, by omega, by omega, by go_num, HK2⟩
    · have hlt : ¬ (i : Int) < (n : Int) := by omega
      go_wp2_with fail
      go_ret
      exact ⟨rfl, hK.out.below _ (Nat.le_refl _)⟩
set_option maxRecDepth 100000 in
theorem same_none (w : World) : Calls Tryz.prog 21 #[.slice none 0 0, .slice none 0 0] w fun e w' => e = .returned (.bool true) ∧ w' = w := by
  go_enter Tryz.func21, Tryz.ntmps21
  go_wp2_with fail
  go_loopg [5, 6, 14] 0 (fun q s5 s6 s14 wr => s14 = .int .i64 0 ∧ Hid (wr = w))
  case atStart => exact ⟨rfl, rfl⟩
  case round =>
    obtain ⟨rfl, hw⟩ := hrel
    obtain rfl := hw.out.symm
    go_wp2_with fail
    go_ret
    exact ⟨rfl, rfl⟩
set_option maxHeartbeats 4000000 in
set_option maxRecDepth 100000 in
theorem same_geom (c : Nat) (xs : List Nat) (a1 a2 : Option Addr) (n c1 c2 B1 B2 : Nat) (w : World) (hn : xs.length = n) (hl : n ≤ 5000000) (h1 : w.ownsRow B1 75 1 (.slice a1 n c1) n (flts xs)) (h2 : w.ownsRow B2 75 1 (.slice a2 n c2) n (flts xs)) :
    Calls Tryz.prog 11 #[.agg #[.int .i64 2, .int .i64 (c : Int), .slice a1 n c1, .slice none 0 0], .agg #[.int .i64 2, .int .i64 (c : Int), .slice a2 n c2, .slice none 0 0]] w fun e w' => e = .returned (.bool true) ∧ Below w.heap.size w w' := by
  have H1 := Lib.hid h1
  have H2 := Lib.hid h2
  have HN := Lib.hid hn
  clear h1 h2 hn
  go_enter Tryz.func11, Tryz.ntmps11
  go_wp2_with fail
  obtain ⟨wa, hwa⟩ : ∃ wa, wa = w.alloc (Obj.cells #[.int .i64 2, .int .i64 (c : Int), .slice a1 n c1, .slice none 0 0] 33) := ⟨_, rfl⟩
  obtain ⟨wb, hwb⟩ : ∃ wb, wb = wa.alloc (Obj.cells #[.int .i64 2, .int .i64 (c : Int), .slice a2 n c2, .slice none 0 0] 33) := ⟨_, rfl⟩
  obtain ⟨b1, hb1⟩ : ∃ b, b = w.heap.size := ⟨_, rfl⟩
  obtain ⟨b2, hb2⟩ : ∃ b, b = w.heap.size + 1 := ⟨_, rfl⟩
  rw [← hwa, ← hwb, ← hb2, ← hb1]
  have hsa : wa.heap.size = w.heap.size + 1 := by rw [hwa]; show (w.heap.push _).size = _; rw [Array.size_push]
  have hka : Kp w wa := by rw [hwa]; exact Kp.alloc w _
  have hkb : Kp wa wb := by rw [hwb]; exact Kp.alloc wa _
  have hkp : Hid (Kp w wb) := hka.trans hkb
  have hG1 : Hid (wb.heap[b1]? = some (.cells (gcells c (.slice a1 n c1)) 33 (0, 0))) := by
    refine hkb.ko _ _ ?_
    rw [hwa, hb1]; exact alloc_new w _
  have hG2 : Hid (wb.heap[b2]? = some (.cells (gcells c (.slice a2 n c2)) 33 (0, 0))) := by
    rw [Hid, hwb, hb2, ← hsa]; exact alloc_new wa _
  clear hwa hwb hsa hka hkb hb1 hb2
  refine (same_nums xs a1 a2 n c1 c2 B1 B2 wb HN.out hl (row_kp H1.out hkp.out) (row_kp H2.out hkp.out)).mono ?_
  rintro e w2 ⟨rfl, hB2⟩
  have m1 : w2.cell? ⟨b1, 3, none⟩ = some (.slice none 0 0) := by
    have := hB2.block b1 (Lib.lt_of_heap hG1.out)
    rw [hG1.out] at this
    rw [Lib.cell_of_heap this]; rfl
  have m2 : w2.cell? ⟨b2, 3, none⟩ = some (.slice none 0 0) := by
    have := hB2.block b2 (Lib.lt_of_heap hG2.out)
    rw [hG2.out] at this
    rw [Lib.cell_of_heap this]; rfl
  have HB2 : Hid (Below w.heap.size w w2) := (hkp.out.below _ (Nat.le_refl _)).trans (hB2.mono hkp.out.size)
  clear hB2
  go_wp2_with fail
  refine (same_none _).mono ?_
  rintro e wx ⟨rfl, hwx⟩
  obtain rfl := hwx.symm
  go_wp2_with fail
  go_ret
  exact ⟨rfl, HB2.out⟩
end Go.Proofs.YthplmbgdcfmkgaaGreatDoor
