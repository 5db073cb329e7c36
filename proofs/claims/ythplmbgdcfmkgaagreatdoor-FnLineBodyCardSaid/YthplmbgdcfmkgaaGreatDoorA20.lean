/- Sequences as values. -/
import Derived.Test.YthplmbgdcfmkgaaGreatDoorA19
import Derived.Deep.RegionHeld3
set_option linter.unusedVariables false
set_option linter.unusedSimpArgs false
/- Sequences: how long, and a place. -/
namespace Go.Proofs.YthplmbgdcfmkgaaGreatDoor
open Go.RowKit Go.Proofs Go.Sort

set_option maxRecDepth 100000 in
theorem seq_type (c : Nat) (ao : Option Addr) (n cap : Nat) (w : World) : Calls Tryz.prog 46 #[.agg #[.int .u8 (c : Int), .slice ao n cap]] w fun e w' => e = .returned (.int .u8 (c : Int)) ∧ Kp w w' := by
  go_enter Tryz.func46, Tryz.ntmps46
  go_wp2_with fail
  go_ret
  exact ⟨rfl, Kp.alloc w _⟩
set_option maxRecDepth 100000 in
theorem seq_len (c : Nat) (hc : c < 4) (ao : Option Addr) (n cap m : Nat) (hm : n = m * wid c) (hn : n ≤ 100000) (w : World) : Calls Tryz.prog 47 #[.agg #[.int .u8 (c : Int), .slice ao n cap]] w fun e w' => e = .returned (.int .i64 (m : Int)) ∧ Kp w w' := by
  have cD := fun W : World => dim_ok c hc W
  obtain ⟨N, hNe⟩ : ∃ N, N = wid c := ⟨_, rfl⟩
  have hN : 0 < N := by rw [hNe]; unfold wid; split <;> (try split) <;> omega
  rw [← hNe] at cD hm
  have hdiv : Int.tdiv (n : Int) (N : Int) = (m : Int) := by
    rw [Int.tdiv_eq_ediv_of_nonneg (Int.natCast_nonneg n), ← Int.natCast_ediv, hm, Nat.mul_div_cancel _ hN]
  have hml : m ≤ n := by rw [hm]; exact Nat.le_mul_of_pos_right m hN
  have HM := Lib.hid hm
  have CD := Lib.hid cD
  clear cD hNe hm
  go_enter Tryz.func47, Tryz.ntmps47
  go_wp2_with fail
  go_quiet ((go_at_call 60; refine (CD.out _).mono ?_; rintro e w'' ⟨rfl, rfl⟩; exact ⟨rfl, _, rfl⟩))
  go_wp2_with fail
  go_ret
  exact ⟨rfl, (Kp.alloc w _).drewN _⟩
/-- A place's cells. -/
def plc (c : Nat) (X : Nat → Nat) : Array Value :=
  #[.float .f64 (X 0), .float .f64 (X 1), .float .f64 (if c = 1 ∨ c = 3 then X 2 else 0), .float .f64 (if c = 2 then X 2 else if c = 3 then X 3 else 0), .int .u8 (c : Int)]
def zero109 : Array Value := #[.float .f64 0, .float .f64 0, .float .f64 0, .float .f64 0, .int .u8 0]
set_option maxHeartbeats 2000000 in
set_option maxRecDepth 100000 in
theorem seq_get0 (q n cap k i : Nat) (X : Nat → Nat) (w : World) (hk : k = i * 2) (hn : k + 2 ≤ n) (hn2 : n ≤ 100000) (hcell : ∀ j, j < 2 → w.cell? ⟨q, k + j, none⟩ = some (.float .f64 (X j))) :
    Calls Tryz.prog 48 #[.agg #[.int .u8 0, .slice (some ⟨q, 0, none⟩) n cap], .int .i64 (i : Int)] w fun e w' => e = .returned (.agg (plc 0 X)) ∧ Kp w w' := by
  have hq : q < w.heap.size := World.block_lt_of_cell? w ⟨q, k + 0, none⟩ (hcell 0 (by omega))
  obtain ⟨b, hb⟩ : ∃ b, b = w.heap.size := ⟨_, rfl⟩
  obtain ⟨b2, hb2⟩ : ∃ b2, b2 = w.heap.size + 1 := ⟨_, rfl⟩
  have cD := fun W : World => dim_ok 0 (by omega) W
  have CD := Lib.hid cD
  clear cD
  go_enter Tryz.func48, Tryz.ntmps48
  go_upto_region 1 with fail
  obtain ⟨wa, hwa⟩ : ∃ wa, wa = w.alloc (Obj.cells #[.int .u8 0, .slice (some ⟨q, 0, none⟩) n cap] 40) := ⟨_, rfl⟩
  obtain ⟨w1, hw1⟩ : ∃ w1, w1 = wa.alloc (Obj.cells #[.float .f64 0, .float .f64 0, .float .f64 0, .float .f64 0, .int .u8 0] 109) := ⟨_, rfl⟩
  rw [← hwa, ← hw1, ← hb2, ← hb]
  have hsa : wa.heap.size = w.heap.size + 1 := by rw [hwa]; show (w.heap.push _).size = _; rw [Array.size_push]
  have hs1 : w1.heap.size = w.heap.size + 2 := by rw [hw1]; show (wa.heap.push _).size = _; rw [Array.size_push, hsa]
  have hkp : Hid (Kp w w1) := by rw [hw1]; refine Kp.trans ?_ (Kp.alloc wa _); rw [hwa]; exact Kp.alloc w _
  have hB : w1.heap[b]? = some (.cells #[.int .u8 0, .slice (some ⟨q, 0, none⟩) n cap] 40 (0, 0)) := by rw [hw1, hb]; refine alloc_kept _ _ _ _ ?_; rw [hwa]; exact alloc_new w _
  have hB2 : w1.heap[b2]? = some (.cells #[.float .f64 0, .float .f64 0, .float .f64 0, .float .f64 0, .int .u8 0] 109 (0, 0)) := by rw [hw1, hb2, ← hsa]; exact alloc_new _ _
  have c0 : w1.cell? ⟨b, 0, none⟩ = some (.int .u8 0) := by rw [Lib.cell_of_heap hB]; rfl
  have c1 : w1.cell? ⟨b, 1, none⟩ = some (.slice (some ⟨q, 0, none⟩) n cap) := by rw [Lib.cell_of_heap hB]; rfl
  have hcl : ∀ j, j < 2 → w1.cell? ⟨q, k + j, none⟩ = some (.float .f64 (X j)) := fun j hj => by
    have h0 := hcell j hj
    obtain ⟨o, ho⟩ : ∃ o, w.heap[q]? = some o := ⟨_, Array.getElem?_eq_getElem hq⟩
    rw [cell_of_block' (by rw [ho]; exact hkp.out.ko _ _ ho)]
    exact h0
  have e0 : w1.cell? ⟨q, k, none⟩ = some (.float .f64 (X 0)) := hcl 0 (by omega)
  obtain ⟨k1, hk1⟩ : ∃ k', k' = k + 1 := ⟨_, rfl⟩
  have e1 : w1.cell? ⟨q, k1, none⟩ = some (.float .f64 (X 1)) := by rw [hk1]; exact hcl 1 (by omega)
  have hmul : (i : Int) * 2 = (k : Int) := by omega
  have hwm : IntKind.i64.wrap (k : Int) = (k : Int) := by rw [IntKind.wrap_i64]; omega
  have hk0 : (k : Int) < (n : Int) := by omega
  have hkz0 : (0 : Int) ≤ (k : Int) := by omega
  have hpl1 : (k : Int) + 1 = (k1 : Int) := by omega
  have hwp1 : IntKind.i64.wrap (k1 : Int) = (k1 : Int) := by rw [IntKind.wrap_i64]; omega
  have hkl1 : (k1 : Int) < (n : Int) := by omega
  have hkz1 : (0 : Int) ≤ (k1 : Int) := by omega
  clear hk1
  have HB := Lib.hid hB
  have HB2 := Lib.hid hB2
  have Hs1 := Lib.hid hs1
  have Hb2 := Lib.hid hb2
  have Hhb := Lib.hid hb
  have n0 := World.new_ne w1 ⟨b, 0, none⟩ c0
  have n1 := World.new_ne w1 ⟨q, k, none⟩ e0
  clear hB hB2 hcl hwa hw1 hsa hs1 hb hb2 hk hcell
  go_wp2_with fail
  refine (CD.out _).mono ?_
  rintro e w2 ⟨rfl, hw⟩
  obtain rfl := hw.symm
  rw [show ((wid 0 : Nat) : Int) = 2 from rfl]
  go_wp2_with fail
  have ga0 : (w1.alloc (Obj.cells #[.float .f64 0, .float .f64 0, .float .f64 0, .float .f64 0, .int .u8 0] 109)).drew.cell? ⟨w1.heap.size, 0, none⟩ = some (.float .f64 0) := (Lib.cell_of_heap (alloc_new w1 _) 0).trans rfl
  have gf0 : (w1.alloc (Obj.cells #[.float .f64 0, .float .f64 0, .float .f64 0, .float .f64 0, .int .u8 0] 109)).drew.frozen? ⟨w1.heap.size, 0, none⟩ = false := Lib.frozen_of_heap (alloc_new w1 _) 0
  have ga1 : (w1.alloc (Obj.cells #[.float .f64 0, .float .f64 0, .float .f64 0, .float .f64 0, .int .u8 0] 109)).drew.cell? ⟨w1.heap.size, 1, none⟩ = some (.float .f64 0) := (Lib.cell_of_heap (alloc_new w1 _) 1).trans rfl
  have gf1 : (w1.alloc (Obj.cells #[.float .f64 0, .float .f64 0, .float .f64 0, .float .f64 0, .int .u8 0] 109)).drew.frozen? ⟨w1.heap.size, 1, none⟩ = false := Lib.frozen_of_heap (alloc_new w1 _) 1
  have ga2 : (w1.alloc (Obj.cells #[.float .f64 0, .float .f64 0, .float .f64 0, .float .f64 0, .int .u8 0] 109)).drew.cell? ⟨w1.heap.size, 2, none⟩ = some (.float .f64 0) := (Lib.cell_of_heap (alloc_new w1 _) 2).trans rfl
  have gf2 : (w1.alloc (Obj.cells #[.float .f64 0, .float .f64 0, .float .f64 0, .float .f64 0, .int .u8 0] 109)).drew.frozen? ⟨w1.heap.size, 2, none⟩ = false := Lib.frozen_of_heap (alloc_new w1 _) 2
  have ga3 : (w1.alloc (Obj.cells #[.float .f64 0, .float .f64 0, .float .f64 0, .float .f64 0, .int .u8 0] 109)).drew.cell? ⟨w1.heap.size, 3, none⟩ = some (.float .f64 0) := (Lib.cell_of_heap (alloc_new w1 _) 3).trans rfl
  have gf3 : (w1.alloc (Obj.cells #[.float .f64 0, .float .f64 0, .float .f64 0, .float .f64 0, .int .u8 0] 109)).drew.frozen? ⟨w1.heap.size, 3, none⟩ = false := Lib.frozen_of_heap (alloc_new w1 _) 3
  have ga4 : (w1.alloc (Obj.cells #[.float .f64 0, .float .f64 0, .float .f64 0, .float .f64 0, .int .u8 0] 109)).drew.cell? ⟨w1.heap.size, 4, none⟩ = some (.int .u8 0) := (Lib.cell_of_heap (alloc_new w1 _) 4).trans rfl
  have gf4 : (w1.alloc (Obj.cells #[.float .f64 0, .float .f64 0, .float .f64 0, .float .f64 0, .int .u8 0] 109)).drew.frozen? ⟨w1.heap.size, 4, none⟩ = false := Lib.frozen_of_heap (alloc_new w1 _) 4
  have hsf : ∀ (W : World) (i x : Nat), Sem.run Tryz.prog (store ⟨w1.heap.size, i, none⟩ (.float .f64 x)) W = stored Tryz.prog W ⟨w1.heap.size, i, none⟩ (.float .f64 x) .plain := fun W i x => run_store _ _ _ _ _ rfl
  go_region_held3 (fun w' => w'.cell? ⟨b, 0, none⟩ = some (.int .u8 0) ∧ w'.cell? ⟨b, 1, none⟩ = some (.slice (some ⟨q, 0, none⟩) n cap) ∧ w'.cell? ⟨q, k, none⟩ = some (.float .f64 (X 0)) ∧ w'.cell? ⟨q, k1, none⟩ = some (.float .f64 (X 1))) (first | exact ⟨c0, c1, e0, e1⟩ | go_keep) (fail)
  obtain ⟨b3, hb3⟩ : ∃ b3, b3 = w1.heap.size := ⟨_, rfl⟩
  obtain ⟨w3, hw3⟩ : ∃ w3, w3 = (w1.alloc (Obj.cells #[.float .f64 (X 0), .float .f64 (X 1), .float .f64 0, .float .f64 0, .int .u8 0] 109)).drew := ⟨_, rfl⟩
  rw [← hw3, ← hb3]
  have hkp3 : Hid (Kp w1 w3) := by rw [hw3]; exact (Kp.alloc w1 _).drewN 1
  have hG3 : Hid (w3.heap[b3]? = some (.cells #[.float .f64 (X 0), .float .f64 (X 1), .float .f64 0, .float .f64 0, .int .u8 0] 109 (0, 0))) := by rw [hw3, hb3]; exact alloc_new w1 _
  have hG2 : Hid (w3.heap[b2]? = some (.cells #[.float .f64 0, .float .f64 0, .float .f64 0, .float .f64 0, .int .u8 0] 109 (0, 0))) := hkp3.out.ko _ _ HB2.out
  have hne : b3 ≠ b2 := by have h1 := Hb2.out; have h2 := Hs1.out; omega
  have Hb3 : Hid (w.heap.size ≤ b3) := by have h2 := Hs1.out; show _ ≤ b3; omega
  have d0 : w3.cell? ⟨b, 0, none⟩ = some (.int .u8 0) := by rw [Lib.cell_of_heap (hkp3.out.ko _ _ HB.out)]; rfl
  have d1 : w3.cell? ⟨b, 1, none⟩ = some (.slice (some ⟨q, 0, none⟩) n cap) := by rw [Lib.cell_of_heap (hkp3.out.ko _ _ HB.out)]; rfl
  have hbb3 : b ≠ b3 := by have h1 := Hhb.out; have h2 := Hs1.out; omega
  have hqb3 : q ≠ b3 := by have h2 := Hs1.out; omega
  have hqk : ∀ p v, w1.cell? ⟨q, p, none⟩ = some v → w3.cell? ⟨q, p, none⟩ = some v := fun p v h => by
    obtain ⟨o, ho⟩ : ∃ o, w1.heap[q]? = some o := ⟨_, Array.getElem?_eq_getElem (World.block_lt_of_cell? w1 ⟨q, p, none⟩ h)⟩
    rw [cell_of_block' (by rw [ho]; exact hkp3.out.ko _ _ ho)]; exact h
  have p0 : w3.cell? ⟨b3, 0, none⟩ = some (.float .f64 (X 0)) := by rw [Lib.cell_of_heap hG3.out]; rfl
  have pf0 := Lib.frozen_of_heap hG3.out 0
  have r0 : w3.cell? ⟨b2, 0, none⟩ = some (.float .f64 0) := by rw [Lib.cell_of_heap hG2.out]; rfl
  have rf0 := Lib.frozen_of_heap hG2.out 0
  have p1 : w3.cell? ⟨b3, 1, none⟩ = some (.float .f64 (X 1)) := by rw [Lib.cell_of_heap hG3.out]; rfl
  have pf1 := Lib.frozen_of_heap hG3.out 1
  have r1 : w3.cell? ⟨b2, 1, none⟩ = some (.float .f64 0) := by rw [Lib.cell_of_heap hG2.out]; rfl
  have rf1 := Lib.frozen_of_heap hG2.out 1
  have p2 : w3.cell? ⟨b3, 2, none⟩ = some (.float .f64 0) := by rw [Lib.cell_of_heap hG3.out]; rfl
  have pf2 := Lib.frozen_of_heap hG3.out 2
  have r2 : w3.cell? ⟨b2, 2, none⟩ = some (.float .f64 0) := by rw [Lib.cell_of_heap hG2.out]; rfl
  have rf2 := Lib.frozen_of_heap hG2.out 2
  have p3 : w3.cell? ⟨b3, 3, none⟩ = some (.float .f64 0) := by rw [Lib.cell_of_heap hG3.out]; rfl
  have pf3 := Lib.frozen_of_heap hG3.out 3
  have r3 : w3.cell? ⟨b2, 3, none⟩ = some (.float .f64 0) := by rw [Lib.cell_of_heap hG2.out]; rfl
  have rf3 := Lib.frozen_of_heap hG2.out 3
  have p4 : w3.cell? ⟨b3, 4, none⟩ = some (.int .u8 0) := by rw [Lib.cell_of_heap hG3.out]; rfl
  have pf4 := Lib.frozen_of_heap hG3.out 4
  have r4 : w3.cell? ⟨b2, 4, none⟩ = some (.int .u8 0) := by rw [Lib.cell_of_heap hG2.out]; rfl
  have rf4 := Lib.frozen_of_heap hG2.out 4
  have hsf3 : ∀ (W : World) (i x : Nat), Sem.run Tryz.prog (store ⟨b3, i, none⟩ (.float .f64 x)) W = stored Tryz.prog W ⟨b3, i, none⟩ (.float .f64 x) .plain := fun W i x => run_store _ _ _ _ _ rfl
  have hsf2 : ∀ (W : World) (i x : Nat), Sem.run Tryz.prog (store ⟨b2, i, none⟩ (.float .f64 x)) W = stored Tryz.prog W ⟨b2, i, none⟩ (.float .f64 x) .plain := fun W i x => run_store _ _ _ _ _ rfl
  clear hw3 hb3 hqk hsf ga0 ga1 ga2 ga3 ga4 gf0 gf1 gf2 gf3 gf4
  go_wp2_with fail
  have u0 : Hid (w3.heap[b2]? = some (.cells #[.float .f64 0, .float .f64 0, .float .f64 0, .float .f64 0, .int .u8 0] 109 (0, 0))) := hG2
  have x0 := hkp.out.trans hkp3.out
  have hb2w : w.heap.size ≤ b2 := by have h1 := Hb2.out; omega
  have y0 := Lib.heap_setCell_same (i := 0) u0.out (.float .f64 (X 0))
  have x1 := x0.set b2 0 hb2w (.float .f64 (X 0))
  have y1 := Lib.heap_setCell_same (i := 1) y0 (.float .f64 (X 1))
  have x2 := x1.set b2 1 hb2w (.float .f64 (X 1))
  have y2 := Lib.heap_setCell_same (i := 2) y1 (.float .f64 0)
  have x3 := x2.set b2 2 hb2w (.float .f64 0)
  have y3 := Lib.heap_setCell_same (i := 3) y2 (.float .f64 0)
  have x4 := x3.set b2 3 hb2w (.float .f64 0)
  have y4 := Lib.heap_setCell_same (i := 4) y3 (.int .u8 0)
  have x5 := x4.set b2 4 hb2w (.int .u8 0)
  exact ⟨rfl, _, results_cell_row rfl _ _ b2 109 (plc 0 X) (0, 0) (.struct (Tryz.prog.fieldsOf 109)) rfl y4 (by kernel_rfl) rfl (by kernel_rfl), rfl, x5⟩
set_option maxHeartbeats 2000000 in
set_option maxRecDepth 100000 in
theorem seq_get1 (q n cap k i : Nat) (X : Nat → Nat) (w : World) (hk : k = i * 3) (hn : k + 3 ≤ n) (hn2 : n ≤ 100000) (hcell : ∀ j, j < 3 → w.cell? ⟨q, k + j, none⟩ = some (.float .f64 (X j))) :
    Calls Tryz.prog 48 #[.agg #[.int .u8 1, .slice (some ⟨q, 0, none⟩) n cap], .int .i64 (i : Int)] w fun e w' => e = .returned (.agg (plc 1 X)) ∧ Kp w w' := by
  have hq : q < w.heap.size := World.block_lt_of_cell? w ⟨q, k + 0, none⟩ (hcell 0 (by omega))
  obtain ⟨b, hb⟩ : ∃ b, b = w.heap.size := ⟨_, rfl⟩
  obtain ⟨b2, hb2⟩ : ∃ b2, b2 = w.heap.size + 1 := ⟨_, rfl⟩
  have cD := fun W : World => dim_ok 1 (by omega) W
  have CD := Lib.hid cD
  clear cD
  go_enter Tryz.func48, Tryz.ntmps48
  go_upto_region 1 with fail
  obtain ⟨wa, hwa⟩ : ∃ wa, wa = w.alloc (Obj.cells #[.int .u8 1, .slice (some ⟨q, 0, none⟩) n cap] 40) := ⟨_, rfl⟩
  obtain ⟨w1, hw1⟩ : ∃ w1, w1 = wa.alloc (Obj.cells #[.float .f64 0, .float .f64 0, .float .f64 0, .float .f64 0, .int .u8 0] 109) := ⟨_, rfl⟩
  rw [← hwa, ← hw1, ← hb2, ← hb]
  have hsa : wa.heap.size = w.heap.size + 1 := by rw [hwa]; show (w.heap.push _).size = _; rw [Array.size_push]
  have hs1 : w1.heap.size = w.heap.size + 2 := by rw [hw1]; show (wa.heap.push _).size = _; rw [Array.size_push, hsa]
  have hkp : Hid (Kp w w1) := by rw [hw1]; refine Kp.trans ?_ (Kp.alloc wa _); rw [hwa]; exact Kp.alloc w _
  have hB : w1.heap[b]? = some (.cells #[.int .u8 1, .slice (some ⟨q, 0, none⟩) n cap] 40 (0, 0)) := by rw [hw1, hb]; refine alloc_kept _ _ _ _ ?_; rw [hwa]; exact alloc_new w _
  have hB2 : w1.heap[b2]? = some (.cells #[.float .f64 0, .float .f64 0, .float .f64 0, .float .f64 0, .int .u8 0] 109 (0, 0)) := by rw [hw1, hb2, ← hsa]; exact alloc_new _ _
  have c0 : w1.cell? ⟨b, 0, none⟩ = some (.int .u8 1) := by rw [Lib.cell_of_heap hB]; rfl
  have c1 : w1.cell? ⟨b, 1, none⟩ = some (.slice (some ⟨q, 0, none⟩) n cap) := by rw [Lib.cell_of_heap hB]; rfl
  have hcl : ∀ j, j < 3 → w1.cell? ⟨q, k + j, none⟩ = some (.float .f64 (X j)) := fun j hj => by
    have h0 := hcell j hj
    obtain ⟨o, ho⟩ : ∃ o, w.heap[q]? = some o := ⟨_, Array.getElem?_eq_getElem hq⟩
    rw [cell_of_block' (by rw [ho]; exact hkp.out.ko _ _ ho)]
    exact h0
  have e0 : w1.cell? ⟨q, k, none⟩ = some (.float .f64 (X 0)) := hcl 0 (by omega)
  obtain ⟨k1, hk1⟩ : ∃ k', k' = k + 1 := ⟨_, rfl⟩
  have e1 : w1.cell? ⟨q, k1, none⟩ = some (.float .f64 (X 1)) := by rw [hk1]; exact hcl 1 (by omega)
  obtain ⟨k2, hk2⟩ : ∃ k', k' = k + 2 := ⟨_, rfl⟩
  have e2 : w1.cell? ⟨q, k2, none⟩ = some (.float .f64 (X 2)) := by rw [hk2]; exact hcl 2 (by omega)
  have hmul : (i : Int) * 3 = (k : Int) := by omega
  have hwm : IntKind.i64.wrap (k : Int) = (k : Int) := by rw [IntKind.wrap_i64]; omega
  have hk0 : (k : Int) < (n : Int) := by omega
  have hkz0 : (0 : Int) ≤ (k : Int) := by omega
  have hpl1 : (k : Int) + 1 = (k1 : Int) := by omega
  have hwp1 : IntKind.i64.wrap (k1 : Int) = (k1 : Int) := by rw [IntKind.wrap_i64]; omega
  have hkl1 : (k1 : Int) < (n : Int) := by omega
  have hkz1 : (0 : Int) ≤ (k1 : Int) := by omega
  clear hk1
  have hpl2 : (k : Int) + 2 = (k2 : Int) := by omega
  have hwp2 : IntKind.i64.wrap (k2 : Int) = (k2 : Int) := by rw [IntKind.wrap_i64]; omega
  have hkl2 : (k2 : Int) < (n : Int) := by omega
  have hkz2 : (0 : Int) ≤ (k2 : Int) := by omega
  clear hk2
  have HB := Lib.hid hB
  have HB2 := Lib.hid hB2
  have Hs1 := Lib.hid hs1
  have Hb2 := Lib.hid hb2
  have Hhb := Lib.hid hb
  have n0 := World.new_ne w1 ⟨b, 0, none⟩ c0
  have n1 := World.new_ne w1 ⟨q, k, none⟩ e0
  clear hB hB2 hcl hwa hw1 hsa hs1 hb hb2 hk hcell
  go_wp2_with fail
  refine (CD.out _).mono ?_
  rintro e w2 ⟨rfl, hw⟩
  obtain rfl := hw.symm
  rw [show ((wid 1 : Nat) : Int) = 3 from rfl]
  go_wp2_with fail
  have ga0 : (w1.alloc (Obj.cells #[.float .f64 0, .float .f64 0, .float .f64 0, .float .f64 0, .int .u8 0] 109)).drew.cell? ⟨w1.heap.size, 0, none⟩ = some (.float .f64 0) := (Lib.cell_of_heap (alloc_new w1 _) 0).trans rfl
  have gf0 : (w1.alloc (Obj.cells #[.float .f64 0, .float .f64 0, .float .f64 0, .float .f64 0, .int .u8 0] 109)).drew.frozen? ⟨w1.heap.size, 0, none⟩ = false := Lib.frozen_of_heap (alloc_new w1 _) 0
  have ga1 : (w1.alloc (Obj.cells #[.float .f64 0, .float .f64 0, .float .f64 0, .float .f64 0, .int .u8 0] 109)).drew.cell? ⟨w1.heap.size, 1, none⟩ = some (.float .f64 0) := (Lib.cell_of_heap (alloc_new w1 _) 1).trans rfl
  have gf1 : (w1.alloc (Obj.cells #[.float .f64 0, .float .f64 0, .float .f64 0, .float .f64 0, .int .u8 0] 109)).drew.frozen? ⟨w1.heap.size, 1, none⟩ = false := Lib.frozen_of_heap (alloc_new w1 _) 1
  have ga2 : (w1.alloc (Obj.cells #[.float .f64 0, .float .f64 0, .float .f64 0, .float .f64 0, .int .u8 0] 109)).drew.cell? ⟨w1.heap.size, 2, none⟩ = some (.float .f64 0) := (Lib.cell_of_heap (alloc_new w1 _) 2).trans rfl
  have gf2 : (w1.alloc (Obj.cells #[.float .f64 0, .float .f64 0, .float .f64 0, .float .f64 0, .int .u8 0] 109)).drew.frozen? ⟨w1.heap.size, 2, none⟩ = false := Lib.frozen_of_heap (alloc_new w1 _) 2
  have ga3 : (w1.alloc (Obj.cells #[.float .f64 0, .float .f64 0, .float .f64 0, .float .f64 0, .int .u8 0] 109)).drew.cell? ⟨w1.heap.size, 3, none⟩ = some (.float .f64 0) := (Lib.cell_of_heap (alloc_new w1 _) 3).trans rfl
  have gf3 : (w1.alloc (Obj.cells #[.float .f64 0, .float .f64 0, .float .f64 0, .float .f64 0, .int .u8 0] 109)).drew.frozen? ⟨w1.heap.size, 3, none⟩ = false := Lib.frozen_of_heap (alloc_new w1 _) 3
  have ga4 : (w1.alloc (Obj.cells #[.float .f64 0, .float .f64 0, .float .f64 0, .float .f64 0, .int .u8 0] 109)).drew.cell? ⟨w1.heap.size, 4, none⟩ = some (.int .u8 0) := (Lib.cell_of_heap (alloc_new w1 _) 4).trans rfl
  have gf4 : (w1.alloc (Obj.cells #[.float .f64 0, .float .f64 0, .float .f64 0, .float .f64 0, .int .u8 0] 109)).drew.frozen? ⟨w1.heap.size, 4, none⟩ = false := Lib.frozen_of_heap (alloc_new w1 _) 4
  have hsf : ∀ (W : World) (i x : Nat), Sem.run Tryz.prog (store ⟨w1.heap.size, i, none⟩ (.float .f64 x)) W = stored Tryz.prog W ⟨w1.heap.size, i, none⟩ (.float .f64 x) .plain := fun W i x => run_store _ _ _ _ _ rfl
  go_region_held3 (fun w' => w'.cell? ⟨b, 0, none⟩ = some (.int .u8 1) ∧ w'.cell? ⟨b, 1, none⟩ = some (.slice (some ⟨q, 0, none⟩) n cap) ∧ w'.cell? ⟨q, k, none⟩ = some (.float .f64 (X 0)) ∧ w'.cell? ⟨q, k1, none⟩ = some (.float .f64 (X 1))) (first | exact ⟨c0, c1, e0, e1⟩ | go_keep) (fail)
  obtain ⟨b3, hb3⟩ : ∃ b3, b3 = w1.heap.size := ⟨_, rfl⟩
  obtain ⟨w3, hw3⟩ : ∃ w3, w3 = (w1.alloc (Obj.cells #[.float .f64 (X 0), .float .f64 (X 1), .float .f64 0, .float .f64 0, .int .u8 1] 109)).drew := ⟨_, rfl⟩
  rw [← hw3, ← hb3]
  have hkp3 : Hid (Kp w1 w3) := by rw [hw3]; exact (Kp.alloc w1 _).drewN 1
  have hG3 : Hid (w3.heap[b3]? = some (.cells #[.float .f64 (X 0), .float .f64 (X 1), .float .f64 0, .float .f64 0, .int .u8 1] 109 (0, 0))) := by rw [hw3, hb3]; exact alloc_new w1 _
  have hG2 : Hid (w3.heap[b2]? = some (.cells #[.float .f64 0, .float .f64 0, .float .f64 0, .float .f64 0, .int .u8 0] 109 (0, 0))) := hkp3.out.ko _ _ HB2.out
  have hne : b3 ≠ b2 := by have h1 := Hb2.out; have h2 := Hs1.out; omega
  have Hb3 : Hid (w.heap.size ≤ b3) := by have h2 := Hs1.out; show _ ≤ b3; omega
  have d0 : w3.cell? ⟨b, 0, none⟩ = some (.int .u8 1) := by rw [Lib.cell_of_heap (hkp3.out.ko _ _ HB.out)]; rfl
  have d1 : w3.cell? ⟨b, 1, none⟩ = some (.slice (some ⟨q, 0, none⟩) n cap) := by rw [Lib.cell_of_heap (hkp3.out.ko _ _ HB.out)]; rfl
  have hbb3 : b ≠ b3 := by have h1 := Hhb.out; have h2 := Hs1.out; omega
  have hqb3 : q ≠ b3 := by have h2 := Hs1.out; omega
  have hqk : ∀ p v, w1.cell? ⟨q, p, none⟩ = some v → w3.cell? ⟨q, p, none⟩ = some v := fun p v h => by
    obtain ⟨o, ho⟩ : ∃ o, w1.heap[q]? = some o := ⟨_, Array.getElem?_eq_getElem (World.block_lt_of_cell? w1 ⟨q, p, none⟩ h)⟩
    rw [cell_of_block' (by rw [ho]; exact hkp3.out.ko _ _ ho)]; exact h
  have m2 : w3.cell? ⟨q, k2, none⟩ = some (.float .f64 (X 2)) := hqk _ _ e2
  have p0 : w3.cell? ⟨b3, 0, none⟩ = some (.float .f64 (X 0)) := by rw [Lib.cell_of_heap hG3.out]; rfl
  have pf0 := Lib.frozen_of_heap hG3.out 0
  have r0 : w3.cell? ⟨b2, 0, none⟩ = some (.float .f64 0) := by rw [Lib.cell_of_heap hG2.out]; rfl
  have rf0 := Lib.frozen_of_heap hG2.out 0
  have p1 : w3.cell? ⟨b3, 1, none⟩ = some (.float .f64 (X 1)) := by rw [Lib.cell_of_heap hG3.out]; rfl
  have pf1 := Lib.frozen_of_heap hG3.out 1
  have r1 : w3.cell? ⟨b2, 1, none⟩ = some (.float .f64 0) := by rw [Lib.cell_of_heap hG2.out]; rfl
  have rf1 := Lib.frozen_of_heap hG2.out 1
  have p2 : w3.cell? ⟨b3, 2, none⟩ = some (.float .f64 0) := by rw [Lib.cell_of_heap hG3.out]; rfl
  have pf2 := Lib.frozen_of_heap hG3.out 2
  have r2 : w3.cell? ⟨b2, 2, none⟩ = some (.float .f64 0) := by rw [Lib.cell_of_heap hG2.out]; rfl
  have rf2 := Lib.frozen_of_heap hG2.out 2
  have p3 : w3.cell? ⟨b3, 3, none⟩ = some (.float .f64 0) := by rw [Lib.cell_of_heap hG3.out]; rfl
  have pf3 := Lib.frozen_of_heap hG3.out 3
  have r3 : w3.cell? ⟨b2, 3, none⟩ = some (.float .f64 0) := by rw [Lib.cell_of_heap hG2.out]; rfl
  have rf3 := Lib.frozen_of_heap hG2.out 3
  have p4 : w3.cell? ⟨b3, 4, none⟩ = some (.int .u8 1) := by rw [Lib.cell_of_heap hG3.out]; rfl
  have pf4 := Lib.frozen_of_heap hG3.out 4
  have r4 : w3.cell? ⟨b2, 4, none⟩ = some (.int .u8 0) := by rw [Lib.cell_of_heap hG2.out]; rfl
  have rf4 := Lib.frozen_of_heap hG2.out 4
  have hsf3 : ∀ (W : World) (i x : Nat), Sem.run Tryz.prog (store ⟨b3, i, none⟩ (.float .f64 x)) W = stored Tryz.prog W ⟨b3, i, none⟩ (.float .f64 x) .plain := fun W i x => run_store _ _ _ _ _ rfl
  have hsf2 : ∀ (W : World) (i x : Nat), Sem.run Tryz.prog (store ⟨b2, i, none⟩ (.float .f64 x)) W = stored Tryz.prog W ⟨b2, i, none⟩ (.float .f64 x) .plain := fun W i x => run_store _ _ _ _ _ rfl
  clear hw3 hb3 hqk hsf ga0 ga1 ga2 ga3 ga4 gf0 gf1 gf2 gf3 gf4
  go_wp2_with fail
  have u0 : Hid (w3.heap[b2]? = some (.cells #[.float .f64 0, .float .f64 0, .float .f64 0, .float .f64 0, .int .u8 0] 109 (0, 0))) := hG2
  have x0 := hkp.out.trans hkp3.out
  have u1 : Hid ((w3.setCell ⟨b3, 2, none⟩ (.float .f64 (X 2))).heap[b2]? = some (.cells #[.float .f64 0, .float .f64 0, .float .f64 0, .float .f64 0, .int .u8 0] 109 (0, 0))) := by rw [Hid, Below.heap_setCell _ _ _ _ (Ne.symm hne)]; exact u0.out
  have x1 := x0.set b3 2 Hb3.out (.float .f64 (X 2))
  have hb2w : w.heap.size ≤ b2 := by have h1 := Hb2.out; omega
  have y0 := Lib.heap_setCell_same (i := 0) u1.out (.float .f64 (X 0))
  have x2 := x1.set b2 0 hb2w (.float .f64 (X 0))
  have y1 := Lib.heap_setCell_same (i := 1) y0 (.float .f64 (X 1))
  have x3 := x2.set b2 1 hb2w (.float .f64 (X 1))
  have y2 := Lib.heap_setCell_same (i := 2) y1 (.float .f64 (X 2))
  have x4 := x3.set b2 2 hb2w (.float .f64 (X 2))
  have y3 := Lib.heap_setCell_same (i := 3) y2 (.float .f64 0)
  have x5 := x4.set b2 3 hb2w (.float .f64 0)
  have y4 := Lib.heap_setCell_same (i := 4) y3 (.int .u8 1)
  have x6 := x5.set b2 4 hb2w (.int .u8 1)
  exact ⟨rfl, _, results_cell_row rfl _ _ b2 109 (plc 1 X) (0, 0) (.struct (Tryz.prog.fieldsOf 109)) rfl y4 (by kernel_rfl) rfl (by kernel_rfl), rfl, x6⟩
set_option maxHeartbeats 2000000 in
set_option maxRecDepth 100000 in
theorem seq_get2 (q n cap k i : Nat) (X : Nat → Nat) (w : World) (hk : k = i * 3) (hn : k + 3 ≤ n) (hn2 : n ≤ 100000) (hcell : ∀ j, j < 3 → w.cell? ⟨q, k + j, none⟩ = some (.float .f64 (X j))) :
    Calls Tryz.prog 48 #[.agg #[.int .u8 2, .slice (some ⟨q, 0, none⟩) n cap], .int .i64 (i : Int)] w fun e w' => e = .returned (.agg (plc 2 X)) ∧ Kp w w' := by
  have hq : q < w.heap.size := World.block_lt_of_cell? w ⟨q, k + 0, none⟩ (hcell 0 (by omega))
  obtain ⟨b, hb⟩ : ∃ b, b = w.heap.size := ⟨_, rfl⟩
  obtain ⟨b2, hb2⟩ : ∃ b2, b2 = w.heap.size + 1 := ⟨_, rfl⟩
  have cD := fun W : World => dim_ok 2 (by omega) W
  have CD := Lib.hid cD
  clear cD
  go_enter Tryz.func48, Tryz.ntmps48
  go_upto_region 1 with fail
  obtain ⟨wa, hwa⟩ : ∃ wa, wa = w.alloc (Obj.cells #[.int .u8 2, .slice (some ⟨q, 0, none⟩) n cap] 40) := ⟨_, rfl⟩
  obtain ⟨w1, hw1⟩ : ∃ w1, w1 = wa.alloc (Obj.cells #[.float .f64 0, .float .f64 0, .float .f64 0, .float .f64 0, .int .u8 0] 109) := ⟨_, rfl⟩
  rw [← hwa, ← hw1, ← hb2, ← hb]
  have hsa : wa.heap.size = w.heap.size + 1 := by rw [hwa]; show (w.heap.push _).size = _; rw [Array.size_push]
  have hs1 : w1.heap.size = w.heap.size + 2 := by rw [hw1]; show (wa.heap.push _).size = _; rw [Array.size_push, hsa]
  have hkp : Hid (Kp w w1) := by rw [hw1]; refine Kp.trans ?_ (Kp.alloc wa _); rw [hwa]; exact Kp.alloc w _
  have hB : w1.heap[b]? = some (.cells #[.int .u8 2, .slice (some ⟨q, 0, none⟩) n cap] 40 (0, 0)) := by rw [hw1, hb]; refine alloc_kept _ _ _ _ ?_; rw [hwa]; exact alloc_new w _
  have hB2 : w1.heap[b2]? = some (.cells #[.float .f64 0, .float .f64 0, .float .f64 0, .float .f64 0, .int .u8 0] 109 (0, 0)) := by rw [hw1, hb2, ← hsa]; exact alloc_new _ _
  have c0 : w1.cell? ⟨b, 0, none⟩ = some (.int .u8 2) := by rw [Lib.cell_of_heap hB]; rfl
  have c1 : w1.cell? ⟨b, 1, none⟩ = some (.slice (some ⟨q, 0, none⟩) n cap) := by rw [Lib.cell_of_heap hB]; rfl
  have hcl : ∀ j, j < 3 → w1.cell? ⟨q, k + j, none⟩ = some (.float .f64 (X j)) := fun j hj => by
    have h0 := hcell j hj
    obtain ⟨o, ho⟩ : ∃ o, w.heap[q]? = some o := ⟨_, Array.getElem?_eq_getElem hq⟩
    rw [cell_of_block' (by rw [ho]; exact hkp.out.ko _ _ ho)]
    exact h0
  have e0 : w1.cell? ⟨q, k, none⟩ = some (.float .f64 (X 0)) := hcl 0 (by omega)
  obtain ⟨k1, hk1⟩ : ∃ k', k' = k + 1 := ⟨_, rfl⟩
  have e1 : w1.cell? ⟨q, k1, none⟩ = some (.float .f64 (X 1)) := by rw [hk1]; exact hcl 1 (by omega)
  obtain ⟨k2, hk2⟩ : ∃ k', k' = k + 2 := ⟨_, rfl⟩
  have e2 : w1.cell? ⟨q, k2, none⟩ = some (.float .f64 (X 2)) := by rw [hk2]; exact hcl 2 (by omega)
  have hmul : (i : Int) * 3 = (k : Int) := by omega
  have hwm : IntKind.i64.wrap (k : Int) = (k : Int) := by rw [IntKind.wrap_i64]; omega
  have hk0 : (k : Int) < (n : Int) := by omega
  have hkz0 : (0 : Int) ≤ (k : Int) := by omega
  have hpl1 : (k : Int) + 1 = (k1 : Int) := by omega
  have hwp1 : IntKind.i64.wrap (k1 : Int) = (k1 : Int) := by rw [IntKind.wrap_i64]; omega
  have hkl1 : (k1 : Int) < (n : Int) := by omega
  have hkz1 : (0 : Int) ≤ (k1 : Int) := by omega
  clear hk1
  have hpl2 : (k : Int) + 2 = (k2 : Int) := by omega
  have hwp2 : IntKind.i64.wrap (k2 : Int) = (k2 : Int) := by rw [IntKind.wrap_i64]; omega
  have hkl2 : (k2 : Int) < (n : Int) := by omega
  have hkz2 : (0 : Int) ≤ (k2 : Int) := by omega
  clear hk2
  have HB := Lib.hid hB
  have HB2 := Lib.hid hB2
  have Hs1 := Lib.hid hs1
  have Hb2 := Lib.hid hb2
  have Hhb := Lib.hid hb
  have n0 := World.new_ne w1 ⟨b, 0, none⟩ c0
  have n1 := World.new_ne w1 ⟨q, k, none⟩ e0
  clear hB hB2 hcl hwa hw1 hsa hs1 hb hb2 hk hcell
  go_wp2_with fail
  refine (CD.out _).mono ?_
  rintro e w2 ⟨rfl, hw⟩
  obtain rfl := hw.symm
  rw [show ((wid 2 : Nat) : Int) = 3 from rfl]
  go_wp2_with fail
  have ga0 : (w1.alloc (Obj.cells #[.float .f64 0, .float .f64 0, .float .f64 0, .float .f64 0, .int .u8 0] 109)).drew.cell? ⟨w1.heap.size, 0, none⟩ = some (.float .f64 0) := (Lib.cell_of_heap (alloc_new w1 _) 0).trans rfl
  have gf0 : (w1.alloc (Obj.cells #[.float .f64 0, .float .f64 0, .float .f64 0, .float .f64 0, .int .u8 0] 109)).drew.frozen? ⟨w1.heap.size, 0, none⟩ = false := Lib.frozen_of_heap (alloc_new w1 _) 0
  have ga1 : (w1.alloc (Obj.cells #[.float .f64 0, .float .f64 0, .float .f64 0, .float .f64 0, .int .u8 0] 109)).drew.cell? ⟨w1.heap.size, 1, none⟩ = some (.float .f64 0) := (Lib.cell_of_heap (alloc_new w1 _) 1).trans rfl
  have gf1 : (w1.alloc (Obj.cells #[.float .f64 0, .float .f64 0, .float .f64 0, .float .f64 0, .int .u8 0] 109)).drew.frozen? ⟨w1.heap.size, 1, none⟩ = false := Lib.frozen_of_heap (alloc_new w1 _) 1
  have ga2 : (w1.alloc (Obj.cells #[.float .f64 0, .float .f64 0, .float .f64 0, .float .f64 0, .int .u8 0] 109)).drew.cell? ⟨w1.heap.size, 2, none⟩ = some (.float .f64 0) := (Lib.cell_of_heap (alloc_new w1 _) 2).trans rfl
  have gf2 : (w1.alloc (Obj.cells #[.float .f64 0, .float .f64 0, .float .f64 0, .float .f64 0, .int .u8 0] 109)).drew.frozen? ⟨w1.heap.size, 2, none⟩ = false := Lib.frozen_of_heap (alloc_new w1 _) 2
  have ga3 : (w1.alloc (Obj.cells #[.float .f64 0, .float .f64 0, .float .f64 0, .float .f64 0, .int .u8 0] 109)).drew.cell? ⟨w1.heap.size, 3, none⟩ = some (.float .f64 0) := (Lib.cell_of_heap (alloc_new w1 _) 3).trans rfl
  have gf3 : (w1.alloc (Obj.cells #[.float .f64 0, .float .f64 0, .float .f64 0, .float .f64 0, .int .u8 0] 109)).drew.frozen? ⟨w1.heap.size, 3, none⟩ = false := Lib.frozen_of_heap (alloc_new w1 _) 3
  have ga4 : (w1.alloc (Obj.cells #[.float .f64 0, .float .f64 0, .float .f64 0, .float .f64 0, .int .u8 0] 109)).drew.cell? ⟨w1.heap.size, 4, none⟩ = some (.int .u8 0) := (Lib.cell_of_heap (alloc_new w1 _) 4).trans rfl
  have gf4 : (w1.alloc (Obj.cells #[.float .f64 0, .float .f64 0, .float .f64 0, .float .f64 0, .int .u8 0] 109)).drew.frozen? ⟨w1.heap.size, 4, none⟩ = false := Lib.frozen_of_heap (alloc_new w1 _) 4
  have hsf : ∀ (W : World) (i x : Nat), Sem.run Tryz.prog (store ⟨w1.heap.size, i, none⟩ (.float .f64 x)) W = stored Tryz.prog W ⟨w1.heap.size, i, none⟩ (.float .f64 x) .plain := fun W i x => run_store _ _ _ _ _ rfl
  go_region_held3 (fun w' => w'.cell? ⟨b, 0, none⟩ = some (.int .u8 2) ∧ w'.cell? ⟨b, 1, none⟩ = some (.slice (some ⟨q, 0, none⟩) n cap) ∧ w'.cell? ⟨q, k, none⟩ = some (.float .f64 (X 0)) ∧ w'.cell? ⟨q, k1, none⟩ = some (.float .f64 (X 1))) (first | exact ⟨c0, c1, e0, e1⟩ | go_keep) (fail)
  obtain ⟨b3, hb3⟩ : ∃ b3, b3 = w1.heap.size := ⟨_, rfl⟩
  obtain ⟨w3, hw3⟩ : ∃ w3, w3 = (w1.alloc (Obj.cells #[.float .f64 (X 0), .float .f64 (X 1), .float .f64 0, .float .f64 0, .int .u8 2] 109)).drew := ⟨_, rfl⟩
  rw [← hw3, ← hb3]
  have hkp3 : Hid (Kp w1 w3) := by rw [hw3]; exact (Kp.alloc w1 _).drewN 1
  have hG3 : Hid (w3.heap[b3]? = some (.cells #[.float .f64 (X 0), .float .f64 (X 1), .float .f64 0, .float .f64 0, .int .u8 2] 109 (0, 0))) := by rw [hw3, hb3]; exact alloc_new w1 _
  have hG2 : Hid (w3.heap[b2]? = some (.cells #[.float .f64 0, .float .f64 0, .float .f64 0, .float .f64 0, .int .u8 0] 109 (0, 0))) := hkp3.out.ko _ _ HB2.out
  have hne : b3 ≠ b2 := by have h1 := Hb2.out; have h2 := Hs1.out; omega
  have Hb3 : Hid (w.heap.size ≤ b3) := by have h2 := Hs1.out; show _ ≤ b3; omega
  have d0 : w3.cell? ⟨b, 0, none⟩ = some (.int .u8 2) := by rw [Lib.cell_of_heap (hkp3.out.ko _ _ HB.out)]; rfl
  have d1 : w3.cell? ⟨b, 1, none⟩ = some (.slice (some ⟨q, 0, none⟩) n cap) := by rw [Lib.cell_of_heap (hkp3.out.ko _ _ HB.out)]; rfl
  have hbb3 : b ≠ b3 := by have h1 := Hhb.out; have h2 := Hs1.out; omega
  have hqb3 : q ≠ b3 := by have h2 := Hs1.out; omega
  have hqk : ∀ p v, w1.cell? ⟨q, p, none⟩ = some v → w3.cell? ⟨q, p, none⟩ = some v := fun p v h => by
    obtain ⟨o, ho⟩ : ∃ o, w1.heap[q]? = some o := ⟨_, Array.getElem?_eq_getElem (World.block_lt_of_cell? w1 ⟨q, p, none⟩ h)⟩
    rw [cell_of_block' (by rw [ho]; exact hkp3.out.ko _ _ ho)]; exact h
  have m2 : w3.cell? ⟨q, k2, none⟩ = some (.float .f64 (X 2)) := hqk _ _ e2
  have p0 : w3.cell? ⟨b3, 0, none⟩ = some (.float .f64 (X 0)) := by rw [Lib.cell_of_heap hG3.out]; rfl
  have pf0 := Lib.frozen_of_heap hG3.out 0
  have r0 : w3.cell? ⟨b2, 0, none⟩ = some (.float .f64 0) := by rw [Lib.cell_of_heap hG2.out]; rfl
  have rf0 := Lib.frozen_of_heap hG2.out 0
  have p1 : w3.cell? ⟨b3, 1, none⟩ = some (.float .f64 (X 1)) := by rw [Lib.cell_of_heap hG3.out]; rfl
  have pf1 := Lib.frozen_of_heap hG3.out 1
  have r1 : w3.cell? ⟨b2, 1, none⟩ = some (.float .f64 0) := by rw [Lib.cell_of_heap hG2.out]; rfl
  have rf1 := Lib.frozen_of_heap hG2.out 1
  have p2 : w3.cell? ⟨b3, 2, none⟩ = some (.float .f64 0) := by rw [Lib.cell_of_heap hG3.out]; rfl
  have pf2 := Lib.frozen_of_heap hG3.out 2
  have r2 : w3.cell? ⟨b2, 2, none⟩ = some (.float .f64 0) := by rw [Lib.cell_of_heap hG2.out]; rfl
  have rf2 := Lib.frozen_of_heap hG2.out 2
  have p3 : w3.cell? ⟨b3, 3, none⟩ = some (.float .f64 0) := by rw [Lib.cell_of_heap hG3.out]; rfl
  have pf3 := Lib.frozen_of_heap hG3.out 3
  have r3 : w3.cell? ⟨b2, 3, none⟩ = some (.float .f64 0) := by rw [Lib.cell_of_heap hG2.out]; rfl
  have rf3 := Lib.frozen_of_heap hG2.out 3
  have p4 : w3.cell? ⟨b3, 4, none⟩ = some (.int .u8 2) := by rw [Lib.cell_of_heap hG3.out]; rfl
  have pf4 := Lib.frozen_of_heap hG3.out 4
  have r4 : w3.cell? ⟨b2, 4, none⟩ = some (.int .u8 0) := by rw [Lib.cell_of_heap hG2.out]; rfl
  have rf4 := Lib.frozen_of_heap hG2.out 4
  have hsf3 : ∀ (W : World) (i x : Nat), Sem.run Tryz.prog (store ⟨b3, i, none⟩ (.float .f64 x)) W = stored Tryz.prog W ⟨b3, i, none⟩ (.float .f64 x) .plain := fun W i x => run_store _ _ _ _ _ rfl
  have hsf2 : ∀ (W : World) (i x : Nat), Sem.run Tryz.prog (store ⟨b2, i, none⟩ (.float .f64 x)) W = stored Tryz.prog W ⟨b2, i, none⟩ (.float .f64 x) .plain := fun W i x => run_store _ _ _ _ _ rfl
  clear hw3 hb3 hqk hsf ga0 ga1 ga2 ga3 ga4 gf0 gf1 gf2 gf3 gf4
  go_wp2_with fail
  have u0 : Hid (w3.heap[b2]? = some (.cells #[.float .f64 0, .float .f64 0, .float .f64 0, .float .f64 0, .int .u8 0] 109 (0, 0))) := hG2
  have x0 := hkp.out.trans hkp3.out
  have u1 : Hid ((w3.setCell ⟨b3, 3, none⟩ (.float .f64 (X 2))).heap[b2]? = some (.cells #[.float .f64 0, .float .f64 0, .float .f64 0, .float .f64 0, .int .u8 0] 109 (0, 0))) := by rw [Hid, Below.heap_setCell _ _ _ _ (Ne.symm hne)]; exact u0.out
  have x1 := x0.set b3 3 Hb3.out (.float .f64 (X 2))
  have hb2w : w.heap.size ≤ b2 := by have h1 := Hb2.out; omega
  have y0 := Lib.heap_setCell_same (i := 0) u1.out (.float .f64 (X 0))
  have x2 := x1.set b2 0 hb2w (.float .f64 (X 0))
  have y1 := Lib.heap_setCell_same (i := 1) y0 (.float .f64 (X 1))
  have x3 := x2.set b2 1 hb2w (.float .f64 (X 1))
  have y2 := Lib.heap_setCell_same (i := 2) y1 (.float .f64 0)
  have x4 := x3.set b2 2 hb2w (.float .f64 0)
  have y3 := Lib.heap_setCell_same (i := 3) y2 (.float .f64 (X 2))
  have x5 := x4.set b2 3 hb2w (.float .f64 (X 2))
  have y4 := Lib.heap_setCell_same (i := 4) y3 (.int .u8 2)
  have x6 := x5.set b2 4 hb2w (.int .u8 2)
  exact ⟨rfl, _, results_cell_row rfl _ _ b2 109 (plc 2 X) (0, 0) (.struct (Tryz.prog.fieldsOf 109)) rfl y4 (by kernel_rfl) rfl (by kernel_rfl), rfl, x6⟩
set_option maxHeartbeats 2000000 in
set_option maxRecDepth 100000 in
theorem seq_get3 (q n cap k i : Nat) (X : Nat → Nat) (w : World) (hk : k = i * 4) (hn : k + 4 ≤ n) (hn2 : n ≤ 100000) (hcell : ∀ j, j < 4 → w.cell? ⟨q, k + j, none⟩ = some (.float .f64 (X j))) :
    Calls Tryz.prog 48 #[.agg #[.int .u8 3, .slice (some ⟨q, 0, none⟩) n cap], .int .i64 (i : Int)] w fun e w' => e = .returned (.agg (plc 3 X)) ∧ Kp w w' := by
  have hq : q < w.heap.size := World.block_lt_of_cell? w ⟨q, k + 0, none⟩ (hcell 0 (by omega))
  obtain ⟨b, hb⟩ : ∃ b, b = w.heap.size := ⟨_, rfl⟩
  obtain ⟨b2, hb2⟩ : ∃ b2, b2 = w.heap.size + 1 := ⟨_, rfl⟩
  have cD := fun W : World => dim_ok 3 (by omega) W
  have CD := Lib.hid cD
  clear cD
  go_enter Tryz.func48, Tryz.ntmps48
  go_upto_region 1 with fail
  obtain ⟨wa, hwa⟩ : ∃ wa, wa = w.alloc (Obj.cells #[.int .u8 3, .slice (some ⟨q, 0, none⟩) n cap] 40) := ⟨_, rfl⟩
  obtain ⟨w1, hw1⟩ : ∃ w1, w1 = wa.alloc (Obj.cells #[.float .f64 0, .float .f64 0, .float .f64 0, .float .f64 0, .int .u8 0] 109) := ⟨_, rfl⟩
  rw [← hwa, ← hw1, ← hb2, ← hb]
  have hsa : wa.heap.size = w.heap.size + 1 := by rw [hwa]; show (w.heap.push _).size = _; rw [Array.size_push]
  have hs1 : w1.heap.size = w.heap.size + 2 := by rw [hw1]; show (wa.heap.push _).size = _; rw [Array.size_push, hsa]
  have hkp : Hid (Kp w w1) := by rw [hw1]; refine Kp.trans ?_ (Kp.alloc wa _); rw [hwa]; exact Kp.alloc w _
  have hB : w1.heap[b]? = some (.cells #[.int .u8 3, .slice (some ⟨q, 0, none⟩) n cap] 40 (0, 0)) := by rw [hw1, hb]; refine alloc_kept _ _ _ _ ?_; rw [hwa]; exact alloc_new w _
  have hB2 : w1.heap[b2]? = some (.cells #[.float .f64 0, .float .f64 0, .float .f64 0, .float .f64 0, .int .u8 0] 109 (0, 0)) := by rw [hw1, hb2, ← hsa]; exact alloc_new _ _
  have c0 : w1.cell? ⟨b, 0, none⟩ = some (.int .u8 3) := by rw [Lib.cell_of_heap hB]; rfl
  have c1 : w1.cell? ⟨b, 1, none⟩ = some (.slice (some ⟨q, 0, none⟩) n cap) := by rw [Lib.cell_of_heap hB]; rfl
  have hcl : ∀ j, j < 4 → w1.cell? ⟨q, k + j, none⟩ = some (.float .f64 (X j)) := fun j hj => by
    have h0 := hcell j hj
    obtain ⟨o, ho⟩ : ∃ o, w.heap[q]? = some o := ⟨_, Array.getElem?_eq_getElem hq⟩
    rw [cell_of_block' (by rw [ho]; exact hkp.out.ko _ _ ho)]
    exact h0
  have e0 : w1.cell? ⟨q, k, none⟩ = some (.float .f64 (X 0)) := hcl 0 (by omega)
  obtain ⟨k1, hk1⟩ : ∃ k', k' = k + 1 := ⟨_, rfl⟩
  have e1 : w1.cell? ⟨q, k1, none⟩ = some (.float .f64 (X 1)) := by rw [hk1]; exact hcl 1 (by omega)
  obtain ⟨k2, hk2⟩ : ∃ k', k' = k + 2 := ⟨_, rfl⟩
  have e2 : w1.cell? ⟨q, k2, none⟩ = some (.float .f64 (X 2)) := by rw [hk2]; exact hcl 2 (by omega)
  obtain ⟨k3, hk3⟩ : ∃ k', k' = k + 3 := ⟨_, rfl⟩
  have e3 : w1.cell? ⟨q, k3, none⟩ = some (.float .f64 (X 3)) := by rw [hk3]; exact hcl 3 (by omega)
  have hmul : (i : Int) * 4 = (k : Int) := by omega
  have hwm : IntKind.i64.wrap (k : Int) = (k : Int) := by rw [IntKind.wrap_i64]; omega
  have hk0 : (k : Int) < (n : Int) := by omega
  have hkz0 : (0 : Int) ≤ (k : Int) := by omega
  have hpl1 : (k : Int) + 1 = (k1 : Int) := by omega
  have hwp1 : IntKind.i64.wrap (k1 : Int) = (k1 : Int) := by rw [IntKind.wrap_i64]; omega
  have hkl1 : (k1 : Int) < (n : Int) := by omega
  have hkz1 : (0 : Int) ≤ (k1 : Int) := by omega
  clear hk1
  have hpl2 : (k : Int) + 2 = (k2 : Int) := by omega
  have hwp2 : IntKind.i64.wrap (k2 : Int) = (k2 : Int) := by rw [IntKind.wrap_i64]; omega
  have hkl2 : (k2 : Int) < (n : Int) := by omega
  have hkz2 : (0 : Int) ≤ (k2 : Int) := by omega
  clear hk2
  have hpl3 : (k : Int) + 3 = (k3 : Int) := by omega
  have hwp3 : IntKind.i64.wrap (k3 : Int) = (k3 : Int) := by rw [IntKind.wrap_i64]; omega
  have hkl3 : (k3 : Int) < (n : Int) := by omega
  have hkz3 : (0 : Int) ≤ (k3 : Int) := by omega
  clear hk3
  have HB := Lib.hid hB
  have HB2 := Lib.hid hB2
  have Hs1 := Lib.hid hs1
  have Hb2 := Lib.hid hb2
  have Hhb := Lib.hid hb
  have n0 := World.new_ne w1 ⟨b, 0, none⟩ c0
  have n1 := World.new_ne w1 ⟨q, k, none⟩ e0
  clear hB hB2 hcl hwa hw1 hsa hs1 hb hb2 hk hcell
  go_wp2_with fail
  refine (CD.out _).mono ?_
  rintro e w2 ⟨rfl, hw⟩
  obtain rfl := hw.symm
  rw [show ((wid 3 : Nat) : Int) = 4 from rfl]
  go_wp2_with fail
  have ga0 : (w1.alloc (Obj.cells #[.float .f64 0, .float .f64 0, .float .f64 0, .float .f64 0, .int .u8 0] 109)).drew.cell? ⟨w1.heap.size, 0, none⟩ = some (.float .f64 0) := (Lib.cell_of_heap (alloc_new w1 _) 0).trans rfl
  have gf0 : (w1.alloc (Obj.cells #[.float .f64 0, .float .f64 0, .float .f64 0, .float .f64 0, .int .u8 0] 109)).drew.frozen? ⟨w1.heap.size, 0, none⟩ = false := Lib.frozen_of_heap (alloc_new w1 _) 0
  have ga1 : (w1.alloc (Obj.cells #[.float .f64 0, .float .f64 0, .float .f64 0, .float .f64 0, .int .u8 0] 109)).drew.cell? ⟨w1.heap.size, 1, none⟩ = some (.float .f64 0) := (Lib.cell_of_heap (alloc_new w1 _) 1).trans rfl
  have gf1 : (w1.alloc (Obj.cells #[.float .f64 0, .float .f64 0, .float .f64 0, .float .f64 0, .int .u8 0] 109)).drew.frozen? ⟨w1.heap.size, 1, none⟩ = false := Lib.frozen_of_heap (alloc_new w1 _) 1
  have ga2 : (w1.alloc (Obj.cells #[.float .f64 0, .float .f64 0, .float .f64 0, .float .f64 0, .int .u8 0] 109)).drew.cell? ⟨w1.heap.size, 2, none⟩ = some (.float .f64 0) := (Lib.cell_of_heap (alloc_new w1 _) 2).trans rfl
  have gf2 : (w1.alloc (Obj.cells #[.float .f64 0, .float .f64 0, .float .f64 0, .float .f64 0, .int .u8 0] 109)).drew.frozen? ⟨w1.heap.size, 2, none⟩ = false := Lib.frozen_of_heap (alloc_new w1 _) 2
  have ga3 : (w1.alloc (Obj.cells #[.float .f64 0, .float .f64 0, .float .f64 0, .float .f64 0, .int .u8 0] 109)).drew.cell? ⟨w1.heap.size, 3, none⟩ = some (.float .f64 0) := (Lib.cell_of_heap (alloc_new w1 _) 3).trans rfl
  have gf3 : (w1.alloc (Obj.cells #[.float .f64 0, .float .f64 0, .float .f64 0, .float .f64 0, .int .u8 0] 109)).drew.frozen? ⟨w1.heap.size, 3, none⟩ = false := Lib.frozen_of_heap (alloc_new w1 _) 3
  have ga4 : (w1.alloc (Obj.cells #[.float .f64 0, .float .f64 0, .float .f64 0, .float .f64 0, .int .u8 0] 109)).drew.cell? ⟨w1.heap.size, 4, none⟩ = some (.int .u8 0) := (Lib.cell_of_heap (alloc_new w1 _) 4).trans rfl
  have gf4 : (w1.alloc (Obj.cells #[.float .f64 0, .float .f64 0, .float .f64 0, .float .f64 0, .int .u8 0] 109)).drew.frozen? ⟨w1.heap.size, 4, none⟩ = false := Lib.frozen_of_heap (alloc_new w1 _) 4
  have hsf : ∀ (W : World) (i x : Nat), Sem.run Tryz.prog (store ⟨w1.heap.size, i, none⟩ (.float .f64 x)) W = stored Tryz.prog W ⟨w1.heap.size, i, none⟩ (.float .f64 x) .plain := fun W i x => run_store _ _ _ _ _ rfl
  go_region_held3 (fun w' => w'.cell? ⟨b, 0, none⟩ = some (.int .u8 3) ∧ w'.cell? ⟨b, 1, none⟩ = some (.slice (some ⟨q, 0, none⟩) n cap) ∧ w'.cell? ⟨q, k, none⟩ = some (.float .f64 (X 0)) ∧ w'.cell? ⟨q, k1, none⟩ = some (.float .f64 (X 1))) (first | exact ⟨c0, c1, e0, e1⟩ | go_keep) (fail)
  obtain ⟨b3, hb3⟩ : ∃ b3, b3 = w1.heap.size := ⟨_, rfl⟩
  obtain ⟨w3, hw3⟩ : ∃ w3, w3 = (w1.alloc (Obj.cells #[.float .f64 (X 0), .float .f64 (X 1), .float .f64 0, .float .f64 0, .int .u8 3] 109)).drew := ⟨_, rfl⟩
  rw [← hw3, ← hb3]
  have hkp3 : Hid (Kp w1 w3) := by rw [hw3]; exact (Kp.alloc w1 _).drewN 1
  have hG3 : Hid (w3.heap[b3]? = some (.cells #[.float .f64 (X 0), .float .f64 (X 1), .float .f64 0, .float .f64 0, .int .u8 3] 109 (0, 0))) := by rw [hw3, hb3]; exact alloc_new w1 _
  have hG2 : Hid (w3.heap[b2]? = some (.cells #[.float .f64 0, .float .f64 0, .float .f64 0, .float .f64 0, .int .u8 0] 109 (0, 0))) := hkp3.out.ko _ _ HB2.out
  have hne : b3 ≠ b2 := by have h1 := Hb2.out; have h2 := Hs1.out; omega
  have Hb3 : Hid (w.heap.size ≤ b3) := by have h2 := Hs1.out; show _ ≤ b3; omega
  have d0 : w3.cell? ⟨b, 0, none⟩ = some (.int .u8 3) := by rw [Lib.cell_of_heap (hkp3.out.ko _ _ HB.out)]; rfl
  have d1 : w3.cell? ⟨b, 1, none⟩ = some (.slice (some ⟨q, 0, none⟩) n cap) := by rw [Lib.cell_of_heap (hkp3.out.ko _ _ HB.out)]; rfl
  have hbb3 : b ≠ b3 := by have h1 := Hhb.out; have h2 := Hs1.out; omega
  have hqb3 : q ≠ b3 := by have h2 := Hs1.out; omega
  have hqk : ∀ p v, w1.cell? ⟨q, p, none⟩ = some v → w3.cell? ⟨q, p, none⟩ = some v := fun p v h => by
    obtain ⟨o, ho⟩ : ∃ o, w1.heap[q]? = some o := ⟨_, Array.getElem?_eq_getElem (World.block_lt_of_cell? w1 ⟨q, p, none⟩ h)⟩
    rw [cell_of_block' (by rw [ho]; exact hkp3.out.ko _ _ ho)]; exact h
  have m2 : w3.cell? ⟨q, k2, none⟩ = some (.float .f64 (X 2)) := hqk _ _ e2
  have m3 : w3.cell? ⟨q, k3, none⟩ = some (.float .f64 (X 3)) := hqk _ _ e3
  have p0 : w3.cell? ⟨b3, 0, none⟩ = some (.float .f64 (X 0)) := by rw [Lib.cell_of_heap hG3.out]; rfl
  have pf0 := Lib.frozen_of_heap hG3.out 0
  have r0 : w3.cell? ⟨b2, 0, none⟩ = some (.float .f64 0) := by rw [Lib.cell_of_heap hG2.out]; rfl
  have rf0 := Lib.frozen_of_heap hG2.out 0
  have p1 : w3.cell? ⟨b3, 1, none⟩ = some (.float .f64 (X 1)) := by rw [Lib.cell_of_heap hG3.out]; rfl
  have pf1 := Lib.frozen_of_heap hG3.out 1
  have r1 : w3.cell? ⟨b2, 1, none⟩ = some (.float .f64 0) := by rw [Lib.cell_of_heap hG2.out]; rfl
  have rf1 := Lib.frozen_of_heap hG2.out 1
  have p2 : w3.cell? ⟨b3, 2, none⟩ = some (.float .f64 0) := by rw [Lib.cell_of_heap hG3.out]; rfl
  have pf2 := Lib.frozen_of_heap hG3.out 2
  have r2 : w3.cell? ⟨b2, 2, none⟩ = some (.float .f64 0) := by rw [Lib.cell_of_heap hG2.out]; rfl
  have rf2 := Lib.frozen_of_heap hG2.out 2
  have p3 : w3.cell? ⟨b3, 3, none⟩ = some (.float .f64 0) := by rw [Lib.cell_of_heap hG3.out]; rfl
  have pf3 := Lib.frozen_of_heap hG3.out 3
  have r3 : w3.cell? ⟨b2, 3, none⟩ = some (.float .f64 0) := by rw [Lib.cell_of_heap hG2.out]; rfl
  have rf3 := Lib.frozen_of_heap hG2.out 3
  have p4 : w3.cell? ⟨b3, 4, none⟩ = some (.int .u8 3) := by rw [Lib.cell_of_heap hG3.out]; rfl
  have pf4 := Lib.frozen_of_heap hG3.out 4
  have r4 : w3.cell? ⟨b2, 4, none⟩ = some (.int .u8 0) := by rw [Lib.cell_of_heap hG2.out]; rfl
  have rf4 := Lib.frozen_of_heap hG2.out 4
  have hsf3 : ∀ (W : World) (i x : Nat), Sem.run Tryz.prog (store ⟨b3, i, none⟩ (.float .f64 x)) W = stored Tryz.prog W ⟨b3, i, none⟩ (.float .f64 x) .plain := fun W i x => run_store _ _ _ _ _ rfl
  have hsf2 : ∀ (W : World) (i x : Nat), Sem.run Tryz.prog (store ⟨b2, i, none⟩ (.float .f64 x)) W = stored Tryz.prog W ⟨b2, i, none⟩ (.float .f64 x) .plain := fun W i x => run_store _ _ _ _ _ rfl
  clear hw3 hb3 hqk hsf ga0 ga1 ga2 ga3 ga4 gf0 gf1 gf2 gf3 gf4
  go_wp2_with fail
  have u0 : Hid (w3.heap[b2]? = some (.cells #[.float .f64 0, .float .f64 0, .float .f64 0, .float .f64 0, .int .u8 0] 109 (0, 0))) := hG2
  have x0 := hkp.out.trans hkp3.out
  have u1 : Hid ((w3.setCell ⟨b3, 2, none⟩ (.float .f64 (X 2))).heap[b2]? = some (.cells #[.float .f64 0, .float .f64 0, .float .f64 0, .float .f64 0, .int .u8 0] 109 (0, 0))) := by rw [Hid, Below.heap_setCell _ _ _ _ (Ne.symm hne)]; exact u0.out
  have x1 := x0.set b3 2 Hb3.out (.float .f64 (X 2))
  have u2 : Hid (((w3.setCell ⟨b3, 2, none⟩ (.float .f64 (X 2))).setCell ⟨b3, 3, none⟩ (.float .f64 (X 3))).heap[b2]? = some (.cells #[.float .f64 0, .float .f64 0, .float .f64 0, .float .f64 0, .int .u8 0] 109 (0, 0))) := by rw [Hid, Below.heap_setCell _ _ _ _ (Ne.symm hne)]; exact u1.out
  have x2 := x1.set b3 3 Hb3.out (.float .f64 (X 3))
  have hb2w : w.heap.size ≤ b2 := by have h1 := Hb2.out; omega
  have y0 := Lib.heap_setCell_same (i := 0) u2.out (.float .f64 (X 0))
  have x3 := x2.set b2 0 hb2w (.float .f64 (X 0))
  have y1 := Lib.heap_setCell_same (i := 1) y0 (.float .f64 (X 1))
  have x4 := x3.set b2 1 hb2w (.float .f64 (X 1))
  have y2 := Lib.heap_setCell_same (i := 2) y1 (.float .f64 (X 2))
  have x5 := x4.set b2 2 hb2w (.float .f64 (X 2))
  have y3 := Lib.heap_setCell_same (i := 3) y2 (.float .f64 (X 3))
  have x6 := x5.set b2 3 hb2w (.float .f64 (X 3))
  have y4 := Lib.heap_setCell_same (i := 4) y3 (.int .u8 3)
  have x7 := x6.set b2 4 hb2w (.int .u8 3)
  exact ⟨rfl, _, results_cell_row rfl _ _ b2 109 (plc 3 X) (0, 0) (.struct (Tryz.prog.fieldsOf 109)) rfl y4 (by kernel_rfl) rfl (by kernel_rfl), rfl, x7⟩
end Go.Proofs.YthplmbgdcfmkgaaGreatDoor
