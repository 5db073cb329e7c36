/- ReadLineBody. -/
import Derived.Test.YthplmbgdcfmkgaaGreatDoorA20
set_option linter.unusedVariables false
set_option linter.unusedSimpArgs false
/- plainSequence. -/
namespace Go.Proofs.YthplmbgdcfmkgaaGreatDoor
open Go.RowKit Go.Proofs Go.Sort

set_option maxRecDepth 100000 in
theorem is3d (c : Nat) (hc : c < 4) (w : World) : Calls Tryz.prog 49 #[.int .u8 (c : Int)] w fun e w' => e = .returned (.bool (decide (c = 1 ∨ c = 3))) ∧ w' = w := by
  have h1 : bits .and .u8 0 1 = 0 := by decide
  have h2 : bits .and .u8 1 1 = 1 := by decide
  have h3 : bits .and .u8 2 1 = 0 := by decide
  have h4 : bits .and .u8 3 1 = 1 := by decide
  have h4 : c = 0 ∨ c = 1 ∨ c = 2 ∨ c = 3 := by omega
  rcases h4 with rfl | rfl | rfl | rfl
  all_goals
    go_enter Tryz.func49, Tryz.ntmps49
    go_wp2_with fail
    go_ret
    exact ⟨rfl, rfl⟩
set_option maxRecDepth 100000 in
theorem ismeas (c : Nat) (hc : c < 4) (w : World) : Calls Tryz.prog 50 #[.int .u8 (c : Int)] w fun e w' => e = .returned (.bool (decide (2 ≤ c))) ∧ w' = w := by
  have h1 : bits .and .u8 0 2 = 0 := by decide
  have h2 : bits .and .u8 1 2 = 0 := by decide
  have h3 : bits .and .u8 2 2 = 2 := by decide
  have h4 : bits .and .u8 3 2 = 2 := by decide
  have h4 : c = 0 ∨ c = 1 ∨ c = 2 ∨ c = 3 := by omega
  rcases h4 with rfl | rfl | rfl | rfl
  all_goals
    go_enter Tryz.func50, Tryz.ntmps50
    go_wp2_with fail
    go_ret
    exact ⟨rfl, rfl⟩
theorem flts_get {xs : List Nat} {q : Nat} {n cap : Nat} {B : Nat} {w : World} (h : w.ownsRow B 75 1 (.slice (some ⟨q, 0, none⟩) n cap) n (flts xs)) (hl : xs.length = n) (j : Nat) (hj : j < n) : w.cell? ⟨q, j, none⟩ = some (.float .f64 (xs.getD j 0)) := by
  have hx : (flts xs)[j]? = some (.float .f64 (xs.getD j 0)) := by
    simp [flts, List.getD, List.getElem?_eq_getElem (show j < xs.length by omega)]
  have := h.cells (g := q) (by simp [Value.ownBlock]) j _ hx
  have hadd : (⟨q, 0, none⟩ : Addr).add j = ⟨q, j, none⟩ := by unfold Addr.add; split <;> simp_all
  rwa [hadd] at this
def geom0 : Array Value := #[.int .i64 0, .int .i64 0, .slice none 0 0, .slice none 0 0]
/-- What plainSequence's loop keeps. -/
structure PQ (w : World) (b1 b2 b3 c : Nat) (A : Array Value) (xs : List Nat) (v : Value) (wr : World) : Prop where
  below : Below w.heap.size w wr
  h1 : wr.heap[b1]? = some (.cells A 40 (0, 0))
  h2 : wr.heap[b2]? = some (.cells geom0 33 (0, 0))
  h3 : wr.heap[b3]? = some (.cells #[.int .i64 2, .int .i64 (c : Int), v, .slice none 0 0] 33 (0, 0))
  row : wr.ownsRow w.heap.size 75 1 v xs.length (flts xs)
  l1 : w.heap.size ≤ b1
  l2 : w.heap.size ≤ b2
  l3 : w.heap.size ≤ b3
  n13 : b1 ≠ b3
  n23 : b2 ≠ b3
theorem PQ.size {w b1 b2 b3 c A xs v wr} (h : PQ w b1 b2 b3 c A xs v wr) : w.heap.size ≤ wr.heap.size := h.below.size
theorem PQ.kp {w b1 b2 b3 c A xs v wr w'} (h : PQ w b1 b2 b3 c A xs v wr) (k : Kp wr w') : PQ w b1 b2 b3 c A xs v w' :=
  ⟨h.below.trans (k.below _ h.size), k.ko _ _ h.h1, k.ko _ _ h.h2, k.ko _ _ h.h3, row_kp h.row k, h.l1, h.l2, h.l3, h.n13, h.n23⟩
/-- Behind an append and the store of the new slice. -/
theorem PQ.app {w b1 b2 b3 c A xs v wr w' ys v'} (h : PQ w b1 b2 b3 c A xs v wr) (ho : w'.ownsRow w.heap.size 75 1 v' (xs.length + ys.length) (flts xs ++ flts ys)) (hk : Kept75 wr w') (hb : Below w.heap.size wr w') :
    PQ w b1 b2 b3 c A (xs ++ ys) v' (w'.setCell ⟨b3, 2, none⟩ v') := by
  have k3 := hk _ _ h.h3 (no75 (by decide))
  refine ⟨(h.below.trans hb).setCell (p := ⟨b3, 2, none⟩) h.l3 _, ?_, ?_, ?_, ?_, h.l1, h.l2, h.l3, h.n13, h.n23⟩
  · rw [Below.heap_setCell _ _ _ _ h.n13]; exact hk _ _ h.h1 (no75 (by decide))
  · rw [Below.heap_setCell _ _ _ _ h.n23]; exact hk _ _ h.h2 (no75 (by decide))
  · exact Lib.heap_setCell_same (i := 2) k3 v'
  · have e : flts (xs ++ ys) = flts xs ++ flts ys := by simp [flts]
    rw [e, List.length_append]
    refine ⟨ho.1, ?_⟩
    rcases ho.2 with hn | ⟨q, cap', cur, hv, hbq, hq, rest⟩
    · exact .inl hn
    · refine .inr ⟨q, cap', cur, hv, hbq, ?_, rest⟩
      have hqb : q ≠ b3 := by
        rintro rfl
        rw [k3] at hq
        have := Option.some.inj hq
        injection this with _ e _
        exact absurd e (by decide)
      rw [Below.heap_setCell _ _ _ _ hqb]
      exact hq
theorem PQ.c3 {w b1 b2 b3 c A xs v wr} (h : PQ w b1 b2 b3 c A xs v wr) : wr.cell? ⟨b3, 2, none⟩ = some v ∧ wr.frozen? ⟨b3, 2, none⟩ = false := ⟨by rw [Lib.cell_of_heap h.h3]; rfl, Lib.frozen_of_heap h.h3 2⟩
theorem take_one (xs : List Nat) (k : Nat) (h : k < xs.length) : xs.take (k + 1) = xs.take k ++ [xs.getD k 0] := by
  rw [List.take_add_one, List.getElem?_eq_getElem h]
  simp [List.getD, List.getElem?_eq_getElem h]
def SeqPost (c : Nat) (xs : List Nat) (w : World) (e : Ending) (w' : World) : Prop :=
  Below w.heap.size w w' ∧ ∃ ao cap, e = .returned (.agg #[.int .i64 2, .int .i64 (c : Int), .slice ao xs.length cap, .slice none 0 0]) ∧ w'.ownsRow w.heap.size 75 1 (.slice ao xs.length cap) xs.length (flts xs)
set_option maxHeartbeats 4000000 in
set_option maxRecDepth 100000 in
theorem plain_seq0 (ao : Option Addr) (n cap m B : Nat) (xs : List Nat) (w : World) (hl : xs.length = n) (hm : n = m * 2) (hn : n ≤ 20000) (hrow : w.ownsRow B 75 1 (.slice ao n cap) n (flts xs)) :
    Calls Tryz.prog 24 #[.agg #[.int .u8 0, .slice ao n cap]] w (SeqPost 0 xs w) := by
  obtain ⟨b1, hb1⟩ : ∃ b, b = w.heap.size := ⟨_, rfl⟩
  obtain ⟨b2, hb2⟩ : ∃ b, b = w.heap.size + 1 := ⟨_, rfl⟩
  have cD : ∀ W : World, Calls Tryz.prog 49 #[.int .u8 0] W fun e w' => e = .returned (.bool false) ∧ w' = W := fun W => is3d 0 (by omega) W
  have cM : ∀ W : World, Calls Tryz.prog 50 #[.int .u8 0] W fun e w' => e = .returned (.bool false) ∧ w' = W := fun W => ismeas 0 (by omega) W
  have cL := fun W : World => seq_len 0 (by omega) ao n cap m hm (by omega) W
  have cT := fun W : World => seq_type 0 ao n cap W
  have CD := Lib.hid cD
  have CM := Lib.hid cM
  have CL := Lib.hid cL
  have CT := Lib.hid cT
  have HR := Lib.hid hrow
  have HM := Lib.hid hm
  have HL := Lib.hid hl
  have hmn : m ≤ 20000 := by omega
  clear cD cM cL cT hrow hl hm
  go_enter Tryz.func24, Tryz.ntmps24
  go_upto_region 1 with fail
  obtain ⟨wa, hwa⟩ : ∃ wa, wa = w.alloc (Obj.cells #[.int .u8 0, .slice ao n cap] 40) := ⟨_, rfl⟩
  obtain ⟨w1, hw1⟩ : ∃ w1, w1 = wa.alloc (Obj.cells #[.int .i64 0, .int .i64 0, .slice none 0 0, .slice none 0 0] 33) := ⟨_, rfl⟩
  rw [← hwa, ← hw1, ← hb2, ← hb1]
  have hsa : wa.heap.size = w.heap.size + 1 := by rw [hwa]; show (w.heap.push _).size = _; rw [Array.size_push]
  have hs1 : w1.heap.size = w.heap.size + 2 := by rw [hw1]; show (wa.heap.push _).size = _; rw [Array.size_push, hsa]
  have hkp : Hid (Kp w w1) := by rw [hw1]; refine Kp.trans ?_ (Kp.alloc wa _); rw [hwa]; exact Kp.alloc w _
  have hB1 : w1.heap[b1]? = some (.cells #[.int .u8 0, .slice ao n cap] 40 (0, 0)) := by rw [hw1, hb1]; refine alloc_kept _ _ _ _ ?_; rw [hwa]; exact alloc_new w _
  have hB2 : w1.heap[b2]? = some (.cells geom0 33 (0, 0)) := by rw [hw1, hb2, ← hsa]; exact alloc_new _ _
  have c0 : w1.cell? ⟨b1, 0, none⟩ = some (.int .u8 0) := by rw [Lib.cell_of_heap hB1]; rfl
  have c1 : w1.cell? ⟨b1, 1, none⟩ = some (.slice ao n cap) := by rw [Lib.cell_of_heap hB1]; rfl
  have Hb1 := Lib.hid hb1
  have Hb2 := Lib.hid hb2
  have Hs1 := Lib.hid hs1
  have HB1 := Lib.hid hB1
  have HB2 := Lib.hid hB2
  clear hwa hw1 hsa hs1 hb1 hb2 hB1 hB2
  go_wp2_with fail
  refine (CT.out _).mono ?_
  rintro e w2 ⟨rfl, hk2⟩
  have HK2 := Lib.hid hk2
  clear hk2
  go_upto_region 2 with fail
  obtain ⟨b3, hb3⟩ : ∃ b, b = w2.heap.size := ⟨_, rfl⟩
  obtain ⟨w3, hw3⟩ : ∃ w3, w3 = w2.alloc (Obj.cells #[.int .i64 2, .int .i64 0, .slice none 0 0, .slice none 0 0] 33) := ⟨_, rfl⟩
  rw [← hw3, ← hb3]
  have hk3 : Kp w1 w3 := by rw [hw3]; exact HK2.out.trans (Kp.alloc _ _)
  have hpq : Hid (PQ w b1 b2 b3 0 #[.int .u8 0, .slice ao n cap] [] (.slice none 0 0) w3) := by
    have h2s := HK2.out.size
    have h1 := Hb1.out
    have h2 := Hb2.out
    have h3 := Hs1.out
    refine ⟨(hkp.out.trans hk3).below _ (Nat.le_refl _), hk3.ko _ _ HB1.out, hk3.ko _ _ HB2.out, ?_, World.ownsRow_nil _ _ _ _, by omega, by omega, by omega, by omega, by omega⟩
    rw [hw3, hb3]; exact alloc_new _ _
  clear hw3 hk3 hb3 c0 c1
  go_wp2_with fail
  go_loopg [4, 5] m (fun q si s5 wr => ∃ (i : Nat) (v : Value), i ≤ m ∧ q + i = m ∧ si = .int .i64 (i : Int) ∧ Hid (PQ w b1 b2 b3 0 #[.int .u8 0, .slice ao n cap] (xs.take (i * 2)) v wr))
  case atStart => exact ⟨0, .slice none 0 0, by omega, by omega, rfl, by simpa [Hid] using hpq⟩
  case round =>
    obtain ⟨i, v, hi, hq, rfl, hP⟩ := hrel
    have c0 : wr.cell? ⟨b1, 0, none⟩ = some (.int .u8 0) := by rw [Lib.cell_of_heap hP.out.h1]; rfl
    have c1 : wr.cell? ⟨b1, 1, none⟩ = some (.slice ao n cap) := by rw [Lib.cell_of_heap hP.out.h1]; rfl
    go_wp2_with fail
    refine (CL.out _).mono ?_
    rintro e w4 ⟨rfl, hk4⟩
    have hP4 : Hid (PQ w b1 b2 b3 0 #[.int .u8 0, .slice ao n cap] (xs.take (i * 2)) v w4) := hP.out.kp hk4
    have d0 : w4.cell? ⟨b1, 0, none⟩ = some (.int .u8 0) := by rw [Lib.cell_of_heap hP4.out.h1]; rfl
    have d1 : w4.cell? ⟨b1, 1, none⟩ = some (.slice ao n cap) := by rw [Lib.cell_of_heap hP4.out.h1]; rfl
    clear hk4 c0 c1
    by_cases him : i < m
    · have hlt : (i : Int) < (m : Int) := by omega
      obtain ⟨q, hao⟩ : ∃ q, ao = some ⟨q, 0, none⟩ := by
        rcases HR.out.2 with ⟨h1, h2⟩ | ⟨q, _, _, h1, _⟩
        · exfalso; have := HM.out; omega
        · injection h1 with h1 _ _; exact ⟨q, h1⟩
      obtain ⟨k, hk⟩ : ∃ k, k = i * 2 := ⟨_, rfl⟩
      have hkn : k + 2 ≤ n := by have := HM.out; omega
      have hget : Hid (Calls Tryz.prog 48 #[.agg #[.int .u8 0, .slice ao n cap], .int .i64 (i : Int)] w4 fun e w' => e = .returned (.agg (plc 0 (fun j => xs.getD (k + j) 0))) ∧ Kp w4 w') := by
        subst hao
        refine seq_get0 q n cap k i (fun j => xs.getD (k + j) 0) w4 hk hkn (by omega) (fun j hj => ?_)
        have hq : q < w.heap.size := by
          rcases HR.out.2 with ⟨h1, _⟩ | ⟨q', _, _, h1, _, h3, _⟩
          · injection h1 with h1 _ _; cases h1
          · injection h1 with h1 _ _
            injection h1 with h1
            injection h1 with h1 _ _
            subst h1
            exact Lib.lt_of_heap h3
        rw [hP4.out.below.cell (show q < w.heap.size from hq)]
        exact flts_get HR.out HL.out (k + j) (by omega)
      obtain ⟨X0, hX0⟩ : ∃ x, x = xs.getD (k + 0) 0 := ⟨_, rfl⟩
      obtain ⟨X1, hX1⟩ : ∃ x, x = xs.getD (k + 1) 0 := ⟨_, rfl⟩
      have hplc : plc 0 (fun j => xs.getD (k + j) 0) = #[.float .f64 X0, .float .f64 X1, .float .f64 0, .float .f64 0, .int .u8 0] := by rw [hX0, hX1]; rfl
      rw [hplc] at hget
      have HX0 := Lib.hid hX0
      have HX1 := Lib.hid hX1
      have Hk := Lib.hid hk
      have Hao := Lib.hid hao
      clear hplc hk hao hX0 hX1
      go_wp2_with fail
      refine hget.out.mono ?_
      rintro e w5 ⟨rfl, hk5⟩
      have hP5 : Hid (PQ w b1 b2 b3 0 #[.int .u8 0, .slice ao n cap] (xs.take (i * 2)) v w5) := hP4.out.kp hk5
      clear hk5 d0 d1
      have hsf : ∀ (W : World) (i x : Nat), Sem.run Tryz.prog (store ⟨w5.heap.size, i, none⟩ (.float .f64 x)) W = stored Tryz.prog W ⟨w5.heap.size, i, none⟩ (.float .f64 x) .plain := fun W i x => run_store _ _ _ _ _ rfl
      go_upto_region 6 with fail
      obtain ⟨b5, hb5⟩ : ∃ b, b = w5.heap.size := ⟨_, rfl⟩
      obtain ⟨w6, hw6⟩ : ∃ w6, w6 = w5.alloc (Obj.cells #[.float .f64 X0, .float .f64 X1, .float .f64 0, .float .f64 0, .int .u8 0] 109) := ⟨_, rfl⟩
      rw [← hw6, ← hb5]
      have hP6 : Hid (PQ w b1 b2 b3 0 #[.int .u8 0, .slice ao n cap] (xs.take (i * 2)) v w6) := by rw [hw6]; exact hP5.out.kp (Kp.alloc _ _)
      have hB5 : Hid (w6.heap[b5]? = some (.cells #[.float .f64 X0, .float .f64 X1, .float .f64 0, .float .f64 0, .int .u8 0] 109 (0, 0))) := by rw [hw6, hb5]; exact alloc_new _ _
      have hb53 : b5 ≠ b3 := by have h1 := Lib.lt_of_heap hP5.out.h3; omega
      clear hw6 hb5 hsf
      obtain ⟨acc, hacc⟩ : ∃ acc, acc = xs.take (i * 2) := ⟨_, rfl⟩
      rw [← hacc] at hP6
      have hlen0 : (xs.take (i * 2)).length ≤ 20000 := by rw [List.length_take]; have := HM.out; omega
      have hlen : acc.length ≤ 20000 := by rw [hacc]; exact hlen0
      have Hacc := Lib.hid hacc
      clear hacc hlen0
      have t2 : w6.cell? ⟨b3, 2, none⟩ = some v := hP6.out.c3.1
      have t2f : w6.frozen? ⟨b3, 2, none⟩ = false := hP6.out.c3.2
      have g0 : w6.cell? ⟨b5, 0, none⟩ = some (.float .f64 X0) := by rw [Lib.cell_of_heap hB5.out]; rfl
      have g1 : w6.cell? ⟨b5, 1, none⟩ = some (.float .f64 X1) := by rw [Lib.cell_of_heap hB5.out]; rfl
      have g2 : w6.cell? ⟨b5, 2, none⟩ = some (.float .f64 0) := by rw [Lib.cell_of_heap hB5.out]; rfl
      have g3 : w6.cell? ⟨b5, 3, none⟩ = some (.float .f64 0) := by rw [Lib.cell_of_heap hB5.out]; rfl
      have g4 : w6.cell? ⟨b5, 4, none⟩ = some (.int .u8 0) := by rw [Lib.cell_of_heap hB5.out]; rfl
      go_upto_region 7 with (at_builtin; refine append_flts rfl _ _ rfl w.heap.size v acc.length (flts acc) rfl w6 [X0, X1] hP6.out.row rfl (by simp only [List.length_append, List.length_cons, List.length_nil]; omega) (by exact hP6.out.size) ?_; intro u0 wz0 ho0 hk0 hbl0; obtain ⟨ao0, cap0, hv0⟩ := row_slice ho0; subst hv0; have zc0 := Lib.hid (hP6.out.app ho0 hk0 hbl0); have zk0 := hk0 _ _ hP6.out.h3 (no75 (by decide)); have zd0 : wz0.cell? ⟨b3, 2, none⟩ = some v := (by rw [Lib.cell_of_heap zk0]; rfl); have zf0 := Lib.frozen_of_heap zk0 2; have zb0 := Lib.hid (hk0 _ _ hB5.out (no75 (by decide))); clear zk0 ho0 hk0 hbl0)
      obtain ⟨acc_0, hacc_0⟩ : ∃ a, a = acc ++ [X0, X1] := ⟨_, rfl⟩
      have hl_0 : acc.length + 2 = acc_0.length := by rw [hacc_0]; simp
      have hle_0 : acc_0.length ≤ 20002 := by omega
      have zd_0 : Hid (PQ w b1 b2 b3 0 #[.int .u8 0, .slice ao n cap] acc_0 (.slice ao0 acc_0.length cap0) (wz0.setCell ⟨b3, 2, none⟩ (.slice ao0 acc_0.length cap0))) := by have := zc0.out; rw [← hacc_0] at this; rw [← hl_0]; exact this
      rw [hl_0]
      obtain ⟨wA0, hwA0⟩ : ∃ x, x = wz0.setCell ⟨b3, 2, none⟩ (.slice ao0 acc_0.length cap0) := ⟨_, rfl⟩
      try rw [← hwA0]
      have hPA0 : Hid (PQ w b1 b2 b3 0 #[.int .u8 0, .slice ao n cap] acc_0 (.slice ao0 acc_0.length cap0) wA0) := by rw [hwA0]; exact zd_0.out
      have Hacc_0 := Lib.hid hacc_0
      clear hacc_0 hl_0 zd_0
      have hBA0 : Hid (wA0.heap[b5]? = some (.cells #[.float .f64 X0, .float .f64 X1, .float .f64 0, .float .f64 0, .int .u8 0] 109 (0, 0))) := by rw [hwA0, Hid, Below.heap_setCell _ _ _ _ hb53]; exact zb0.out
      have HwA0 := Lib.hid hwA0
      clear hwA0 zc0 zd0 zf0 zb0 t2 t2f g0 g1 g2 g3 g4
      have t2 : wA0.cell? ⟨b3, 2, none⟩ = some (.slice ao0 acc_0.length cap0) := hPA0.out.c3.1
      have t2f : wA0.frozen? ⟨b3, 2, none⟩ = false := hPA0.out.c3.2
      have g0 : wA0.cell? ⟨b5, 0, none⟩ = some (.float .f64 X0) := by rw [Lib.cell_of_heap hBA0.out]; rfl
      have g1 : wA0.cell? ⟨b5, 1, none⟩ = some (.float .f64 X1) := by rw [Lib.cell_of_heap hBA0.out]; rfl
      have g2 : wA0.cell? ⟨b5, 2, none⟩ = some (.float .f64 0) := by rw [Lib.cell_of_heap hBA0.out]; rfl
      have g3 : wA0.cell? ⟨b5, 3, none⟩ = some (.float .f64 0) := by rw [Lib.cell_of_heap hBA0.out]; rfl
      have g4 : wA0.cell? ⟨b5, 4, none⟩ = some (.int .u8 0) := by rw [Lib.cell_of_heap hBA0.out]; rfl
      go_wp2_with fail
      refine (CD.out _).mono ?_
      rintro e wx ⟨rfl, hwx⟩
      obtain rfl := hwx.symm
      go_wp2_with fail
      refine (CM.out _).mono ?_
      rintro e wx ⟨rfl, hwx⟩
      obtain rfl := hwx.symm
      go_wp2_with fail
      go_roundg (gk - 1)
      case measure => omega
      case rel =>
        refine ⟨i + 1, (.slice ao0 acc_0.length cap0), by omega, by omega, by go_num, ?_⟩
        have hx : xs.take ((i + 1) * 2) = acc_0 := by
          have hq0 := Hacc_0.out
          have h0 := HM.out
          have h1 := HL.out
          rw [show (i + 1) * 2 = i * 2 + 1 + 1 by omega, take_one xs _ (by omega), take_one xs _ (by omega), Hacc_0.out, Hacc.out, HX0.out, HX1.out, Hk.out]
          simp [List.append_assoc]
        rw [Hid, hx]
        first | exact hPA0.out | (rw [← HwA0.out]; exact hPA0.out)
    · have hlt : ¬ ((i : Int) < (m : Int)) := by omega
      obtain rfl : i = m := by omega
      have hx : xs.take (i * 2) = xs := List.take_of_length_le (by rw [HL.out, HM.out]; exact Nat.le_refl _)
      rw [hx] at hP4
      obtain ⟨aoz, capz, hv⟩ := row_slice hP4.out.row
      subst hv
      obtain ⟨nz, hnz⟩ : ∃ n, n = xs.length := ⟨_, rfl⟩
      rw [← hnz] at hP4
      have Hnz := Lib.hid hnz
      have k0 : w4.cell? ⟨b3, 0, none⟩ = some (.int .i64 2) := by rw [Lib.cell_of_heap hP4.out.h3]; rfl
      have k1 : w4.cell? ⟨b3, 1, none⟩ = some (.int .i64 0) := by rw [Lib.cell_of_heap hP4.out.h3]; rfl
      have k2 : w4.cell? ⟨b3, 2, none⟩ = some (.slice aoz nz capz) := by rw [Lib.cell_of_heap hP4.out.h3]; rfl
      have k3 : w4.cell? ⟨b3, 3, none⟩ = some (.slice none 0 0) := by rw [Lib.cell_of_heap hP4.out.h3]; rfl
      have l0 : w4.cell? ⟨b2, 0, none⟩ = some (.int .i64 0) := by rw [Lib.cell_of_heap hP4.out.h2]; rfl
      have l1 : w4.cell? ⟨b2, 1, none⟩ = some (.int .i64 0) := by rw [Lib.cell_of_heap hP4.out.h2]; rfl
      have l2 : w4.cell? ⟨b2, 2, none⟩ = some (.slice none 0 0) := by rw [Lib.cell_of_heap hP4.out.h2]; rfl
      have l3 : w4.cell? ⟨b2, 3, none⟩ = some (.slice none 0 0) := by rw [Lib.cell_of_heap hP4.out.h2]; rfl
      have lf0 := Lib.frozen_of_heap hP4.out.h2 0
      have lf1 := Lib.frozen_of_heap hP4.out.h2 1
      have lf2 := Lib.frozen_of_heap hP4.out.h2 2
      have lf3 := Lib.frozen_of_heap hP4.out.h2 3
      clear hx hnz d0 d1
      go_wp2_with fail
      have y0 := Lib.heap_setCell_same (i := 0) hP4.out.h2 (.int .i64 2)
      have y1 := Lib.heap_setCell_same (i := 1) y0 (.int .i64 0)
      have y2 := Lib.heap_setCell_same (i := 2) y1 (.slice aoz nz capz)
      have y3 := Lib.heap_setCell_same (i := 3) y2 (.slice none 0 0)
      have x0 := hP4.out.below.setCell (p := ⟨b2, 0, none⟩) hP4.out.l2 (.int .i64 2)
      have x1 := x0.setCell (p := ⟨b2, 1, none⟩) hP4.out.l2 (.int .i64 0)
      have x2 := x1.setCell (p := ⟨b2, 2, none⟩) hP4.out.l2 (.slice aoz nz capz)
      have x3 := x2.setCell (p := ⟨b2, 3, none⟩) hP4.out.l2 (.slice none 0 0)
      refine ⟨rfl, _, results_cell_row rfl _ _ b2 33 #[.int .i64 2, .int .i64 0, .slice aoz nz capz, .slice none 0 0] (0, 0) (.struct (Tryz.prog.fieldsOf 33)) rfl y3 (by kernel_rfl) rfl (by kernel_rfl), x3, aoz, capz, by rw [← Hnz.out]; rfl, ?_⟩
      have hro := hP4.out.row
      rw [← Hnz.out] at hro ⊢
      refine ⟨hro.1, ?_⟩
      rcases hro.2 with hn | ⟨q, cap', cur, hv, hbq, hq, rest⟩
      · exact .inl hn
      · refine .inr ⟨q, cap', cur, hv, hbq, ?_, rest⟩
        have hqb : q ≠ b2 := by
          rintro rfl
          rw [hP4.out.h2] at hq
          have := Option.some.inj hq
          injection this with _ e _
          exact absurd e (by decide)
        rw [Below.heap_setCell _ _ _ _ hqb, Below.heap_setCell _ _ _ _ hqb, Below.heap_setCell _ _ _ _ hqb, Below.heap_setCell _ _ _ _ hqb]
        exact hq
set_option maxHeartbeats 4000000 in
set_option maxRecDepth 100000 in
theorem plain_seq1 (ao : Option Addr) (n cap m B : Nat) (xs : List Nat) (w : World) (hl : xs.length = n) (hm : n = m * 3) (hn : n ≤ 20000) (hrow : w.ownsRow B 75 1 (.slice ao n cap) n (flts xs)) :
    Calls Tryz.prog 24 #[.agg #[.int .u8 1, .slice ao n cap]] w (SeqPost 1 xs w) := by
  obtain ⟨b1, hb1⟩ : ∃ b, b = w.heap.size := ⟨_, rfl⟩
  obtain ⟨b2, hb2⟩ : ∃ b, b = w.heap.size + 1 := ⟨_, rfl⟩
  have cD : ∀ W : World, Calls Tryz.prog 49 #[.int .u8 1] W fun e w' => e = .returned (.bool true) ∧ w' = W := fun W => is3d 1 (by omega) W
  have cM : ∀ W : World, Calls Tryz.prog 50 #[.int .u8 1] W fun e w' => e = .returned (.bool false) ∧ w' = W := fun W => ismeas 1 (by omega) W
  have cL := fun W : World => seq_len 1 (by omega) ao n cap m hm (by omega) W
  have cT := fun W : World => seq_type 1 ao n cap W
  have CD := Lib.hid cD
  have CM := Lib.hid cM
  have CL := Lib.hid cL
  have CT := Lib.hid cT
  have HR := Lib.hid hrow
  have HM := Lib.hid hm
  have HL := Lib.hid hl
  have hmn : m ≤ 20000 := by omega
  clear cD cM cL cT hrow hl hm
  go_enter Tryz.func24, Tryz.ntmps24
  go_upto_region 1 with fail
  obtain ⟨wa, hwa⟩ : ∃ wa, wa = w.alloc (Obj.cells #[.int .u8 1, .slice ao n cap] 40) := ⟨_, rfl⟩
  obtain ⟨w1, hw1⟩ : ∃ w1, w1 = wa.alloc (Obj.cells #[.int .i64 0, .int .i64 0, .slice none 0 0, .slice none 0 0] 33) := ⟨_, rfl⟩
  rw [← hwa, ← hw1, ← hb2, ← hb1]
  have hsa : wa.heap.size = w.heap.size + 1 := by rw [hwa]; show (w.heap.push _).size = _; rw [Array.size_push]
  have hs1 : w1.heap.size = w.heap.size + 2 := by rw [hw1]; show (wa.heap.push _).size = _; rw [Array.size_push, hsa]
  have hkp : Hid (Kp w w1) := by rw [hw1]; refine Kp.trans ?_ (Kp.alloc wa _); rw [hwa]; exact Kp.alloc w _
  have hB1 : w1.heap[b1]? = some (.cells #[.int .u8 1, .slice ao n cap] 40 (0, 0)) := by rw [hw1, hb1]; refine alloc_kept _ _ _ _ ?_; rw [hwa]; exact alloc_new w _
  have hB2 : w1.heap[b2]? = some (.cells geom0 33 (0, 0)) := by rw [hw1, hb2, ← hsa]; exact alloc_new _ _
  have c0 : w1.cell? ⟨b1, 0, none⟩ = some (.int .u8 1) := by rw [Lib.cell_of_heap hB1]; rfl
  have c1 : w1.cell? ⟨b1, 1, none⟩ = some (.slice ao n cap) := by rw [Lib.cell_of_heap hB1]; rfl
  have Hb1 := Lib.hid hb1
  have Hb2 := Lib.hid hb2
  have Hs1 := Lib.hid hs1
  have HB1 := Lib.hid hB1
  have HB2 := Lib.hid hB2
  clear hwa hw1 hsa hs1 hb1 hb2 hB1 hB2
  go_wp2_with fail
  refine (CT.out _).mono ?_
  rintro e w2 ⟨rfl, hk2⟩
  have HK2 := Lib.hid hk2
  clear hk2
  go_upto_region 2 with fail
  obtain ⟨b3, hb3⟩ : ∃ b, b = w2.heap.size := ⟨_, rfl⟩
  obtain ⟨w3, hw3⟩ : ∃ w3, w3 = w2.alloc (Obj.cells #[.int .i64 2, .int .i64 1, .slice none 0 0, .slice none 0 0] 33) := ⟨_, rfl⟩
  rw [← hw3, ← hb3]
  have hk3 : Kp w1 w3 := by rw [hw3]; exact HK2.out.trans (Kp.alloc _ _)
  have hpq : Hid (PQ w b1 b2 b3 1 #[.int .u8 1, .slice ao n cap] [] (.slice none 0 0) w3) := by
    have h2s := HK2.out.size
    have h1 := Hb1.out
    have h2 := Hb2.out
    have h3 := Hs1.out
    refine ⟨(hkp.out.trans hk3).below _ (Nat.le_refl _), hk3.ko _ _ HB1.out, hk3.ko _ _ HB2.out, ?_, World.ownsRow_nil _ _ _ _, by omega, by omega, by omega, by omega, by omega⟩
    rw [hw3, hb3]; exact alloc_new _ _
  clear hw3 hk3 hb3 c0 c1
  go_wp2_with fail
  go_loopg [4, 5] m (fun q si s5 wr => ∃ (i : Nat) (v : Value), i ≤ m ∧ q + i = m ∧ si = .int .i64 (i : Int) ∧ Hid (PQ w b1 b2 b3 1 #[.int .u8 1, .slice ao n cap] (xs.take (i * 3)) v wr))
  case atStart => exact ⟨0, .slice none 0 0, by omega, by omega, rfl, by simpa [Hid] using hpq⟩
  case round =>
    obtain ⟨i, v, hi, hq, rfl, hP⟩ := hrel
    have c0 : wr.cell? ⟨b1, 0, none⟩ = some (.int .u8 1) := by rw [Lib.cell_of_heap hP.out.h1]; rfl
    have c1 : wr.cell? ⟨b1, 1, none⟩ = some (.slice ao n cap) := by rw [Lib.cell_of_heap hP.out.h1]; rfl
    go_wp2_with fail
    refine (CL.out _).mono ?_
    rintro e w4 ⟨rfl, hk4⟩
    have hP4 : Hid (PQ w b1 b2 b3 1 #[.int .u8 1, .slice ao n cap] (xs.take (i * 3)) v w4) := hP.out.kp hk4
    have d0 : w4.cell? ⟨b1, 0, none⟩ = some (.int .u8 1) := by rw [Lib.cell_of_heap hP4.out.h1]; rfl
    have d1 : w4.cell? ⟨b1, 1, none⟩ = some (.slice ao n cap) := by rw [Lib.cell_of_heap hP4.out.h1]; rfl
    clear hk4 c0 c1
    by_cases him : i < m
    · have hlt : (i : Int) < (m : Int) := by omega
      obtain ⟨q, hao⟩ : ∃ q, ao = some ⟨q, 0, none⟩ := by
        rcases HR.out.2 with ⟨h1, h2⟩ | ⟨q, _, _, h1, _⟩
        · exfalso; have := HM.out; omega
        · injection h1 with h1 _ _; exact ⟨q, h1⟩
      obtain ⟨k, hk⟩ : ∃ k, k = i * 3 := ⟨_, rfl⟩
      have hkn : k + 3 ≤ n := by have := HM.out; omega
      have hget : Hid (Calls Tryz.prog 48 #[.agg #[.int .u8 1, .slice ao n cap], .int .i64 (i : Int)] w4 fun e w' => e = .returned (.agg (plc 1 (fun j => xs.getD (k + j) 0))) ∧ Kp w4 w') := by
        subst hao
        refine seq_get1 q n cap k i (fun j => xs.getD (k + j) 0) w4 hk hkn (by omega) (fun j hj => ?_)
        have hq : q < w.heap.size := by
          rcases HR.out.2 with ⟨h1, _⟩ | ⟨q', _, _, h1, _, h3, _⟩
          · injection h1 with h1 _ _; cases h1
          · injection h1 with h1 _ _
            injection h1 with h1
            injection h1 with h1 _ _
            subst h1
            exact Lib.lt_of_heap h3
        rw [hP4.out.below.cell (show q < w.heap.size from hq)]
        exact flts_get HR.out HL.out (k + j) (by omega)
      obtain ⟨X0, hX0⟩ : ∃ x, x = xs.getD (k + 0) 0 := ⟨_, rfl⟩
      obtain ⟨X1, hX1⟩ : ∃ x, x = xs.getD (k + 1) 0 := ⟨_, rfl⟩
      obtain ⟨X2, hX2⟩ : ∃ x, x = xs.getD (k + 2) 0 := ⟨_, rfl⟩
      have hplc : plc 1 (fun j => xs.getD (k + j) 0) = #[.float .f64 X0, .float .f64 X1, .float .f64 X2, .float .f64 0, .int .u8 1] := by rw [hX0, hX1, hX2]; rfl
      rw [hplc] at hget
      have HX0 := Lib.hid hX0
      have HX1 := Lib.hid hX1
      have HX2 := Lib.hid hX2
      have Hk := Lib.hid hk
      have Hao := Lib.hid hao
      clear hplc hk hao hX0 hX1 hX2
      go_wp2_with fail
      refine hget.out.mono ?_
      rintro e w5 ⟨rfl, hk5⟩
      have hP5 : Hid (PQ w b1 b2 b3 1 #[.int .u8 1, .slice ao n cap] (xs.take (i * 3)) v w5) := hP4.out.kp hk5
      clear hk5 d0 d1
      have hsf : ∀ (W : World) (i x : Nat), Sem.run Tryz.prog (store ⟨w5.heap.size, i, none⟩ (.float .f64 x)) W = stored Tryz.prog W ⟨w5.heap.size, i, none⟩ (.float .f64 x) .plain := fun W i x => run_store _ _ _ _ _ rfl
      go_upto_region 6 with fail
      obtain ⟨b5, hb5⟩ : ∃ b, b = w5.heap.size := ⟨_, rfl⟩
      obtain ⟨w6, hw6⟩ : ∃ w6, w6 = w5.alloc (Obj.cells #[.float .f64 X0, .float .f64 X1, .float .f64 X2, .float .f64 0, .int .u8 1] 109) := ⟨_, rfl⟩
      rw [← hw6, ← hb5]
      have hP6 : Hid (PQ w b1 b2 b3 1 #[.int .u8 1, .slice ao n cap] (xs.take (i * 3)) v w6) := by rw [hw6]; exact hP5.out.kp (Kp.alloc _ _)
      have hB5 : Hid (w6.heap[b5]? = some (.cells #[.float .f64 X0, .float .f64 X1, .float .f64 X2, .float .f64 0, .int .u8 1] 109 (0, 0))) := by rw [hw6, hb5]; exact alloc_new _ _
      have hb53 : b5 ≠ b3 := by have h1 := Lib.lt_of_heap hP5.out.h3; omega
      clear hw6 hb5 hsf
      obtain ⟨acc, hacc⟩ : ∃ acc, acc = xs.take (i * 3) := ⟨_, rfl⟩
      rw [← hacc] at hP6
      have hlen0 : (xs.take (i * 3)).length ≤ 20000 := by rw [List.length_take]; have := HM.out; omega
      have hlen : acc.length ≤ 20000 := by rw [hacc]; exact hlen0
      have Hacc := Lib.hid hacc
      clear hacc hlen0
      have t2 : w6.cell? ⟨b3, 2, none⟩ = some v := hP6.out.c3.1
      have t2f : w6.frozen? ⟨b3, 2, none⟩ = false := hP6.out.c3.2
      have g0 : w6.cell? ⟨b5, 0, none⟩ = some (.float .f64 X0) := by rw [Lib.cell_of_heap hB5.out]; rfl
      have g1 : w6.cell? ⟨b5, 1, none⟩ = some (.float .f64 X1) := by rw [Lib.cell_of_heap hB5.out]; rfl
      have g2 : w6.cell? ⟨b5, 2, none⟩ = some (.float .f64 X2) := by rw [Lib.cell_of_heap hB5.out]; rfl
      have g3 : w6.cell? ⟨b5, 3, none⟩ = some (.float .f64 0) := by rw [Lib.cell_of_heap hB5.out]; rfl
      have g4 : w6.cell? ⟨b5, 4, none⟩ = some (.int .u8 1) := by rw [Lib.cell_of_heap hB5.out]; rfl
      go_upto_region 7 with (at_builtin; refine append_flts rfl _ _ rfl w.heap.size v acc.length (flts acc) rfl w6 [X0, X1] hP6.out.row rfl (by simp only [List.length_append, List.length_cons, List.length_nil]; omega) (by exact hP6.out.size) ?_; intro u0 wz0 ho0 hk0 hbl0; obtain ⟨ao0, cap0, hv0⟩ := row_slice ho0; subst hv0; have zc0 := Lib.hid (hP6.out.app ho0 hk0 hbl0); have zk0 := hk0 _ _ hP6.out.h3 (no75 (by decide)); have zd0 : wz0.cell? ⟨b3, 2, none⟩ = some v := (by rw [Lib.cell_of_heap zk0]; rfl); have zf0 := Lib.frozen_of_heap zk0 2; have zb0 := Lib.hid (hk0 _ _ hB5.out (no75 (by decide))); clear zk0 ho0 hk0 hbl0)
      obtain ⟨acc_0, hacc_0⟩ : ∃ a, a = acc ++ [X0, X1] := ⟨_, rfl⟩
      have hl_0 : acc.length + 2 = acc_0.length := by rw [hacc_0]; simp
      have hle_0 : acc_0.length ≤ 20002 := by omega
      have zd_0 : Hid (PQ w b1 b2 b3 1 #[.int .u8 1, .slice ao n cap] acc_0 (.slice ao0 acc_0.length cap0) (wz0.setCell ⟨b3, 2, none⟩ (.slice ao0 acc_0.length cap0))) := by have := zc0.out; rw [← hacc_0] at this; rw [← hl_0]; exact this
      rw [hl_0]
      obtain ⟨wA0, hwA0⟩ : ∃ x, x = wz0.setCell ⟨b3, 2, none⟩ (.slice ao0 acc_0.length cap0) := ⟨_, rfl⟩
      try rw [← hwA0]
      have hPA0 : Hid (PQ w b1 b2 b3 1 #[.int .u8 1, .slice ao n cap] acc_0 (.slice ao0 acc_0.length cap0) wA0) := by rw [hwA0]; exact zd_0.out
      have Hacc_0 := Lib.hid hacc_0
      clear hacc_0 hl_0 zd_0
      have hBA0 : Hid (wA0.heap[b5]? = some (.cells #[.float .f64 X0, .float .f64 X1, .float .f64 X2, .float .f64 0, .int .u8 1] 109 (0, 0))) := by rw [hwA0, Hid, Below.heap_setCell _ _ _ _ hb53]; exact zb0.out
      have HwA0 := Lib.hid hwA0
      clear hwA0 zc0 zd0 zf0 zb0 t2 t2f g0 g1 g2 g3 g4
      have t2 : wA0.cell? ⟨b3, 2, none⟩ = some (.slice ao0 acc_0.length cap0) := hPA0.out.c3.1
      have t2f : wA0.frozen? ⟨b3, 2, none⟩ = false := hPA0.out.c3.2
      have g0 : wA0.cell? ⟨b5, 0, none⟩ = some (.float .f64 X0) := by rw [Lib.cell_of_heap hBA0.out]; rfl
      have g1 : wA0.cell? ⟨b5, 1, none⟩ = some (.float .f64 X1) := by rw [Lib.cell_of_heap hBA0.out]; rfl
      have g2 : wA0.cell? ⟨b5, 2, none⟩ = some (.float .f64 X2) := by rw [Lib.cell_of_heap hBA0.out]; rfl
      have g3 : wA0.cell? ⟨b5, 3, none⟩ = some (.float .f64 0) := by rw [Lib.cell_of_heap hBA0.out]; rfl
      have g4 : wA0.cell? ⟨b5, 4, none⟩ = some (.int .u8 1) := by rw [Lib.cell_of_heap hBA0.out]; rfl
      go_wp2_with fail
      refine (CD.out _).mono ?_
      rintro e wx ⟨rfl, hwx⟩
      obtain rfl := hwx.symm
      go_upto_region 9 with (at_builtin; refine append_flts rfl _ _ rfl w.heap.size (.slice ao0 acc_0.length cap0) acc_0.length (flts acc_0) rfl wA0 [X2] hPA0.out.row rfl (by simp only [List.length_append, List.length_cons, List.length_nil]; omega) (by exact hPA0.out.size) ?_; intro u1 wz1 ho1 hk1 hbl1; obtain ⟨ao1, cap1, hv1⟩ := row_slice ho1; subst hv1; have zc1 := Lib.hid (hPA0.out.app ho1 hk1 hbl1); have zk1 := hk1 _ _ hPA0.out.h3 (no75 (by decide)); have zd1 : wz1.cell? ⟨b3, 2, none⟩ = some (.slice ao0 acc_0.length cap0) := (by rw [Lib.cell_of_heap zk1]; rfl); have zf1 := Lib.frozen_of_heap zk1 2; have zb1 := Lib.hid (hk1 _ _ hBA0.out (no75 (by decide))); clear zk1 ho1 hk1 hbl1)
      obtain ⟨acc_1, hacc_1⟩ : ∃ a, a = acc_0 ++ [X2] := ⟨_, rfl⟩
      have hl_1 : acc_0.length + 1 = acc_1.length := by rw [hacc_1]; simp
      have hle_1 : acc_1.length ≤ 20003 := by omega
      have zd_1 : Hid (PQ w b1 b2 b3 1 #[.int .u8 1, .slice ao n cap] acc_1 (.slice ao1 acc_1.length cap1) (wz1.setCell ⟨b3, 2, none⟩ (.slice ao1 acc_1.length cap1))) := by have := zc1.out; rw [← hacc_1] at this; rw [← hl_1]; exact this
      rw [hl_1]
      obtain ⟨wA1, hwA1⟩ : ∃ x, x = wz1.setCell ⟨b3, 2, none⟩ (.slice ao1 acc_1.length cap1) := ⟨_, rfl⟩
      try rw [← hwA1]
      have hPA1 : Hid (PQ w b1 b2 b3 1 #[.int .u8 1, .slice ao n cap] acc_1 (.slice ao1 acc_1.length cap1) wA1) := by rw [hwA1]; exact zd_1.out
      have Hacc_1 := Lib.hid hacc_1
      clear hacc_1 hl_1 zd_1
      have hBA1 : Hid (wA1.heap[b5]? = some (.cells #[.float .f64 X0, .float .f64 X1, .float .f64 X2, .float .f64 0, .int .u8 1] 109 (0, 0))) := by rw [hwA1, Hid, Below.heap_setCell _ _ _ _ hb53]; exact zb1.out
      have HwA1 := Lib.hid hwA1
      clear hwA1 zc1 zd1 zf1 zb1 t2 t2f g0 g1 g2 g3 g4
      have t2 : wA1.cell? ⟨b3, 2, none⟩ = some (.slice ao1 acc_1.length cap1) := hPA1.out.c3.1
      have t2f : wA1.frozen? ⟨b3, 2, none⟩ = false := hPA1.out.c3.2
      have g0 : wA1.cell? ⟨b5, 0, none⟩ = some (.float .f64 X0) := by rw [Lib.cell_of_heap hBA1.out]; rfl
      have g1 : wA1.cell? ⟨b5, 1, none⟩ = some (.float .f64 X1) := by rw [Lib.cell_of_heap hBA1.out]; rfl
      have g2 : wA1.cell? ⟨b5, 2, none⟩ = some (.float .f64 X2) := by rw [Lib.cell_of_heap hBA1.out]; rfl
      have g3 : wA1.cell? ⟨b5, 3, none⟩ = some (.float .f64 0) := by rw [Lib.cell_of_heap hBA1.out]; rfl
      have g4 : wA1.cell? ⟨b5, 4, none⟩ = some (.int .u8 1) := by rw [Lib.cell_of_heap hBA1.out]; rfl
      go_wp2_with fail
      refine (CM.out _).mono ?_
      rintro e wx ⟨rfl, hwx⟩
      obtain rfl := hwx.symm
      go_wp2_with fail
      go_roundg (gk - 1)
      case measure => omega
      case rel =>
        refine ⟨i + 1, (.slice ao1 acc_1.length cap1), by omega, by omega, by go_num, ?_⟩
        have hx : xs.take ((i + 1) * 3) = acc_1 := by
          have hq0 := Hacc_0.out
          have h0 := HM.out
          have h1 := HL.out
          rw [show (i + 1) * 3 = i * 3 + 1 + 1 + 1 by omega, take_one xs _ (by omega), take_one xs _ (by omega), take_one xs _ (by omega), Hacc_1.out, Hacc_0.out, Hacc.out, HX0.out, HX1.out, HX2.out, Hk.out]
          simp [List.append_assoc]
        rw [Hid, hx]
        first | exact hPA1.out | (rw [← HwA1.out]; exact hPA1.out)
    · have hlt : ¬ ((i : Int) < (m : Int)) := by omega
      obtain rfl : i = m := by omega
      have hx : xs.take (i * 3) = xs := List.take_of_length_le (by rw [HL.out, HM.out]; exact Nat.le_refl _)
      rw [hx] at hP4
      obtain ⟨aoz, capz, hv⟩ := row_slice hP4.out.row
      subst hv
      obtain ⟨nz, hnz⟩ : ∃ n, n = xs.length := ⟨_, rfl⟩
      rw [← hnz] at hP4
      have Hnz := Lib.hid hnz
      have k0 : w4.cell? ⟨b3, 0, none⟩ = some (.int .i64 2) := by rw [Lib.cell_of_heap hP4.out.h3]; rfl
      have k1 : w4.cell? ⟨b3, 1, none⟩ = some (.int .i64 1) := by rw [Lib.cell_of_heap hP4.out.h3]; rfl
      have k2 : w4.cell? ⟨b3, 2, none⟩ = some (.slice aoz nz capz) := by rw [Lib.cell_of_heap hP4.out.h3]; rfl
      have k3 : w4.cell? ⟨b3, 3, none⟩ = some (.slice none 0 0) := by rw [Lib.cell_of_heap hP4.out.h3]; rfl
      have l0 : w4.cell? ⟨b2, 0, none⟩ = some (.int .i64 0) := by rw [Lib.cell_of_heap hP4.out.h2]; rfl
      have l1 : w4.cell? ⟨b2, 1, none⟩ = some (.int .i64 0) := by rw [Lib.cell_of_heap hP4.out.h2]; rfl
      have l2 : w4.cell? ⟨b2, 2, none⟩ = some (.slice none 0 0) := by rw [Lib.cell_of_heap hP4.out.h2]; rfl
      have l3 : w4.cell? ⟨b2, 3, none⟩ = some (.slice none 0 0) := by rw [Lib.cell_of_heap hP4.out.h2]; rfl
      have lf0 := Lib.frozen_of_heap hP4.out.h2 0
      have lf1 := Lib.frozen_of_heap hP4.out.h2 1
      have lf2 := Lib.frozen_of_heap hP4.out.h2 2
      have lf3 := Lib.frozen_of_heap hP4.out.h2 3
      clear hx hnz d0 d1
      go_wp2_with fail
      have y0 := Lib.heap_setCell_same (i := 0) hP4.out.h2 (.int .i64 2)
      have y1 := Lib.heap_setCell_same (i := 1) y0 (.int .i64 1)
      have y2 := Lib.heap_setCell_same (i := 2) y1 (.slice aoz nz capz)
      have y3 := Lib.heap_setCell_same (i := 3) y2 (.slice none 0 0)
      have x0 := hP4.out.below.setCell (p := ⟨b2, 0, none⟩) hP4.out.l2 (.int .i64 2)
      have x1 := x0.setCell (p := ⟨b2, 1, none⟩) hP4.out.l2 (.int .i64 1)
      have x2 := x1.setCell (p := ⟨b2, 2, none⟩) hP4.out.l2 (.slice aoz nz capz)
      have x3 := x2.setCell (p := ⟨b2, 3, none⟩) hP4.out.l2 (.slice none 0 0)
      refine ⟨rfl, _, results_cell_row rfl _ _ b2 33 #[.int .i64 2, .int .i64 1, .slice aoz nz capz, .slice none 0 0] (0, 0) (.struct (Tryz.prog.fieldsOf 33)) rfl y3 (by kernel_rfl) rfl (by kernel_rfl), x3, aoz, capz, by rw [← Hnz.out]; rfl, ?_⟩
      have hro := hP4.out.row
      rw [← Hnz.out] at hro ⊢
      refine ⟨hro.1, ?_⟩
      rcases hro.2 with hn | ⟨q, cap', cur, hv, hbq, hq, rest⟩
      · exact .inl hn
      · refine .inr ⟨q, cap', cur, hv, hbq, ?_, rest⟩
        have hqb : q ≠ b2 := by
          rintro rfl
          rw [hP4.out.h2] at hq
          have := Option.some.inj hq
          injection this with _ e _
          exact absurd e (by decide)
        rw [Below.heap_setCell _ _ _ _ hqb, Below.heap_setCell _ _ _ _ hqb, Below.heap_setCell _ _ _ _ hqb, Below.heap_setCell _ _ _ _ hqb]
        exact hq
set_option maxHeartbeats 4000000 in
set_option maxRecDepth 100000 in
theorem plain_seq2 (ao : Option Addr) (n cap m B : Nat) (xs : List Nat) (w : World) (hl : xs.length = n) (hm : n = m * 3) (hn : n ≤ 20000) (hrow : w.ownsRow B 75 1 (.slice ao n cap) n (flts xs)) :
    Calls Tryz.prog 24 #[.agg #[.int .u8 2, .slice ao n cap]] w (SeqPost 2 xs w) := by
  obtain ⟨b1, hb1⟩ : ∃ b, b = w.heap.size := ⟨_, rfl⟩
  obtain ⟨b2, hb2⟩ : ∃ b, b = w.heap.size + 1 := ⟨_, rfl⟩
  have cD : ∀ W : World, Calls Tryz.prog 49 #[.int .u8 2] W fun e w' => e = .returned (.bool false) ∧ w' = W := fun W => is3d 2 (by omega) W
  have cM : ∀ W : World, Calls Tryz.prog 50 #[.int .u8 2] W fun e w' => e = .returned (.bool true) ∧ w' = W := fun W => ismeas 2 (by omega) W
  have cL := fun W : World => seq_len 2 (by omega) ao n cap m hm (by omega) W
  have cT := fun W : World => seq_type 2 ao n cap W
  have CD := Lib.hid cD
  have CM := Lib.hid cM
  have CL := Lib.hid cL
  have CT := Lib.hid cT
  have HR := Lib.hid hrow
  have HM := Lib.hid hm
  have HL := Lib.hid hl
  have hmn : m ≤ 20000 := by omega
  clear cD cM cL cT hrow hl hm
  go_enter Tryz.func24, Tryz.ntmps24
  go_upto_region 1 with fail
  obtain ⟨wa, hwa⟩ : ∃ wa, wa = w.alloc (Obj.cells #[.int .u8 2, .slice ao n cap] 40) := ⟨_, rfl⟩
  obtain ⟨w1, hw1⟩ : ∃ w1, w1 = wa.alloc (Obj.cells #[.int .i64 0, .int .i64 0, .slice none 0 0, .slice none 0 0] 33) := ⟨_, rfl⟩
  rw [← hwa, ← hw1, ← hb2, ← hb1]
  have hsa : wa.heap.size = w.heap.size + 1 := by rw [hwa]; show (w.heap.push _).size = _; rw [Array.size_push]
  have hs1 : w1.heap.size = w.heap.size + 2 := by rw [hw1]; show (wa.heap.push _).size = _; rw [Array.size_push, hsa]
  have hkp : Hid (Kp w w1) := by rw [hw1]; refine Kp.trans ?_ (Kp.alloc wa _); rw [hwa]; exact Kp.alloc w _
  have hB1 : w1.heap[b1]? = some (.cells #[.int .u8 2, .slice ao n cap] 40 (0, 0)) := by rw [hw1, hb1]; refine alloc_kept _ _ _ _ ?_; rw [hwa]; exact alloc_new w _
  have hB2 : w1.heap[b2]? = some (.cells geom0 33 (0, 0)) := by rw [hw1, hb2, ← hsa]; exact alloc_new _ _
  have c0 : w1.cell? ⟨b1, 0, none⟩ = some (.int .u8 2) := by rw [Lib.cell_of_heap hB1]; rfl
  have c1 : w1.cell? ⟨b1, 1, none⟩ = some (.slice ao n cap) := by rw [Lib.cell_of_heap hB1]; rfl
  have Hb1 := Lib.hid hb1
  have Hb2 := Lib.hid hb2
  have Hs1 := Lib.hid hs1
  have HB1 := Lib.hid hB1
  have HB2 := Lib.hid hB2
  clear hwa hw1 hsa hs1 hb1 hb2 hB1 hB2
  go_wp2_with fail
  refine (CT.out _).mono ?_
  rintro e w2 ⟨rfl, hk2⟩
  have HK2 := Lib.hid hk2
  clear hk2
  go_upto_region 2 with fail
  obtain ⟨b3, hb3⟩ : ∃ b, b = w2.heap.size := ⟨_, rfl⟩
  obtain ⟨w3, hw3⟩ : ∃ w3, w3 = w2.alloc (Obj.cells #[.int .i64 2, .int .i64 2, .slice none 0 0, .slice none 0 0] 33) := ⟨_, rfl⟩
  rw [← hw3, ← hb3]
  have hk3 : Kp w1 w3 := by rw [hw3]; exact HK2.out.trans (Kp.alloc _ _)
  have hpq : Hid (PQ w b1 b2 b3 2 #[.int .u8 2, .slice ao n cap] [] (.slice none 0 0) w3) := by
    have h2s := HK2.out.size
    have h1 := Hb1.out
    have h2 := Hb2.out
    have h3 := Hs1.out
    refine ⟨(hkp.out.trans hk3).below _ (Nat.le_refl _), hk3.ko _ _ HB1.out, hk3.ko _ _ HB2.out, ?_, World.ownsRow_nil _ _ _ _, by omega, by omega, by omega, by omega, by omega⟩
    rw [hw3, hb3]; exact alloc_new _ _
  clear hw3 hk3 hb3 c0 c1
  go_wp2_with fail
  go_loopg [4, 5] m (fun q si s5 wr => ∃ (i : Nat) (v : Value), i ≤ m ∧ q + i = m ∧ si = .int .i64 (i : Int) ∧ Hid (PQ w b1 b2 b3 2 #[.int .u8 2, .slice ao n cap] (xs.take (i * 3)) v wr))
  case atStart => exact ⟨0, .slice none 0 0, by omega, by omega, rfl, by simpa [Hid] using hpq⟩
  case round =>
    obtain ⟨i, v, hi, hq, rfl, hP⟩ := hrel
    have c0 : wr.cell? ⟨b1, 0, none⟩ = some (.int .u8 2) := by rw [Lib.cell_of_heap hP.out.h1]; rfl
    have c1 : wr.cell? ⟨b1, 1, none⟩ = some (.slice ao n cap) := by rw [Lib.cell_of_heap hP.out.h1]; rfl
    go_wp2_with fail
    refine (CL.out _).mono ?_
    rintro e w4 ⟨rfl, hk4⟩
    have hP4 : Hid (PQ w b1 b2 b3 2 #[.int .u8 2, .slice ao n cap] (xs.take (i * 3)) v w4) := hP.out.kp hk4
    have d0 : w4.cell? ⟨b1, 0, none⟩ = some (.int .u8 2) := by rw [Lib.cell_of_heap hP4.out.h1]; rfl
    have d1 : w4.cell? ⟨b1, 1, none⟩ = some (.slice ao n cap) := by rw [Lib.cell_of_heap hP4.out.h1]; rfl
    clear hk4 c0 c1
    by_cases him : i < m
    · have hlt : (i : Int) < (m : Int) := by omega
      obtain ⟨q, hao⟩ : ∃ q, ao = some ⟨q, 0, none⟩ := by
        rcases HR.out.2 with ⟨h1, h2⟩ | ⟨q, _, _, h1, _⟩
        · exfalso; have := HM.out; omega
        · injection h1 with h1 _ _; exact ⟨q, h1⟩
      obtain ⟨k, hk⟩ : ∃ k, k = i * 3 := ⟨_, rfl⟩
      have hkn : k + 3 ≤ n := by have := HM.out; omega
      have hget : Hid (Calls Tryz.prog 48 #[.agg #[.int .u8 2, .slice ao n cap], .int .i64 (i : Int)] w4 fun e w' => e = .returned (.agg (plc 2 (fun j => xs.getD (k + j) 0))) ∧ Kp w4 w') := by
        subst hao
        refine seq_get2 q n cap k i (fun j => xs.getD (k + j) 0) w4 hk hkn (by omega) (fun j hj => ?_)
        have hq : q < w.heap.size := by
          rcases HR.out.2 with ⟨h1, _⟩ | ⟨q', _, _, h1, _, h3, _⟩
          · injection h1 with h1 _ _; cases h1
          · injection h1 with h1 _ _
            injection h1 with h1
            injection h1 with h1 _ _
            subst h1
            exact Lib.lt_of_heap h3
        rw [hP4.out.below.cell (show q < w.heap.size from hq)]
        exact flts_get HR.out HL.out (k + j) (by omega)
      obtain ⟨X0, hX0⟩ : ∃ x, x = xs.getD (k + 0) 0 := ⟨_, rfl⟩
      obtain ⟨X1, hX1⟩ : ∃ x, x = xs.getD (k + 1) 0 := ⟨_, rfl⟩
      obtain ⟨X2, hX2⟩ : ∃ x, x = xs.getD (k + 2) 0 := ⟨_, rfl⟩
      have hplc : plc 2 (fun j => xs.getD (k + j) 0) = #[.float .f64 X0, .float .f64 X1, .float .f64 0, .float .f64 X2, .int .u8 2] := by rw [hX0, hX1, hX2]; rfl
      rw [hplc] at hget
      have HX0 := Lib.hid hX0
      have HX1 := Lib.hid hX1
      have HX2 := Lib.hid hX2
      have Hk := Lib.hid hk
      have Hao := Lib.hid hao
      clear hplc hk hao hX0 hX1 hX2
      go_wp2_with fail
      refine hget.out.mono ?_
      rintro e w5 ⟨rfl, hk5⟩
      have hP5 : Hid (PQ w b1 b2 b3 2 #[.int .u8 2, .slice ao n cap] (xs.take (i * 3)) v w5) := hP4.out.kp hk5
      clear hk5 d0 d1
      have hsf : ∀ (W : World) (i x : Nat), Sem.run Tryz.prog (store ⟨w5.heap.size, i, none⟩ (.float .f64 x)) W = stored Tryz.prog W ⟨w5.heap.size, i, none⟩ (.float .f64 x) .plain := fun W i x => run_store _ _ _ _ _ rfl
      go_upto_region 6 with fail
      obtain ⟨b5, hb5⟩ : ∃ b, b = w5.heap.size := ⟨_, rfl⟩
      obtain ⟨w6, hw6⟩ : ∃ w6, w6 = w5.alloc (Obj.cells #[.float .f64 X0, .float .f64 X1, .float .f64 0, .float .f64 X2, .int .u8 2] 109) := ⟨_, rfl⟩
      rw [← hw6, ← hb5]
      have hP6 : Hid (PQ w b1 b2 b3 2 #[.int .u8 2, .slice ao n cap] (xs.take (i * 3)) v w6) := by rw [hw6]; exact hP5.out.kp (Kp.alloc _ _)
      have hB5 : Hid (w6.heap[b5]? = some (.cells #[.float .f64 X0, .float .f64 X1, .float .f64 0, .float .f64 X2, .int .u8 2] 109 (0, 0))) := by rw [hw6, hb5]; exact alloc_new _ _
      have hb53 : b5 ≠ b3 := by have h1 := Lib.lt_of_heap hP5.out.h3; omega
      clear hw6 hb5 hsf
      obtain ⟨acc, hacc⟩ : ∃ acc, acc = xs.take (i * 3) := ⟨_, rfl⟩
      rw [← hacc] at hP6
      have hlen0 : (xs.take (i * 3)).length ≤ 20000 := by rw [List.length_take]; have := HM.out; omega
      have hlen : acc.length ≤ 20000 := by rw [hacc]; exact hlen0
      have Hacc := Lib.hid hacc
      clear hacc hlen0
      have t2 : w6.cell? ⟨b3, 2, none⟩ = some v := hP6.out.c3.1
      have t2f : w6.frozen? ⟨b3, 2, none⟩ = false := hP6.out.c3.2
      have g0 : w6.cell? ⟨b5, 0, none⟩ = some (.float .f64 X0) := by rw [Lib.cell_of_heap hB5.out]; rfl
      have g1 : w6.cell? ⟨b5, 1, none⟩ = some (.float .f64 X1) := by rw [Lib.cell_of_heap hB5.out]; rfl
      have g2 : w6.cell? ⟨b5, 2, none⟩ = some (.float .f64 0) := by rw [Lib.cell_of_heap hB5.out]; rfl
      have g3 : w6.cell? ⟨b5, 3, none⟩ = some (.float .f64 X2) := by rw [Lib.cell_of_heap hB5.out]; rfl
      have g4 : w6.cell? ⟨b5, 4, none⟩ = some (.int .u8 2) := by rw [Lib.cell_of_heap hB5.out]; rfl
      go_upto_region 7 with (at_builtin; refine append_flts rfl _ _ rfl w.heap.size v acc.length (flts acc) rfl w6 [X0, X1] hP6.out.row rfl (by simp only [List.length_append, List.length_cons, List.length_nil]; omega) (by exact hP6.out.size) ?_; intro u0 wz0 ho0 hk0 hbl0; obtain ⟨ao0, cap0, hv0⟩ := row_slice ho0; subst hv0; have zc0 := Lib.hid (hP6.out.app ho0 hk0 hbl0); have zk0 := hk0 _ _ hP6.out.h3 (no75 (by decide)); have zd0 : wz0.cell? ⟨b3, 2, none⟩ = some v := (by rw [Lib.cell_of_heap zk0]; rfl); have zf0 := Lib.frozen_of_heap zk0 2; have zb0 := Lib.hid (hk0 _ _ hB5.out (no75 (by decide))); clear zk0 ho0 hk0 hbl0)
      obtain ⟨acc_0, hacc_0⟩ : ∃ a, a = acc ++ [X0, X1] := ⟨_, rfl⟩
      have hl_0 : acc.length + 2 = acc_0.length := by rw [hacc_0]; simp
      have hle_0 : acc_0.length ≤ 20002 := by omega
      have zd_0 : Hid (PQ w b1 b2 b3 2 #[.int .u8 2, .slice ao n cap] acc_0 (.slice ao0 acc_0.length cap0) (wz0.setCell ⟨b3, 2, none⟩ (.slice ao0 acc_0.length cap0))) := by have := zc0.out; rw [← hacc_0] at this; rw [← hl_0]; exact this
      rw [hl_0]
      obtain ⟨wA0, hwA0⟩ : ∃ x, x = wz0.setCell ⟨b3, 2, none⟩ (.slice ao0 acc_0.length cap0) := ⟨_, rfl⟩
      try rw [← hwA0]
      have hPA0 : Hid (PQ w b1 b2 b3 2 #[.int .u8 2, .slice ao n cap] acc_0 (.slice ao0 acc_0.length cap0) wA0) := by rw [hwA0]; exact zd_0.out
      have Hacc_0 := Lib.hid hacc_0
      clear hacc_0 hl_0 zd_0
      have hBA0 : Hid (wA0.heap[b5]? = some (.cells #[.float .f64 X0, .float .f64 X1, .float .f64 0, .float .f64 X2, .int .u8 2] 109 (0, 0))) := by rw [hwA0, Hid, Below.heap_setCell _ _ _ _ hb53]; exact zb0.out
      have HwA0 := Lib.hid hwA0
      clear hwA0 zc0 zd0 zf0 zb0 t2 t2f g0 g1 g2 g3 g4
      have t2 : wA0.cell? ⟨b3, 2, none⟩ = some (.slice ao0 acc_0.length cap0) := hPA0.out.c3.1
      have t2f : wA0.frozen? ⟨b3, 2, none⟩ = false := hPA0.out.c3.2
      have g0 : wA0.cell? ⟨b5, 0, none⟩ = some (.float .f64 X0) := by rw [Lib.cell_of_heap hBA0.out]; rfl
      have g1 : wA0.cell? ⟨b5, 1, none⟩ = some (.float .f64 X1) := by rw [Lib.cell_of_heap hBA0.out]; rfl
      have g2 : wA0.cell? ⟨b5, 2, none⟩ = some (.float .f64 0) := by rw [Lib.cell_of_heap hBA0.out]; rfl
      have g3 : wA0.cell? ⟨b5, 3, none⟩ = some (.float .f64 X2) := by rw [Lib.cell_of_heap hBA0.out]; rfl
      have g4 : wA0.cell? ⟨b5, 4, none⟩ = some (.int .u8 2) := by rw [Lib.cell_of_heap hBA0.out]; rfl
      go_wp2_with fail
      refine (CD.out _).mono ?_
      rintro e wx ⟨rfl, hwx⟩
      obtain rfl := hwx.symm
      go_wp2_with fail
      refine (CM.out _).mono ?_
      rintro e wx ⟨rfl, hwx⟩
      obtain rfl := hwx.symm
      go_wp2_with (at_builtin; refine append_flts rfl _ _ rfl w.heap.size (.slice ao0 acc_0.length cap0) acc_0.length (flts acc_0) rfl wA0 [X2] hPA0.out.row rfl (by simp only [List.length_append, List.length_cons, List.length_nil]; omega) (by exact hPA0.out.size) ?_; intro u1 wz1 ho1 hk1 hbl1; obtain ⟨ao1, cap1, hv1⟩ := row_slice ho1; subst hv1; have zc1 := Lib.hid (hPA0.out.app ho1 hk1 hbl1); have zk1 := hk1 _ _ hPA0.out.h3 (no75 (by decide)); have zd1 : wz1.cell? ⟨b3, 2, none⟩ = some (.slice ao0 acc_0.length cap0) := (by rw [Lib.cell_of_heap zk1]; rfl); have zf1 := Lib.frozen_of_heap zk1 2; have zb1 := Lib.hid (hk1 _ _ hBA0.out (no75 (by decide))); clear zk1 ho1 hk1 hbl1)
      obtain ⟨acc_1, hacc_1⟩ : ∃ a, a = acc_0 ++ [X2] := ⟨_, rfl⟩
      have hl_1 : acc_0.length + 1 = acc_1.length := by rw [hacc_1]; simp
      have hle_1 : acc_1.length ≤ 20003 := by omega
      have zd_1 : Hid (PQ w b1 b2 b3 2 #[.int .u8 2, .slice ao n cap] acc_1 (.slice ao1 acc_1.length cap1) (wz1.setCell ⟨b3, 2, none⟩ (.slice ao1 acc_1.length cap1))) := by have := zc1.out; rw [← hacc_1] at this; rw [← hl_1]; exact this
      rw [hl_1]
      obtain ⟨wA1, hwA1⟩ : ∃ x, x = wz1.setCell ⟨b3, 2, none⟩ (.slice ao1 acc_1.length cap1) := ⟨_, rfl⟩
      try rw [← hwA1]
      have hPA1 : Hid (PQ w b1 b2 b3 2 #[.int .u8 2, .slice ao n cap] acc_1 (.slice ao1 acc_1.length cap1) wA1) := by rw [hwA1]; exact zd_1.out
      have Hacc_1 := Lib.hid hacc_1
      clear hacc_1 hl_1 zd_1
      have hBA1 : Hid (wA1.heap[b5]? = some (.cells #[.float .f64 X0, .float .f64 X1, .float .f64 0, .float .f64 X2, .int .u8 2] 109 (0, 0))) := by rw [hwA1, Hid, Below.heap_setCell _ _ _ _ hb53]; exact zb1.out
      have HwA1 := Lib.hid hwA1
      clear hwA1 zc1 zd1 zf1 zb1 t2 t2f g0 g1 g2 g3 g4
      go_roundg (gk - 1)
      case measure => omega
      case rel =>
        refine ⟨i + 1, (.slice ao1 acc_1.length cap1), by omega, by omega, by go_num, ?_⟩
        have hx : xs.take ((i + 1) * 3) = acc_1 := by
          have hq0 := Hacc_0.out
          have h0 := HM.out
          have h1 := HL.out
          rw [show (i + 1) * 3 = i * 3 + 1 + 1 + 1 by omega, take_one xs _ (by omega), take_one xs _ (by omega), take_one xs _ (by omega), Hacc_1.out, Hacc_0.out, Hacc.out, HX0.out, HX1.out, HX2.out, Hk.out]
          simp [List.append_assoc]
        rw [Hid, hx]
        first | exact hPA1.out | (rw [← HwA1.out]; exact hPA1.out)
    · have hlt : ¬ ((i : Int) < (m : Int)) := by omega
      obtain rfl : i = m := by omega
      have hx : xs.take (i * 3) = xs := List.take_of_length_le (by rw [HL.out, HM.out]; exact Nat.le_refl _)
      rw [hx] at hP4
      obtain ⟨aoz, capz, hv⟩ := row_slice hP4.out.row
      subst hv
      obtain ⟨nz, hnz⟩ : ∃ n, n = xs.length := ⟨_, rfl⟩
      rw [← hnz] at hP4
      have Hnz := Lib.hid hnz
      have k0 : w4.cell? ⟨b3, 0, none⟩ = some (.int .i64 2) := by rw [Lib.cell_of_heap hP4.out.h3]; rfl
      have k1 : w4.cell? ⟨b3, 1, none⟩ = some (.int .i64 2) := by rw [Lib.cell_of_heap hP4.out.h3]; rfl
      have k2 : w4.cell? ⟨b3, 2, none⟩ = some (.slice aoz nz capz) := by rw [Lib.cell_of_heap hP4.out.h3]; rfl
      have k3 : w4.cell? ⟨b3, 3, none⟩ = some (.slice none 0 0) := by rw [Lib.cell_of_heap hP4.out.h3]; rfl
      have l0 : w4.cell? ⟨b2, 0, none⟩ = some (.int .i64 0) := by rw [Lib.cell_of_heap hP4.out.h2]; rfl
      have l1 : w4.cell? ⟨b2, 1, none⟩ = some (.int .i64 0) := by rw [Lib.cell_of_heap hP4.out.h2]; rfl
      have l2 : w4.cell? ⟨b2, 2, none⟩ = some (.slice none 0 0) := by rw [Lib.cell_of_heap hP4.out.h2]; rfl
      have l3 : w4.cell? ⟨b2, 3, none⟩ = some (.slice none 0 0) := by rw [Lib.cell_of_heap hP4.out.h2]; rfl
      have lf0 := Lib.frozen_of_heap hP4.out.h2 0
      have lf1 := Lib.frozen_of_heap hP4.out.h2 1
      have lf2 := Lib.frozen_of_heap hP4.out.h2 2
      have lf3 := Lib.frozen_of_heap hP4.out.h2 3
      clear hx hnz d0 d1
      go_wp2_with fail
      have y0 := Lib.heap_setCell_same (i := 0) hP4.out.h2 (.int .i64 2)
      have y1 := Lib.heap_setCell_same (i := 1) y0 (.int .i64 2)
      have y2 := Lib.heap_setCell_same (i := 2) y1 (.slice aoz nz capz)
      have y3 := Lib.heap_setCell_same (i := 3) y2 (.slice none 0 0)
      have x0 := hP4.out.below.setCell (p := ⟨b2, 0, none⟩) hP4.out.l2 (.int .i64 2)
      have x1 := x0.setCell (p := ⟨b2, 1, none⟩) hP4.out.l2 (.int .i64 2)
      have x2 := x1.setCell (p := ⟨b2, 2, none⟩) hP4.out.l2 (.slice aoz nz capz)
      have x3 := x2.setCell (p := ⟨b2, 3, none⟩) hP4.out.l2 (.slice none 0 0)
      refine ⟨rfl, _, results_cell_row rfl _ _ b2 33 #[.int .i64 2, .int .i64 2, .slice aoz nz capz, .slice none 0 0] (0, 0) (.struct (Tryz.prog.fieldsOf 33)) rfl y3 (by kernel_rfl) rfl (by kernel_rfl), x3, aoz, capz, by rw [← Hnz.out]; rfl, ?_⟩
      have hro := hP4.out.row
      rw [← Hnz.out] at hro ⊢
      refine ⟨hro.1, ?_⟩
      rcases hro.2 with hn | ⟨q, cap', cur, hv, hbq, hq, rest⟩
      · exact .inl hn
      · refine .inr ⟨q, cap', cur, hv, hbq, ?_, rest⟩
        have hqb : q ≠ b2 := by
          rintro rfl
          rw [hP4.out.h2] at hq
          have := Option.some.inj hq
          injection this with _ e _
          exact absurd e (by decide)
        rw [Below.heap_setCell _ _ _ _ hqb, Below.heap_setCell _ _ _ _ hqb, Below.heap_setCell _ _ _ _ hqb, Below.heap_setCell _ _ _ _ hqb]
        exact hq
set_option maxHeartbeats 4000000 in
set_option maxRecDepth 100000 in
theorem plain_seq3 (ao : Option Addr) (n cap m B : Nat) (xs : List Nat) (w : World) (hl : xs.length = n) (hm : n = m * 4) (hn : n ≤ 20000) (hrow : w.ownsRow B 75 1 (.slice ao n cap) n (flts xs)) :
    Calls Tryz.prog 24 #[.agg #[.int .u8 3, .slice ao n cap]] w (SeqPost 3 xs w) := by
  obtain ⟨b1, hb1⟩ : ∃ b, b = w.heap.size := ⟨_, rfl⟩
  obtain ⟨b2, hb2⟩ : ∃ b, b = w.heap.size + 1 := ⟨_, rfl⟩
  have cD : ∀ W : World, Calls Tryz.prog 49 #[.int .u8 3] W fun e w' => e = .returned (.bool true) ∧ w' = W := fun W => is3d 3 (by omega) W
  have cM : ∀ W : World, Calls Tryz.prog 50 #[.int .u8 3] W fun e w' => e = .returned (.bool true) ∧ w' = W := fun W => ismeas 3 (by omega) W
  have cL := fun W : World => seq_len 3 (by omega) ao n cap m hm (by omega) W
  have cT := fun W : World => seq_type 3 ao n cap W
  have CD := Lib.hid cD
  have CM := Lib.hid cM
  have CL := Lib.hid cL
  have CT := Lib.hid cT
  have HR := Lib.hid hrow
  have HM := Lib.hid hm
  have HL := Lib.hid hl
  have hmn : m ≤ 20000 := by omega
  clear cD cM cL cT hrow hl hm
  go_enter Tryz.func24, Tryz.ntmps24
  go_upto_region 1 with fail
  obtain ⟨wa, hwa⟩ : ∃ wa, wa = w.alloc (Obj.cells #[.int .u8 3, .slice ao n cap] 40) := ⟨_, rfl⟩
  obtain ⟨w1, hw1⟩ : ∃ w1, w1 = wa.alloc (Obj.cells #[.int .i64 0, .int .i64 0, .slice none 0 0, .slice none 0 0] 33) := ⟨_, rfl⟩
  rw [← hwa, ← hw1, ← hb2, ← hb1]
  have hsa : wa.heap.size = w.heap.size + 1 := by rw [hwa]; show (w.heap.push _).size = _; rw [Array.size_push]
  have hs1 : w1.heap.size = w.heap.size + 2 := by rw [hw1]; show (wa.heap.push _).size = _; rw [Array.size_push, hsa]
  have hkp : Hid (Kp w w1) := by rw [hw1]; refine Kp.trans ?_ (Kp.alloc wa _); rw [hwa]; exact Kp.alloc w _
  have hB1 : w1.heap[b1]? = some (.cells #[.int .u8 3, .slice ao n cap] 40 (0, 0)) := by rw [hw1, hb1]; refine alloc_kept _ _ _ _ ?_; rw [hwa]; exact alloc_new w _
  have hB2 : w1.heap[b2]? = some (.cells geom0 33 (0, 0)) := by rw [hw1, hb2, ← hsa]; exact alloc_new _ _
  have c0 : w1.cell? ⟨b1, 0, none⟩ = some (.int .u8 3) := by rw [Lib.cell_of_heap hB1]; rfl
  have c1 : w1.cell? ⟨b1, 1, none⟩ = some (.slice ao n cap) := by rw [Lib.cell_of_heap hB1]; rfl
  have Hb1 := Lib.hid hb1
  have Hb2 := Lib.hid hb2
  have Hs1 := Lib.hid hs1
  have HB1 := Lib.hid hB1
  have HB2 := Lib.hid hB2
  clear hwa hw1 hsa hs1 hb1 hb2 hB1 hB2
  go_wp2_with fail
  refine (CT.out _).mono ?_
  rintro e w2 ⟨rfl, hk2⟩
  have HK2 := Lib.hid hk2
  clear hk2
  go_upto_region 2 with fail
  obtain ⟨b3, hb3⟩ : ∃ b, b = w2.heap.size := ⟨_, rfl⟩
  obtain ⟨w3, hw3⟩ : ∃ w3, w3 = w2.alloc (Obj.cells #[.int .i64 2, .int .i64 3, .slice none 0 0, .slice none 0 0] 33) := ⟨_, rfl⟩
  rw [← hw3, ← hb3]
  have hk3 : Kp w1 w3 := by rw [hw3]; exact HK2.out.trans (Kp.alloc _ _)
  have hpq : Hid (PQ w b1 b2 b3 3 #[.int .u8 3, .slice ao n cap] [] (.slice none 0 0) w3) := by
    have h2s := HK2.out.size
    have h1 := Hb1.out
    have h2 := Hb2.out
    have h3 := Hs1.out
    refine ⟨(hkp.out.trans hk3).below _ (Nat.le_refl _), hk3.ko _ _ HB1.out, hk3.ko _ _ HB2.out, ?_, World.ownsRow_nil _ _ _ _, by omega, by omega, by omega, by omega, by omega⟩
    rw [hw3, hb3]; exact alloc_new _ _
  clear hw3 hk3 hb3 c0 c1
  go_wp2_with fail
  go_loopg [4, 5] m (fun q si s5 wr => ∃ (i : Nat) (v : Value), i ≤ m ∧ q + i = m ∧ si = .int .i64 (i : Int) ∧ Hid (PQ w b1 b2 b3 3 #[.int .u8 3, .slice ao n cap] (xs.take (i * 4)) v wr))
  case atStart => exact ⟨0, .slice none 0 0, by omega, by omega, rfl, by simpa [Hid] using hpq⟩
  case round =>
    obtain ⟨i, v, hi, hq, rfl, hP⟩ := hrel
    have c0 : wr.cell? ⟨b1, 0, none⟩ = some (.int .u8 3) := by rw [Lib.cell_of_heap hP.out.h1]; rfl
    have c1 : wr.cell? ⟨b1, 1, none⟩ = some (.slice ao n cap) := by rw [Lib.cell_of_heap hP.out.h1]; rfl
    go_wp2_with fail
    refine (CL.out _).mono ?_
    rintro e w4 ⟨rfl, hk4⟩
    have hP4 : Hid (PQ w b1 b2 b3 3 #[.int .u8 3, .slice ao n cap] (xs.take (i * 4)) v w4) := hP.out.kp hk4
    have d0 : w4.cell? ⟨b1, 0, none⟩ = some (.int .u8 3) := by rw [Lib.cell_of_heap hP4.out.h1]; rfl
    have d1 : w4.cell? ⟨b1, 1, none⟩ = some (.slice ao n cap) := by rw [Lib.cell_of_heap hP4.out.h1]; rfl
    clear hk4 c0 c1
    by_cases him : i < m
    · have hlt : (i : Int) < (m : Int) := by omega
      obtain ⟨q, hao⟩ : ∃ q, ao = some ⟨q, 0, none⟩ := by
        rcases HR.out.2 with ⟨h1, h2⟩ | ⟨q, _, _, h1, _⟩
        · exfalso; have := HM.out; omega
        · injection h1 with h1 _ _; exact ⟨q, h1⟩
      obtain ⟨k, hk⟩ : ∃ k, k = i * 4 := ⟨_, rfl⟩
      have hkn : k + 4 ≤ n := by have := HM.out; omega
      have hget : Hid (Calls Tryz.prog 48 #[.agg #[.int .u8 3, .slice ao n cap], .int .i64 (i : Int)] w4 fun e w' => e = .returned (.agg (plc 3 (fun j => xs.getD (k + j) 0))) ∧ Kp w4 w') := by
        subst hao
        refine seq_get3 q n cap k i (fun j => xs.getD (k + j) 0) w4 hk hkn (by omega) (fun j hj => ?_)
        have hq : q < w.heap.size := by
          rcases HR.out.2 with ⟨h1, _⟩ | ⟨q', _, _, h1, _, h3, _⟩
          · injection h1 with h1 _ _; cases h1
          · injection h1 with h1 _ _
            injection h1 with h1
            injection h1 with h1 _ _
            subst h1
            exact Lib.lt_of_heap h3
        rw [hP4.out.below.cell (show q < w.heap.size from hq)]
        exact flts_get HR.out HL.out (k + j) (by omega)
      obtain ⟨X0, hX0⟩ : ∃ x, x = xs.getD (k + 0) 0 := ⟨_, rfl⟩
      obtain ⟨X1, hX1⟩ : ∃ x, x = xs.getD (k + 1) 0 := ⟨_, rfl⟩
      obtain ⟨X2, hX2⟩ : ∃ x, x = xs.getD (k + 2) 0 := ⟨_, rfl⟩
      obtain ⟨X3, hX3⟩ : ∃ x, x = xs.getD (k + 3) 0 := ⟨_, rfl⟩
      have hplc : plc 3 (fun j => xs.getD (k + j) 0) = #[.float .f64 X0, .float .f64 X1, .float .f64 X2, .float .f64 X3, .int .u8 3] := by rw [hX0, hX1, hX2, hX3]; rfl
      rw [hplc] at hget
      have HX0 := Lib.hid hX0
      have HX1 := Lib.hid hX1
      have HX2 := Lib.hid hX2
      have HX3 := Lib.hid hX3
      have Hk := Lib.hid hk
      have Hao := Lib.hid hao
      clear hplc hk hao hX0 hX1 hX2 hX3
      go_wp2_with fail
      refine hget.out.mono ?_
      rintro e w5 ⟨rfl, hk5⟩
      have hP5 : Hid (PQ w b1 b2 b3 3 #[.int .u8 3, .slice ao n cap] (xs.take (i * 4)) v w5) := hP4.out.kp hk5
      clear hk5 d0 d1
      have hsf : ∀ (W : World) (i x : Nat), Sem.run Tryz.prog (store ⟨w5.heap.size, i, none⟩ (.float .f64 x)) W = stored Tryz.prog W ⟨w5.heap.size, i, none⟩ (.float .f64 x) .plain := fun W i x => run_store _ _ _ _ _ rfl
      go_upto_region 6 with fail
      obtain ⟨b5, hb5⟩ : ∃ b, b = w5.heap.size := ⟨_, rfl⟩
      obtain ⟨w6, hw6⟩ : ∃ w6, w6 = w5.alloc (Obj.cells #[.float .f64 X0, .float .f64 X1, .float .f64 X2, .float .f64 X3, .int .u8 3] 109) := ⟨_, rfl⟩
      rw [← hw6, ← hb5]
      have hP6 : Hid (PQ w b1 b2 b3 3 #[.int .u8 3, .slice ao n cap] (xs.take (i * 4)) v w6) := by rw [hw6]; exact hP5.out.kp (Kp.alloc _ _)
      have hB5 : Hid (w6.heap[b5]? = some (.cells #[.float .f64 X0, .float .f64 X1, .float .f64 X2, .float .f64 X3, .int .u8 3] 109 (0, 0))) := by rw [hw6, hb5]; exact alloc_new _ _
      have hb53 : b5 ≠ b3 := by have h1 := Lib.lt_of_heap hP5.out.h3; omega
      clear hw6 hb5 hsf
      obtain ⟨acc, hacc⟩ : ∃ acc, acc = xs.take (i * 4) := ⟨_, rfl⟩
      rw [← hacc] at hP6
      have hlen0 : (xs.take (i * 4)).length ≤ 20000 := by rw [List.length_take]; have := HM.out; omega
      have hlen : acc.length ≤ 20000 := by rw [hacc]; exact hlen0
      have Hacc := Lib.hid hacc
      clear hacc hlen0
      have t2 : w6.cell? ⟨b3, 2, none⟩ = some v := hP6.out.c3.1
      have t2f : w6.frozen? ⟨b3, 2, none⟩ = false := hP6.out.c3.2
      have g0 : w6.cell? ⟨b5, 0, none⟩ = some (.float .f64 X0) := by rw [Lib.cell_of_heap hB5.out]; rfl
      have g1 : w6.cell? ⟨b5, 1, none⟩ = some (.float .f64 X1) := by rw [Lib.cell_of_heap hB5.out]; rfl
      have g2 : w6.cell? ⟨b5, 2, none⟩ = some (.float .f64 X2) := by rw [Lib.cell_of_heap hB5.out]; rfl
      have g3 : w6.cell? ⟨b5, 3, none⟩ = some (.float .f64 X3) := by rw [Lib.cell_of_heap hB5.out]; rfl
      have g4 : w6.cell? ⟨b5, 4, none⟩ = some (.int .u8 3) := by rw [Lib.cell_of_heap hB5.out]; rfl
      go_upto_region 7 with (at_builtin; refine append_flts rfl _ _ rfl w.heap.size v acc.length (flts acc) rfl w6 [X0, X1] hP6.out.row rfl (by simp only [List.length_append, List.length_cons, List.length_nil]; omega) (by exact hP6.out.size) ?_; intro u0 wz0 ho0 hk0 hbl0; obtain ⟨ao0, cap0, hv0⟩ := row_slice ho0; subst hv0; have zc0 := Lib.hid (hP6.out.app ho0 hk0 hbl0); have zk0 := hk0 _ _ hP6.out.h3 (no75 (by decide)); have zd0 : wz0.cell? ⟨b3, 2, none⟩ = some v := (by rw [Lib.cell_of_heap zk0]; rfl); have zf0 := Lib.frozen_of_heap zk0 2; have zb0 := Lib.hid (hk0 _ _ hB5.out (no75 (by decide))); clear zk0 ho0 hk0 hbl0)
      obtain ⟨acc_0, hacc_0⟩ : ∃ a, a = acc ++ [X0, X1] := ⟨_, rfl⟩
      have hl_0 : acc.length + 2 = acc_0.length := by rw [hacc_0]; simp
      have hle_0 : acc_0.length ≤ 20002 := by omega
      have zd_0 : Hid (PQ w b1 b2 b3 3 #[.int .u8 3, .slice ao n cap] acc_0 (.slice ao0 acc_0.length cap0) (wz0.setCell ⟨b3, 2, none⟩ (.slice ao0 acc_0.length cap0))) := by have := zc0.out; rw [← hacc_0] at this; rw [← hl_0]; exact this
      rw [hl_0]
      obtain ⟨wA0, hwA0⟩ : ∃ x, x = wz0.setCell ⟨b3, 2, none⟩ (.slice ao0 acc_0.length cap0) := ⟨_, rfl⟩
      try rw [← hwA0]
      have hPA0 : Hid (PQ w b1 b2 b3 3 #[.int .u8 3, .slice ao n cap] acc_0 (.slice ao0 acc_0.length cap0) wA0) := by rw [hwA0]; exact zd_0.out
      have Hacc_0 := Lib.hid hacc_0
      clear hacc_0 hl_0 zd_0
      have hBA0 : Hid (wA0.heap[b5]? = some (.cells #[.float .f64 X0, .float .f64 X1, .float .f64 X2, .float .f64 X3, .int .u8 3] 109 (0, 0))) := by rw [hwA0, Hid, Below.heap_setCell _ _ _ _ hb53]; exact zb0.out
      have HwA0 := Lib.hid hwA0
      clear hwA0 zc0 zd0 zf0 zb0 t2 t2f g0 g1 g2 g3 g4
      have t2 : wA0.cell? ⟨b3, 2, none⟩ = some (.slice ao0 acc_0.length cap0) := hPA0.out.c3.1
      have t2f : wA0.frozen? ⟨b3, 2, none⟩ = false := hPA0.out.c3.2
      have g0 : wA0.cell? ⟨b5, 0, none⟩ = some (.float .f64 X0) := by rw [Lib.cell_of_heap hBA0.out]; rfl
      have g1 : wA0.cell? ⟨b5, 1, none⟩ = some (.float .f64 X1) := by rw [Lib.cell_of_heap hBA0.out]; rfl
      have g2 : wA0.cell? ⟨b5, 2, none⟩ = some (.float .f64 X2) := by rw [Lib.cell_of_heap hBA0.out]; rfl
      have g3 : wA0.cell? ⟨b5, 3, none⟩ = some (.float .f64 X3) := by rw [Lib.cell_of_heap hBA0.out]; rfl
      have g4 : wA0.cell? ⟨b5, 4, none⟩ = some (.int .u8 3) := by rw [Lib.cell_of_heap hBA0.out]; rfl
      go_wp2_with fail
      refine (CD.out _).mono ?_
      rintro e wx ⟨rfl, hwx⟩
      obtain rfl := hwx.symm
      go_upto_region 9 with (at_builtin; refine append_flts rfl _ _ rfl w.heap.size (.slice ao0 acc_0.length cap0) acc_0.length (flts acc_0) rfl wA0 [X2] hPA0.out.row rfl (by simp only [List.length_append, List.length_cons, List.length_nil]; omega) (by exact hPA0.out.size) ?_; intro u1 wz1 ho1 hk1 hbl1; obtain ⟨ao1, cap1, hv1⟩ := row_slice ho1; subst hv1; have zc1 := Lib.hid (hPA0.out.app ho1 hk1 hbl1); have zk1 := hk1 _ _ hPA0.out.h3 (no75 (by decide)); have zd1 : wz1.cell? ⟨b3, 2, none⟩ = some (.slice ao0 acc_0.length cap0) := (by rw [Lib.cell_of_heap zk1]; rfl); have zf1 := Lib.frozen_of_heap zk1 2; have zb1 := Lib.hid (hk1 _ _ hBA0.out (no75 (by decide))); clear zk1 ho1 hk1 hbl1)
      obtain ⟨acc_1, hacc_1⟩ : ∃ a, a = acc_0 ++ [X2] := ⟨_, rfl⟩
      have hl_1 : acc_0.length + 1 = acc_1.length := by rw [hacc_1]; simp
      have hle_1 : acc_1.length ≤ 20003 := by omega
      have zd_1 : Hid (PQ w b1 b2 b3 3 #[.int .u8 3, .slice ao n cap] acc_1 (.slice ao1 acc_1.length cap1) (wz1.setCell ⟨b3, 2, none⟩ (.slice ao1 acc_1.length cap1))) := by have := zc1.out; rw [← hacc_1] at this; rw [← hl_1]; exact this
      rw [hl_1]
      obtain ⟨wA1, hwA1⟩ : ∃ x, x = wz1.setCell ⟨b3, 2, none⟩ (.slice ao1 acc_1.length cap1) := ⟨_, rfl⟩
      try rw [← hwA1]
      have hPA1 : Hid (PQ w b1 b2 b3 3 #[.int .u8 3, .slice ao n cap] acc_1 (.slice ao1 acc_1.length cap1) wA1) := by rw [hwA1]; exact zd_1.out
      have Hacc_1 := Lib.hid hacc_1
      clear hacc_1 hl_1 zd_1
      have hBA1 : Hid (wA1.heap[b5]? = some (.cells #[.float .f64 X0, .float .f64 X1, .float .f64 X2, .float .f64 X3, .int .u8 3] 109 (0, 0))) := by rw [hwA1, Hid, Below.heap_setCell _ _ _ _ hb53]; exact zb1.out
      have HwA1 := Lib.hid hwA1
      clear hwA1 zc1 zd1 zf1 zb1 t2 t2f g0 g1 g2 g3 g4
      have t2 : wA1.cell? ⟨b3, 2, none⟩ = some (.slice ao1 acc_1.length cap1) := hPA1.out.c3.1
      have t2f : wA1.frozen? ⟨b3, 2, none⟩ = false := hPA1.out.c3.2
      have g0 : wA1.cell? ⟨b5, 0, none⟩ = some (.float .f64 X0) := by rw [Lib.cell_of_heap hBA1.out]; rfl
      have g1 : wA1.cell? ⟨b5, 1, none⟩ = some (.float .f64 X1) := by rw [Lib.cell_of_heap hBA1.out]; rfl
      have g2 : wA1.cell? ⟨b5, 2, none⟩ = some (.float .f64 X2) := by rw [Lib.cell_of_heap hBA1.out]; rfl
      have g3 : wA1.cell? ⟨b5, 3, none⟩ = some (.float .f64 X3) := by rw [Lib.cell_of_heap hBA1.out]; rfl
      have g4 : wA1.cell? ⟨b5, 4, none⟩ = some (.int .u8 3) := by rw [Lib.cell_of_heap hBA1.out]; rfl
      go_wp2_with fail
      refine (CM.out _).mono ?_
      rintro e wx ⟨rfl, hwx⟩
      obtain rfl := hwx.symm
      go_wp2_with (at_builtin; refine append_flts rfl _ _ rfl w.heap.size (.slice ao1 acc_1.length cap1) acc_1.length (flts acc_1) rfl wA1 [X3] hPA1.out.row rfl (by simp only [List.length_append, List.length_cons, List.length_nil]; omega) (by exact hPA1.out.size) ?_; intro u2 wz2 ho2 hk2 hbl2; obtain ⟨ao2, cap2, hv2⟩ := row_slice ho2; subst hv2; have zc2 := Lib.hid (hPA1.out.app ho2 hk2 hbl2); have zk2 := hk2 _ _ hPA1.out.h3 (no75 (by decide)); have zd2 : wz2.cell? ⟨b3, 2, none⟩ = some (.slice ao1 acc_1.length cap1) := (by rw [Lib.cell_of_heap zk2]; rfl); have zf2 := Lib.frozen_of_heap zk2 2; have zb2 := Lib.hid (hk2 _ _ hBA1.out (no75 (by decide))); clear zk2 ho2 hk2 hbl2)
      obtain ⟨acc_2, hacc_2⟩ : ∃ a, a = acc_1 ++ [X3] := ⟨_, rfl⟩
      have hl_2 : acc_1.length + 1 = acc_2.length := by rw [hacc_2]; simp
      have hle_2 : acc_2.length ≤ 20004 := by omega
      have zd_2 : Hid (PQ w b1 b2 b3 3 #[.int .u8 3, .slice ao n cap] acc_2 (.slice ao2 acc_2.length cap2) (wz2.setCell ⟨b3, 2, none⟩ (.slice ao2 acc_2.length cap2))) := by have := zc2.out; rw [← hacc_2] at this; rw [← hl_2]; exact this
      rw [hl_2]
      obtain ⟨wA2, hwA2⟩ : ∃ x, x = wz2.setCell ⟨b3, 2, none⟩ (.slice ao2 acc_2.length cap2) := ⟨_, rfl⟩
      try rw [← hwA2]
      have hPA2 : Hid (PQ w b1 b2 b3 3 #[.int .u8 3, .slice ao n cap] acc_2 (.slice ao2 acc_2.length cap2) wA2) := by rw [hwA2]; exact zd_2.out
      have Hacc_2 := Lib.hid hacc_2
      clear hacc_2 hl_2 zd_2
      have hBA2 : Hid (wA2.heap[b5]? = some (.cells #[.float .f64 X0, .float .f64 X1, .float .f64 X2, .float .f64 X3, .int .u8 3] 109 (0, 0))) := by rw [hwA2, Hid, Below.heap_setCell _ _ _ _ hb53]; exact zb2.out
      have HwA2 := Lib.hid hwA2
      clear hwA2 zc2 zd2 zf2 zb2 t2 t2f g0 g1 g2 g3 g4
      go_roundg (gk - 1)
      case measure => omega
      case rel =>
        refine ⟨i + 1, (.slice ao2 acc_2.length cap2), by omega, by omega, by go_num, ?_⟩
        have hx : xs.take ((i + 1) * 4) = acc_2 := by
          have hq0 := Hacc_0.out
          have h0 := HM.out
          have h1 := HL.out
          rw [show (i + 1) * 4 = i * 4 + 1 + 1 + 1 + 1 by omega, take_one xs _ (by omega), take_one xs _ (by omega), take_one xs _ (by omega), take_one xs _ (by omega), Hacc_2.out, Hacc_1.out, Hacc_0.out, Hacc.out, HX0.out, HX1.out, HX2.out, HX3.out, Hk.out]
          simp [List.append_assoc]
        rw [Hid, hx]
        first | exact hPA2.out | (rw [← HwA2.out]; exact hPA2.out)
    · have hlt : ¬ ((i : Int) < (m : Int)) := by omega
      obtain rfl : i = m := by omega
      have hx : xs.take (i * 4) = xs := List.take_of_length_le (by rw [HL.out, HM.out]; exact Nat.le_refl _)
      rw [hx] at hP4
      obtain ⟨aoz, capz, hv⟩ := row_slice hP4.out.row
      subst hv
      obtain ⟨nz, hnz⟩ : ∃ n, n = xs.length := ⟨_, rfl⟩
      rw [← hnz] at hP4
      have Hnz := Lib.hid hnz
      have k0 : w4.cell? ⟨b3, 0, none⟩ = some (.int .i64 2) := by rw [Lib.cell_of_heap hP4.out.h3]; rfl
      have k1 : w4.cell? ⟨b3, 1, none⟩ = some (.int .i64 3) := by rw [Lib.cell_of_heap hP4.out.h3]; rfl
      have k2 : w4.cell? ⟨b3, 2, none⟩ = some (.slice aoz nz capz) := by rw [Lib.cell_of_heap hP4.out.h3]; rfl
      have k3 : w4.cell? ⟨b3, 3, none⟩ = some (.slice none 0 0) := by rw [Lib.cell_of_heap hP4.out.h3]; rfl
      have l0 : w4.cell? ⟨b2, 0, none⟩ = some (.int .i64 0) := by rw [Lib.cell_of_heap hP4.out.h2]; rfl
      have l1 : w4.cell? ⟨b2, 1, none⟩ = some (.int .i64 0) := by rw [Lib.cell_of_heap hP4.out.h2]; rfl
      have l2 : w4.cell? ⟨b2, 2, none⟩ = some (.slice none 0 0) := by rw [Lib.cell_of_heap hP4.out.h2]; rfl
      have l3 : w4.cell? ⟨b2, 3, none⟩ = some (.slice none 0 0) := by rw [Lib.cell_of_heap hP4.out.h2]; rfl
      have lf0 := Lib.frozen_of_heap hP4.out.h2 0
      have lf1 := Lib.frozen_of_heap hP4.out.h2 1
      have lf2 := Lib.frozen_of_heap hP4.out.h2 2
      have lf3 := Lib.frozen_of_heap hP4.out.h2 3
      clear hx hnz d0 d1
      go_wp2_with fail
      have y0 := Lib.heap_setCell_same (i := 0) hP4.out.h2 (.int .i64 2)
      have y1 := Lib.heap_setCell_same (i := 1) y0 (.int .i64 3)
      have y2 := Lib.heap_setCell_same (i := 2) y1 (.slice aoz nz capz)
      have y3 := Lib.heap_setCell_same (i := 3) y2 (.slice none 0 0)
      have x0 := hP4.out.below.setCell (p := ⟨b2, 0, none⟩) hP4.out.l2 (.int .i64 2)
      have x1 := x0.setCell (p := ⟨b2, 1, none⟩) hP4.out.l2 (.int .i64 3)
      have x2 := x1.setCell (p := ⟨b2, 2, none⟩) hP4.out.l2 (.slice aoz nz capz)
      have x3 := x2.setCell (p := ⟨b2, 3, none⟩) hP4.out.l2 (.slice none 0 0)
      refine ⟨rfl, _, results_cell_row rfl _ _ b2 33 #[.int .i64 2, .int .i64 3, .slice aoz nz capz, .slice none 0 0] (0, 0) (.struct (Tryz.prog.fieldsOf 33)) rfl y3 (by kernel_rfl) rfl (by kernel_rfl), x3, aoz, capz, by rw [← Hnz.out]; rfl, ?_⟩
      have hro := hP4.out.row
      rw [← Hnz.out] at hro ⊢
      refine ⟨hro.1, ?_⟩
      rcases hro.2 with hn | ⟨q, cap', cur, hv, hbq, hq, rest⟩
      · exact .inl hn
      · refine .inr ⟨q, cap', cur, hv, hbq, ?_, rest⟩
        have hqb : q ≠ b2 := by
          rintro rfl
          rw [hP4.out.h2] at hq
          have := Option.some.inj hq
          injection this with _ e _
          exact absurd e (by decide)
        rw [Below.heap_setCell _ _ _ _ hqb, Below.heap_setCell _ _ _ _ hqb, Below.heap_setCell _ _ _ _ hqb, Below.heap_setCell _ _ _ _ hqb]
        exact hq
end Go.Proofs.YthplmbgdcfmkgaaGreatDoor
/- ReadLineBody. -/
namespace Go.Proofs.YthplmbgdcfmkgaaGreatDoor
open Go.RowKit Go.Proofs Go.Sort

theorem plain_seq (c : Nat) (hc : c < 4) (ao : Option Addr) (n cap B : Nat) (xs : List Nat) (w : World) (hl : xs.length = n) (hm : n % wid c = 0) (hn : n ≤ 20000) (hrow : w.ownsRow B 75 1 (.slice ao n cap) n (flts xs)) :
    Calls Tryz.prog 24 #[.agg #[.int .u8 (c : Int), .slice ao n cap]] w (SeqPost c xs w) := by
  have h4 : c = 0 ∨ c = 1 ∨ c = 2 ∨ c = 3 := by omega
  have hd := Nat.div_add_mod n (wid c)
  rw [hm, Nat.add_zero, Nat.mul_comm] at hd
  rcases h4 with rfl | rfl | rfl | rfl
  · exact plain_seq0 ao n cap _ B xs w hl hd.symm hn hrow
  · exact plain_seq1 ao n cap _ B xs w hl hd.symm hn hrow
  · exact plain_seq2 ao n cap _ B xs w hl hd.symm hn hrow
  · exact plain_seq3 ao n cap _ B xs w hl hd.symm hn hrow
set_option maxRecDepth 100000 in
theorem dim_of (c : Nat) (hc : c < 4) (w : World) : Calls Tryz.prog 13 #[.int .i64 (c : Int)] w fun e w' => e = .returned (.int .u8 (c : Int)) ∧ w' = w := by
  have h1 : bits .and .i64 0 3 = 0 := by decide
  have h2 : bits .and .i64 1 3 = 1 := by decide
  have h3 : bits .and .i64 2 3 = 2 := by decide
  have h4 : bits .and .i64 3 3 = 3 := by decide
  have h5 : c = 0 ∨ c = 1 ∨ c = 2 ∨ c = 3 := by omega
  rcases h5 with rfl | rfl | rfl | rfl
  all_goals
    go_enter Tryz.func13, Tryz.ntmps13
    go_wp2_with fail
    go_ret
    exact ⟨rfl, rfl⟩
set_option maxRecDepth 100000 in
theorem line_coords (c : Nat) (ao : Option Addr) (n cap : Nat) (w : World) : Calls Tryz.prog 25 #[.agg #[.int .u8 (c : Int), .slice ao n cap]] w fun e w' => e = .returned (.agg #[.int .u8 (c : Int), .slice ao n cap]) ∧ Kp w w' := by
  go_enter Tryz.func25, Tryz.ntmps25
  go_wp2_with fail
  have hs : (w.alloc (Obj.cells #[.int .u8 (c : Int), .slice ao n cap] 42)).heap.size = w.heap.size + 1 := by show (w.heap.push _).size = _; rw [Array.size_push]
  have hn := alloc_new (w.alloc (Obj.cells #[.int .u8 (c : Int), .slice ao n cap] 42)) (Obj.cells #[.int .u8 (c : Int), .slice ao n cap] 40)
  rw [hs] at hn
  exact ⟨rfl, _, results_cell_row rfl _ _ (w.heap.size + 1) 40 #[.int .u8 (c : Int), .slice ao n cap] (0, 0) (.struct (Tryz.prog.fieldsOf 40)) rfl hn (by kernel_rfl) rfl (by kernel_rfl), rfl, (Kp.alloc w _).trans (Kp.alloc _ _)⟩
/-- A row is kept by a store of cells into a block that is no row. -/
theorem row_set {B : Nat} {w : World} {v : Value} {n : Nat} {xs : List Value} {b i : Nat} {A : Array Value} {t : TypeId} (h : w.ownsRow B 75 1 v n xs) (hb : w.heap[b]? = some (.cells A t (0, 0))) (ht : t ≠ 75) (u : Value) : (w.setCell ⟨b, i, none⟩ u).ownsRow B 75 1 v n xs := by
  refine ⟨h.1, ?_⟩
  rcases h.2 with hn | ⟨q, cap', cur, hv, hbq, hq, rest⟩
  · exact .inl hn
  · refine .inr ⟨q, cap', cur, hv, hbq, ?_, rest⟩
    have hqb : q ≠ b := by
      rintro rfl
      rw [hb] at hq
      have := Option.some.inj hq
      injection this with _ e _
      exact absurd e ht
    rw [Below.heap_setCell _ _ _ _ hqb]
    exact hq
set_option maxHeartbeats 1000000 in
set_option maxRecDepth 100000 in
theorem plain_line (c : Nat) (hc : c < 4) (ao : Option Addr) (n cap B : Nat) (xs : List Nat) (w : World) (hl : xs.length = n) (hm : n % wid c = 0) (hn : n ≤ 20000) (hrow : w.ownsRow B 75 1 (.slice ao n cap) n (flts xs)) :
    Calls Tryz.prog 14 #[.agg #[.int .u8 (c : Int), .slice ao n cap]] w (SeqPost c xs w) := by
  have cC := fun W : World => line_coords c ao n cap W
  have cS := fun (W : World) (hr : W.ownsRow B 75 1 (.slice ao n cap) n (flts xs)) => plain_seq c hc ao n cap B xs W hl hm hn hr
  have CC := Lib.hid cC
  have CS := Lib.hid cS
  have HR := Lib.hid hrow
  have HL := Lib.hid hl
  obtain ⟨b, hb⟩ : ∃ b, b = w.heap.size + 1 := ⟨_, rfl⟩
  clear cC cS hrow hl hm
  go_enter Tryz.func14, Tryz.ntmps14
  go_wp2_with fail
  obtain ⟨wa, hwa⟩ : ∃ wa, wa = w.alloc (Obj.cells #[.int .u8 (c : Int), .slice ao n cap] 42) := ⟨_, rfl⟩
  obtain ⟨w1, hw1⟩ : ∃ w1, w1 = wa.alloc (Obj.cells #[.int .i64 0, .int .i64 0, .slice none 0 0, .slice none 0 0] 33) := ⟨_, rfl⟩
  rw [← hwa, ← hw1, ← hb]
  have hsa : wa.heap.size = w.heap.size + 1 := by rw [hwa]; show (w.heap.push _).size = _; rw [Array.size_push]
  have hkp : Hid (Kp w w1) := by rw [hw1]; refine Kp.trans ?_ (Kp.alloc wa _); rw [hwa]; exact Kp.alloc w _
  have hB2 : Hid (w1.heap[b]? = some (.cells geom0 33 (0, 0))) := by rw [hw1, hb, ← hsa]; exact alloc_new _ _
  have Hb := Lib.hid hb
  clear hwa hw1 hsa hb
  refine (CC.out _).mono ?_
  rintro e w2 ⟨rfl, hk2⟩
  have hkp2 : Hid (Kp w w2) := hkp.out.trans hk2
  have hB22 : Hid (w2.heap[b]? = some (.cells geom0 33 (0, 0))) := hk2.ko _ _ hB2.out
  clear hk2
  go_wp2_with fail
  refine (CS.out _ (row_kp HR.out hkp2.out)).mono ?_
  rintro e w3 ⟨hbl, ao3, cap3, rfl, hrow3⟩
  have hb3 : w3.heap[b]? = some (.cells geom0 33 (0, 0)) := by rw [hbl.block b (Lib.lt_of_heap hB22.out)]; exact hB22.out
  have hS : Hid (Below w.heap.size w w3) := (hkp2.out.below _ (Nat.le_refl _)).trans (hbl.mono hkp2.out.size)
  have hR3 : Hid (w3.ownsRow w.heap.size 75 1 (.slice ao3 xs.length cap3) xs.length (flts xs)) := by
    refine ⟨hrow3.1, ?_⟩
    rcases hrow3.2 with h | ⟨q, cap', cur, hv, hbq, rest⟩
    · exact .inl h
    · exact .inr ⟨q, cap', cur, hv, Nat.le_trans hkp2.out.size hbq, rest⟩
  obtain ⟨nz, hnz⟩ : ∃ n, n = xs.length := ⟨_, rfl⟩
  rw [← hnz] at hR3 ⊢
  have Hnz := Lib.hid hnz
  have l0 : w3.cell? ⟨b, 0, none⟩ = some (.int .i64 0) := by rw [Lib.cell_of_heap hb3]; rfl
  have l1 : w3.cell? ⟨b, 1, none⟩ = some (.int .i64 0) := by rw [Lib.cell_of_heap hb3]; rfl
  have l2 : w3.cell? ⟨b, 2, none⟩ = some (.slice none 0 0) := by rw [Lib.cell_of_heap hb3]; rfl
  have l3 : w3.cell? ⟨b, 3, none⟩ = some (.slice none 0 0) := by rw [Lib.cell_of_heap hb3]; rfl
  have lf0 := Lib.frozen_of_heap hb3 0
  have lf1 := Lib.frozen_of_heap hb3 1
  have lf2 := Lib.frozen_of_heap hb3 2
  have lf3 := Lib.frozen_of_heap hb3 3
  have HB3 := Lib.hid hb3
  have hlb : w.heap.size ≤ b := by have := Hb.out; omega
  clear hbl hrow3 hb3 hnz
  go_wp2_with fail
  have y0 := Lib.heap_setCell_same (i := 0) HB3.out (.int .i64 2)
  have y1 := Lib.heap_setCell_same (i := 1) y0 (.int .i64 (c : Int))
  have y2 := Lib.heap_setCell_same (i := 2) y1 (.slice ao3 nz cap3)
  have y3 := Lib.heap_setCell_same (i := 3) y2 (.slice none 0 0)
  have x0 := hS.out.setCell (p := ⟨b, 0, none⟩) hlb (.int .i64 2)
  have x1 := x0.setCell (p := ⟨b, 1, none⟩) hlb (.int .i64 (c : Int))
  have x2 := x1.setCell (p := ⟨b, 2, none⟩) hlb (.slice ao3 nz cap3)
  have x3 := x2.setCell (p := ⟨b, 3, none⟩) hlb (.slice none 0 0)
  have r0 := row_set (i := 0) hR3.out HB3.out (by decide) (.int .i64 2)
  have r1 := row_set (i := 1) r0 y0 (by decide) (.int .i64 (c : Int))
  have r2 := row_set (i := 2) r1 y1 (by decide) (.slice ao3 nz cap3)
  have r3 := row_set (i := 3) r2 y2 (by decide) (.slice none 0 0)
  exact ⟨rfl, _, results_cell_row rfl _ _ b 33 #[.int .i64 2, .int .i64 (c : Int), .slice ao3 nz cap3, .slice none 0 0] (0, 0) (.struct (Tryz.prog.fieldsOf 33)) rfl y3 (by kernel_rfl) rfl (by kernel_rfl), x3, ao3, cap3, by rw [← Hnz.out], by rw [← Hnz.out]; exact r3⟩
theorem Body.len {T F N ts xs} (h : Body T F N ts xs) (hN : N ≤ 4) (hl : ts.length ≤ 3000) : xs.length ≤ 20000 := by
  have tl : ∀ {ts xs}, Tail T F N ts xs → xs.length ≤ 4 * ts.length := by
    intro ts xs h
    induction h with
    | close h => simp
    | comma h hl hn hz ih => have := hl.len; rw [List.length_append, List.length_cons]; omega
  cases h with
  | empty h => simp
  | some h hl2 hn hz =>
    have h1 := tl hz
    have h2 := hl2.len
    rw [List.length_append]
    rw [List.length_cons] at hl
    omega
def ReadPost' (T : Nat → Nat × Nat) (F : Nat → Nat) (ts : List ByteArray) (c : Nat) (w : World) (e : Ending) (w' : World) : Prop :=
  Below w.heap.size w w' ∧ ((∃ xs ao cap, Body T F (wid c) ts xs ∧ e = .returned (.tuple #[.agg #[.int .i64 2, .int .i64 (c : Int), .slice ao xs.length cap, .slice none 0 0], .bool true]) ∧ w'.ownsRow w.heap.size 75 1 (.slice ao xs.length cap) xs.length (flts xs)) ∨
    ((¬ ∃ xs, Body T F (wid c) ts xs) ∧ e = .returned (.tuple #[.agg geom0, .bool false])))
theorem load33 {w : World} {b : Nat} {cs : Array Value} (hg : w.heap[b]? = some (.cells cs 33 (0, 0))) (hs : cs.size = 4) : (loadVar 33 ⟨b, 0, none⟩).run Tryz.prog w = .ok (.agg cs) w :=
  run_loadVar_row w b 33 33 cs (0, 0) (.struct (Tryz.prog.fieldsOf 33)) hg (by kernel_rfl) rfl (by rw [hs]; kernel_rfl)
set_option maxHeartbeats 1000000 in
set_option maxRecDepth 100000 in
theorem read_line {T F B s ts} {w : World} (c : Nat) (hc : c < 4) (hs : Txt s ts) (ht : Sta B T F w) (hB : B ≤ w.heap.size) :
    Calls Tryz.prog 5 #[.string s, .int .i64 (c : Int)] w (ReadPost' T F ts c w) := by
  have HS := Lib.hid hs
  have HT := Lib.hid ht
  obtain ⟨b, hb⟩ : ∃ b, b = w.heap.size := ⟨_, rfl⟩
  have hwid : wid c ≤ 4 := by unfold wid; split <;> (try split) <;> omega
  have cD := fun W : World => dim_of c hc W
  have CD := Lib.hid cD
  have hBw := Lib.hid hB
  clear hs ht cD hB
  go_enter Tryz.func5, Tryz.ntmps5
  go_wp2_with fail
  obtain ⟨w0, hw0⟩ : ∃ w0, w0 = w.alloc (Obj.cells #[.int .i64 0, .int .i64 0, .slice none 0 0, .slice none 0 0] 33) := ⟨_, rfl⟩
  rw [← hw0, ← hb]
  have hkp : Hid (Kp w w0) := by rw [hw0]; exact Kp.alloc w _
  have hres : Hid (w0.heap[b]? = some (.cells geom0 33 (0, 0))) := by rw [hw0, hb]; exact alloc_new w _
  have Hb := Lib.hid hb
  clear hw0 hb
  refine (CD.out _).mono ?_
  rintro e wx ⟨rfl, hwx⟩
  obtain rfl := hwx.symm
  go_wp2_with fail
  refine (door_line c hc HS.out (HT.out.below (hkp.out.below _ hBw.out)) (Nat.le_trans hBw.out hkp.out.size)).mono ?_
  rintro e w1 ⟨hbl, ⟨xs, ao, cap, hbody, hmod, rfl, hrow⟩ | ⟨hno, u, v, rfl⟩⟩
  · have hb1 : Hid (w1.heap[b]? = some (.cells geom0 33 (0, 0))) := by rw [Hid, hbl.block b (Lib.lt_of_heap hres.out)]; exact hres.out
    have hS1 : Hid (Below w.heap.size w w1) := (hkp.out.below _ (Nat.le_refl _)).trans (hbl.mono hkp.out.size)
    have hlen := hbody.len hwid HS.out.len
    obtain ⟨nz, hnz⟩ : ∃ n, n = xs.length := ⟨_, rfl⟩
    have cP := fun (W : World) (hr : W.ownsRow w0.heap.size 75 1 (.slice ao nz cap) nz (flts xs)) => plain_line c hc ao nz cap w0.heap.size xs W hnz.symm (by rw [hnz]; exact hmod) (by omega) hr
    have CP := Lib.hid cP
    rw [← hnz] at hrow ⊢
    have HRow := Lib.hid hrow
    have HBody := Lib.hid hbody
    have Hnz := Lib.hid hnz
    clear hbl hrow hbody hmod hnz cP
    go_wp2_with fail
    refine (CP.out _ (row_kp HRow.out (Kp.alloc _ _))).mono ?_
    rintro e w3 ⟨hbl3, ao3, cap3, rfl, hrow3⟩
    have hk2 : Kp w1 (w1.alloc (Obj.cells #[.int .u8 (c : Int), .slice ao nz cap] 42)) := Kp.alloc _ _
    have hb3 : w3.heap[b]? = some (.cells geom0 33 (0, 0)) := by rw [hbl3.block b (Lib.lt_of_heap (hk2.ko _ _ hb1.out))]; exact hk2.ko _ _ hb1.out
    have hS : Hid (Below w.heap.size w w3) := (hS1.out.trans (hk2.below _ hS1.out.size)).trans (hbl3.mono (Nat.le_trans hS1.out.size hk2.size))
    have hR3 : Hid (w3.ownsRow w.heap.size 75 1 (.slice ao3 xs.length cap3) xs.length (flts xs)) := by
      refine ⟨hrow3.1, ?_⟩
      rcases hrow3.2 with h | ⟨q, cap', cur, hv, hbq, rest⟩
      · exact .inl h
      · exact .inr ⟨q, cap', cur, hv, Nat.le_trans (Nat.le_trans hS1.out.size hk2.size) hbq, rest⟩
    rw [← Hnz.out] at hR3 ⊢
    have l0 : w3.cell? ⟨b, 0, none⟩ = some (.int .i64 0) := by rw [Lib.cell_of_heap hb3]; rfl
    have l1 : w3.cell? ⟨b, 1, none⟩ = some (.int .i64 0) := by rw [Lib.cell_of_heap hb3]; rfl
    have l2 : w3.cell? ⟨b, 2, none⟩ = some (.slice none 0 0) := by rw [Lib.cell_of_heap hb3]; rfl
    have l3 : w3.cell? ⟨b, 3, none⟩ = some (.slice none 0 0) := by rw [Lib.cell_of_heap hb3]; rfl
    have lf0 := Lib.frozen_of_heap hb3 0
    have lf1 := Lib.frozen_of_heap hb3 1
    have lf2 := Lib.frozen_of_heap hb3 2
    have lf3 := Lib.frozen_of_heap hb3 3
    have HB3 := Lib.hid hb3
    have hlb : w.heap.size ≤ b := by have := Hb.out; omega
    clear hbl3 hrow3 hb3 hk2
    go_wp2_with fail
    have y0 := Lib.heap_setCell_same (i := 0) HB3.out (.int .i64 2)
    have y1 := Lib.heap_setCell_same (i := 1) y0 (.int .i64 (c : Int))
    have y2 := Lib.heap_setCell_same (i := 2) y1 (.slice ao3 nz cap3)
    have y3 := Lib.heap_setCell_same (i := 3) y2 (.slice none 0 0)
    have x0 := hS.out.setCell (p := ⟨b, 0, none⟩) hlb (.int .i64 2)
    have x1 := x0.setCell (p := ⟨b, 1, none⟩) hlb (.int .i64 (c : Int))
    have x2 := x1.setCell (p := ⟨b, 2, none⟩) hlb (.slice ao3 nz cap3)
    have x3 := x2.setCell (p := ⟨b, 3, none⟩) hlb (.slice none 0 0)
    have r0 := row_set (i := 0) hR3.out HB3.out (by decide) (.int .i64 2)
    have r1 := row_set (i := 1) r0 y0 (by decide) (.int .i64 (c : Int))
    have r2 := row_set (i := 2) r1 y1 (by decide) (.slice ao3 nz cap3)
    have r3 := row_set (i := 3) r2 y2 (by decide) (.slice none 0 0)
    exact ⟨rfl, _, res_cell_tmp rfl _ _ b #[.int .i64 2, .int .i64 (c : Int), .slice ao3 nz cap3, .slice none 0 0] rfl (load33 y3 rfl), x3, Or.inl ⟨xs, ao3, cap3, HBody.out, by rw [← Hnz.out]; rfl, by rw [← Hnz.out]; exact r3⟩⟩
  · have hb1 : w1.heap[b]? = some (.cells geom0 33 (0, 0)) := by rw [hbl.block b (Lib.lt_of_heap hres.out)]; exact hres.out
    have hS : Hid (Below w.heap.size w w1) := (hkp.out.below _ (Nat.le_refl _)).trans (hbl.mono hkp.out.size)
    have HNo := Lib.hid hno
    obtain ⟨w2, hw2⟩ : ∃ w2, w2 = w1.alloc (Obj.cells #[.int .u8 0, .slice none 0 0] 42) := ⟨_, rfl⟩
    have hb3 : w2.heap[b]? = some (.cells geom0 33 (0, 0)) := by rw [hw2]; exact alloc_kept _ _ _ _ hb1
    have l0 : w2.cell? ⟨b, 0, none⟩ = some (.int .i64 0) := by rw [Lib.cell_of_heap hb3]; rfl
    have l1 : w2.cell? ⟨b, 1, none⟩ = some (.int .i64 0) := by rw [Lib.cell_of_heap hb3]; rfl
    have l2 : w2.cell? ⟨b, 2, none⟩ = some (.slice none 0 0) := by rw [Lib.cell_of_heap hb3]; rfl
    have l3 : w2.cell? ⟨b, 3, none⟩ = some (.slice none 0 0) := by rw [Lib.cell_of_heap hb3]; rfl
    have lf0 := Lib.frozen_of_heap hb3 0
    have lf1 := Lib.frozen_of_heap hb3 1
    have lf2 := Lib.frozen_of_heap hb3 2
    have lf3 := Lib.frozen_of_heap hb3 3
    have HB3 := Lib.hid hb3
    have hlb : w.heap.size ≤ b := by have := Hb.out; omega
    have hS2 : Hid (Below w.heap.size w w2) := by rw [hw2]; exact hS.out.trans (alloc_below _ w1 _ hS.out.size)
    have HW2 := Lib.hid hw2
    clear hbl hb1 hno hb3
    go_upto_region 2 with fail
    rw [← HW2.out]
    clear hw2
    go_wp2_with fail
    have y0 := Lib.heap_setCell_same (i := 0) HB3.out (.int .i64 0)
    have y1 := Lib.heap_setCell_same (i := 1) y0 (.int .i64 0)
    have y2 := Lib.heap_setCell_same (i := 2) y1 (.slice none 0 0)
    have y3 := Lib.heap_setCell_same (i := 3) y2 (.slice none 0 0)
    have x0 := hS2.out.setCell (p := ⟨b, 0, none⟩) hlb (.int .i64 0)
    have x1 := x0.setCell (p := ⟨b, 1, none⟩) hlb (.int .i64 0)
    have x2 := x1.setCell (p := ⟨b, 2, none⟩) hlb (.slice none 0 0)
    have x3 := x2.setCell (p := ⟨b, 3, none⟩) hlb (.slice none 0 0)
    exact ⟨rfl, _, res_cell_tmp rfl _ _ b geom0 rfl (load33 y3 rfl), x3, Or.inr ⟨HNo.out, rfl⟩⟩
end Go.Proofs.YthplmbgdcfmkgaaGreatDoor
