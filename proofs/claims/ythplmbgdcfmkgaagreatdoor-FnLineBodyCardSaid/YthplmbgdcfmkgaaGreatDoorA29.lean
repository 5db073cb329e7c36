/- The reference: ReadWKT. -/
import Derived.Test.YthplmbgdcfmkgaaGreatDoorA28
import Derived.Test.YthplmbgdcfmkgaaGreatDoorA27
set_option linter.unusedVariables false
set_option linter.unusedSimpArgs false
/- The reference: ReadWKT, the walk. -/
namespace Go.Proofs.YthplmbgdcfmkgaaGreatDoor
open Go.RowKit Go.Proofs Go.Sort

def WktPost (T : Nat → Nat × Nat) (F : Nat → Nat) (c : Nat) (P : List (Nat × ByteArray)) (w : World) (e : Ending) (w' : World) : Prop :=
  Below w.heap.size w w' ∧ ((∃ xs ao cap, BodyR T F (wid c) (txs P) xs [] ∧ xs.length ≤ 5000000 ∧ e = .returned (.tuple #[.agg #[.int .i64 2, .int .i64 (c : Int), .slice ao xs.length cap, .slice none 0 0], .bool true]) ∧ w'.ownsRow w.heap.size 75 1 (.slice ao xs.length cap) xs.length (flts xs)) ∨
    ((¬ ∃ xs, BodyR T F (wid c) (txs P) xs []) ∧ e = .returned (.tuple #[.agg geom0, .bool false])))
theorem reader_made {B q cap n rb : Nat} {R : List (Nat × ByteArray)} {w1 w2 : World} (h : w1.ownsRow B 66 2 (.slice (some ⟨q, 0, none⟩) n cap) n (tkc R)) (hn : n = R.length) (hR : R.length ≤ 1000000) (hrb : rb = w1.heap.size) (hw : w2 = w1.alloc (.cells #[.slice (some ⟨q, 0, none⟩) n cap, .bool false] 55)) :
    RdS w2 rb q 0 cap R false := by
  have hG : w2.heap[rb]? = some (.cells #[.slice (some ⟨q, 0, none⟩) n cap, .bool false] 55 (0, 0)) := by rw [hw, hrb]; exact alloc_new _ _
  have hq : q < w1.heap.size ∧ n ≤ cap ∧ cap ≤ maxLen := by
    rcases h.2 with ⟨h0, _⟩ | ⟨g, cap', cur, hv, _, hg, h1, h2, _⟩
    · exact absurd (Value.slice.inj h0).1 (by simp)
    · have hi := Value.slice.inj hv
      have h3 : q = g := congrArg Addr.block (Option.some.inj hi.1)
      rw [hi.2.2, h3]
      exact ⟨Lib.lt_of_heap hg, h1, h2⟩
  have hml : maxLen = 9223372036854775807 := rfl
  refine ⟨?_, ?_, Lib.frozen_of_heap hG 0, Lib.frozen_of_heap hG 1, by omega, fun i hi => ?_, by omega, ⟨hR, by omega⟩, ?_⟩
  · rw [Lib.cell_of_heap hG, ← hn]; rfl
  · rw [Lib.cell_of_heap hG]; rfl
  · have hr2 : w2.ownsRow B 66 2 (.slice (some ⟨q, 0, none⟩) n cap) n (tkc R) := by rw [hw]; exact h.alloc _
    have := tk_cells hr2 i hi
    rw [show 0 + 2 * i = i * 2 by omega]
    exact this
  · rw [hw]; show q < (w1.heap.push _).size; rw [Array.size_push]; omega
set_option maxHeartbeats 4000000 in
set_option maxRecDepth 100000 in
theorem wkt_ok {T F B} (s : ByteArray) (c : Nat) (hc : c < 4) (P : List (Nat × ByteArray)) (w : World) (hcut : cut s.data.toList false = some ((97, lineS) :: (tagT c ++ P))) (hs : s.size ≤ 100000) (hk : ∀ p ∈ P, WK p) (hT : ∀ d, 0 < d → d < 4 → ∀ r, P ≠ (97, dimN d) :: r) (ht : TB B T F w) (hB : B ≤ w.heap.size) :
    Calls Tryz.prog 8 #[.string s] w (WktPost T F c P w) := by
  have cT := fun W : World => tokens_ok s W hs
  have CT := Lib.hid cT
  have HC := Lib.hid hcut
  have HK := Lib.hid hk
  have HP := Lib.hid hT
  have HT := Lib.hid ht
  have HBw := Lib.hid hB
  obtain ⟨R, hRe⟩ : ∃ R, R = (97, lineS) :: (tagT c ++ P) := ⟨_, rfl⟩
  rw [← hRe] at HC
  have HRe := Lib.hid hRe
  obtain ⟨b0, hb0⟩ : ∃ b, b = w.heap.size := ⟨_, rfl⟩
  have HPost : Hid (WktPost T F c P w = fun e w' => Below w.heap.size w w' ∧ ((∃ xs ao cap, BodyR T F (wid c) (txs P) xs [] ∧ xs.length ≤ 5000000 ∧ e = .returned (.tuple #[.agg #[.int .i64 2, .int .i64 (c : Int), .slice ao xs.length cap, .slice none 0 0], .bool true]) ∧ w'.ownsRow w.heap.size 75 1 (.slice ao xs.length cap) xs.length (flts xs)) ∨
    ((¬ ∃ xs, BodyR T F (wid c) (txs P) xs []) ∧ e = .returned (.tuple #[.agg geom0, .bool false])))) := rfl
  clear cT hcut hk hT ht hRe hB
  go_enter Tryz.func8, Tryz.ntmps8
  go_wp2_with fail
  obtain ⟨w0, hw0⟩ : ∃ w0, w0 = w.alloc (Obj.cells #[.int .i64 0, .int .i64 0, .slice none 0 0, .slice none 0 0] 33) := ⟨_, rfl⟩
  rw [← hw0, ← hb0]
  have hkp : Hid (Kp w w0) := by rw [hw0]; exact Kp.alloc w _
  have hG0 : Hid (w0.heap[b0]? = some (.cells geom0 33 (0, 0))) := by rw [Hid, hw0, hb0]; exact alloc_new w _
  have Hb0 := Lib.hid hb0
  have hl0 : w.heap.size ≤ b0 := by omega
  clear hw0 hb0
  refine (CT.out _).mono ?_
  rintro e w1 ⟨hB1, ⟨hno, _⟩ | ⟨l', v, hcut, rfl, hrow, hlen⟩⟩
  · rw [HC.out] at hno
    exact absurd hno (by simp)
  · rw [HC.out] at hcut
    obtain rfl := Option.some.inj hcut
    obtain ⟨n, hn⟩ : ∃ n, n = R.length := ⟨_, rfl⟩
    have hn0 : 0 < n := by rw [hn, HRe.out]; simp
    obtain ⟨ao, cap, rfl, hao⟩ := row_slice' hrow
    obtain ⟨q, rfl⟩ := hao (by omega)
    rw [← hn] at hrow hlen ⊢
    have hG1 : Hid (w1.heap[b0]? = some (.cells geom0 33 (0, 0))) := by rw [Hid, hB1.block b0 (Lib.lt_of_heap hG0.out)]; exact hG0.out
    have hB1' : Hid (Below w.heap.size w w1) := (hkp.out.below _ (Nat.le_refl _)).trans (hB1.mono hkp.out.size)
    have HRow := Lib.hid hrow
    have Hn := Lib.hid hn
    obtain ⟨rb, hrb⟩ : ∃ rb, rb = w1.heap.size := ⟨_, rfl⟩
    obtain ⟨w2, hw2⟩ : ∃ w2, w2 = w1.alloc (.cells #[.slice (some ⟨q, 0, none⟩) n cap, .bool false] 55) := ⟨_, rfl⟩
    have hrd : Hid (RdS w2 rb q 0 cap R false) := reader_made hrow hn (by omega) hrb hw2
    have hG2 : Hid (w2.heap[b0]? = some (.cells geom0 33 (0, 0))) := by rw [Hid, hw2]; exact alloc_kept _ _ _ _ hG1.out
    have hB2 : Hid (Below w.heap.size w w2) := by rw [Hid, hw2]; exact hB1'.out.trans (alloc_below _ _ _ hB1'.out.size)
    have hrbl : Hid (w.heap.size ≤ rb ∧ b0 < rb ∧ w.heap.size ≤ q) := by
      refine ⟨by rw [hrb]; exact hB1'.out.size, by rw [hrb]; exact Lib.lt_of_heap hG1.out, ?_⟩
      have := (hrow.lt q rfl).1
      exact Nat.le_trans hkp.out.size this
    have Hw2 := Lib.hid hw2
    have Hrb := Lib.hid hrb
    clear hB1 hcut hrow hao hn hw2 hrb
    go_wp2_with fail
    rw [← Hw2.out, ← Hrb.out]
    rw [HRe.out] at hrd
    refine (tagged_ok c hc w2 hrd.out HK.out HP.out (HT.out.below (hB2.out.mono HBw.out)) (Nat.le_trans HBw.out hrbl.out.1)).mono ?_
    rintro e w3 ⟨hX3, xs, v, R5, bad5, o5, cap5, rfl, hrow3, hm, hl, hrd3, hres⟩
    obtain ⟨ao, cap9, hv9⟩ := row_slice hrow3
    subst hv9
    have hG3 : Hid (w3.heap[b0]? = some (.cells geom0 33 (0, 0))) := by rw [Hid, hX3.block b0 (Lib.lt_of_heap hG2.out) (by have := hrbl.out.2.1; omega)]; exact hG2.out
    have hB3 : Hid (Below w.heap.size w w3) := hB2.out.trans (hX3.below hrbl.out.1 hB2.out.size)
    have HRow3 := Lib.hid hrow3
    have HM := Lib.hid hm
    have HRd := Lib.hid hrd3
    have HRes := Lib.hid hres
    obtain ⟨nz, hnz⟩ : ∃ n, n = xs.length := ⟨_, rfl⟩
    rw [← hnz] at HRow3 HM hl ⊢
    have Hnz := Lib.hid hnz
    have hsz : Hid (w2.heap.size ≤ w3.heap.size) := hX3.size
    clear hX3 hrow3 hm hrd3 hres hnz
    go_wp2_with fail
    refine (new_ok c hc ao nz cap9 w2.heap.size xs w3 Hnz.out.symm HM.out hl HRow3.out hsz.out).mono ?_
    rintro e w4 ⟨hB4, ao4, cap4, rfl, hrow4⟩
    have hG4 : Hid (w4.heap[b0]? = some (.cells geom0 33 (0, 0))) := by rw [Hid, hB4.block b0 (Lib.lt_of_heap hG3.out)]; exact hG3.out
    have hB5 : Hid (Below w.heap.size w w4) := hB3.out.trans (hB4.mono hB3.out.size)
    have HRow4 : Hid (w4.ownsRow w.heap.size 75 1 (.slice ao4 nz cap4) nz (flts xs)) := row_mono hrow4 hB3.out.size
    have HRd4 : Hid (RdS w4 rb q o5 cap5 R5 bad5) := HRd.out.blw hB4 HRd.out.rl HRd.out.ql
    clear hB4 hrow4
    have l0 : w4.cell? ⟨b0, 0, none⟩ = some (.int .i64 0) := by rw [Lib.cell_of_heap hG4.out]; rfl
    have l1 : w4.cell? ⟨b0, 1, none⟩ = some (.int .i64 0) := by rw [Lib.cell_of_heap hG4.out]; rfl
    have l2 : w4.cell? ⟨b0, 2, none⟩ = some (.slice none 0 0) := by rw [Lib.cell_of_heap hG4.out]; rfl
    have l3 : w4.cell? ⟨b0, 3, none⟩ = some (.slice none 0 0) := by rw [Lib.cell_of_heap hG4.out]; rfl
    have lf0 := Lib.frozen_of_heap hG4.out 0
    have lf1 := Lib.frozen_of_heap hG4.out 1
    have lf2 := Lib.frozen_of_heap hG4.out 2
    have lf3 := Lib.frozen_of_heap hG4.out 3
    have hbr : b0 ≠ rb := by have := hrbl.out.2.1; omega
    have hbr2 : rb ≠ b0 := fun h => hbr h.symm
    cases bad5 with
    | true =>
      have e1 : w4.cell? ⟨rb, 1, none⟩ = some (.bool true) := HRd4.out.bd
      have hno : Hid (¬ ∃ xs, BodyR T F (wid c) (txs P) xs []) := by
        rintro ⟨ys, hy⟩
        rcases HRes.out with ⟨h, _⟩ | ⟨_, h⟩
        · exact absurd h (by decide)
        · exact h ⟨ys, [], hy⟩
      go_wp2_with fail
      have y0 := Lib.heap_setCell_same (i := 0) hG4.out (.int .i64 2)
      have y1 := Lib.heap_setCell_same (i := 1) y0 (.int .i64 (c : Int))
      have y2 := Lib.heap_setCell_same (i := 2) y1 (.slice ao4 nz cap4)
      have y3 := Lib.heap_setCell_same (i := 3) y2 (.slice none 0 0)
      have y4 := Lib.heap_setCell_same (i := 0) y3 (.int .i64 0)
      have y5 := Lib.heap_setCell_same (i := 1) y4 (.int .i64 0)
      have y6 := Lib.heap_setCell_same (i := 2) y5 (.slice none 0 0)
      have y7 := Lib.heap_setCell_same (i := 3) y6 (.slice none 0 0)
      have x0 := hB5.out.setCell (p := ⟨b0, 0, none⟩) hl0 (.int .i64 2)
      have x1 := x0.setCell (p := ⟨b0, 1, none⟩) hl0 (.int .i64 (c : Int))
      have x2 := x1.setCell (p := ⟨b0, 2, none⟩) hl0 (.slice ao4 nz cap4)
      have x3 := x2.setCell (p := ⟨b0, 3, none⟩) hl0 (.slice none 0 0)
      have x4 := x3.setCell (p := ⟨b0, 0, none⟩) hl0 (.int .i64 0)
      have x5 := x4.setCell (p := ⟨b0, 1, none⟩) hl0 (.int .i64 0)
      have x6 := x5.setCell (p := ⟨b0, 2, none⟩) hl0 (.slice none 0 0)
      have x7 := x6.setCell (p := ⟨b0, 3, none⟩) hl0 (.slice none 0 0)
      refine ⟨rfl, _, res_cell_tmp rfl _ _ b0 geom0 rfl (load33 y7 rfl), ?_⟩
      rw [HPost.out]
      exact ⟨x7, Or.inr ⟨hno.out, rfl⟩⟩
    | false =>
      have e1 : w4.cell? ⟨rb, 1, none⟩ = some (.bool false) := HRd4.out.bd
      have hbd : Hid (BodyR T F (wid c) (txs P) xs (txs R5)) := by
        rcases HRes.out with ⟨_, h⟩ | ⟨h, _⟩
        · exact h
        · exact absurd h (by decide)
      cases R5 with
      | nil =>
        have e2 : w4.cell? ⟨rb, 0, none⟩ = some (.slice (some ⟨q, o5, none⟩) 0 cap5) := HRd4.out.sl
        go_wp2_with fail
        have y0 := Lib.heap_setCell_same (i := 0) hG4.out (.int .i64 2)
        have y1 := Lib.heap_setCell_same (i := 1) y0 (.int .i64 (c : Int))
        have y2 := Lib.heap_setCell_same (i := 2) y1 (.slice ao4 nz cap4)
        have y3 := Lib.heap_setCell_same (i := 3) y2 (.slice none 0 0)
        have y4 := Lib.heap_setCell_same (i := 0) y3 (.int .i64 2)
        have y5 := Lib.heap_setCell_same (i := 1) y4 (.int .i64 (c : Int))
        have y6 := Lib.heap_setCell_same (i := 2) y5 (.slice ao4 nz cap4)
        have y7 := Lib.heap_setCell_same (i := 3) y6 (.slice none 0 0)
        have x0 := hB5.out.setCell (p := ⟨b0, 0, none⟩) hl0 (.int .i64 2)
        have x1 := x0.setCell (p := ⟨b0, 1, none⟩) hl0 (.int .i64 (c : Int))
        have x2 := x1.setCell (p := ⟨b0, 2, none⟩) hl0 (.slice ao4 nz cap4)
        have x3 := x2.setCell (p := ⟨b0, 3, none⟩) hl0 (.slice none 0 0)
        have x4 := x3.setCell (p := ⟨b0, 0, none⟩) hl0 (.int .i64 2)
        have x5 := x4.setCell (p := ⟨b0, 1, none⟩) hl0 (.int .i64 (c : Int))
        have x6 := x5.setCell (p := ⟨b0, 2, none⟩) hl0 (.slice ao4 nz cap4)
        have x7 := x6.setCell (p := ⟨b0, 3, none⟩) hl0 (.slice none 0 0)
        have r0 := row_set (i := 0) HRow4.out hG4.out (by decide) (.int .i64 2)
        have r1 := row_set (i := 1) r0 y0 (by decide) (.int .i64 (c : Int))
        have r2 := row_set (i := 2) r1 y1 (by decide) (.slice ao4 nz cap4)
        have r3 := row_set (i := 3) r2 y2 (by decide) (.slice none 0 0)
        have r4 := row_set (i := 0) r3 y3 (by decide) (.int .i64 2)
        have r5 := row_set (i := 1) r4 y4 (by decide) (.int .i64 (c : Int))
        have r6 := row_set (i := 2) r5 y5 (by decide) (.slice ao4 nz cap4)
        have r7 := row_set (i := 3) r6 y6 (by decide) (.slice none 0 0)
        refine ⟨rfl, _, res_cell_tmp rfl _ _ b0 (gcells c (.slice ao4 nz cap4)) rfl (load33 y7 rfl), ?_⟩
        rw [HPost.out]
        exact ⟨x7, Or.inl ⟨xs, ao4, cap4, hbd.out, by rw [← Hnz.out]; exact hl, by rw [← Hnz.out]; rfl, by rw [← Hnz.out]; exact r7⟩⟩
      | cons p5 R5 =>
        have e2 : w4.cell? ⟨rb, 0, none⟩ = some (.slice (some ⟨q, o5, none⟩) (R5.length + 1) cap5) := HRd4.out.sl
        have hp5 : (0 : Int) < (R5.length : Int) + 1 := by omega
        have hno : Hid (¬ ∃ xs, BodyR T F (wid c) (txs P) xs []) := by
          rintro ⟨ys, hy⟩
          have := (hbd.out.det hy).2
          simp [txs] at this
        go_wp2_with fail
        have y0 := Lib.heap_setCell_same (i := 0) hG4.out (.int .i64 2)
        have y1 := Lib.heap_setCell_same (i := 1) y0 (.int .i64 (c : Int))
        have y2 := Lib.heap_setCell_same (i := 2) y1 (.slice ao4 nz cap4)
        have y3 := Lib.heap_setCell_same (i := 3) y2 (.slice none 0 0)
        have y4 := Lib.heap_setCell_same (i := 0) y3 (.int .i64 0)
        have y5 := Lib.heap_setCell_same (i := 1) y4 (.int .i64 0)
        have y6 := Lib.heap_setCell_same (i := 2) y5 (.slice none 0 0)
        have y7 := Lib.heap_setCell_same (i := 3) y6 (.slice none 0 0)
        have x0 := hB5.out.setCell (p := ⟨b0, 0, none⟩) hl0 (.int .i64 2)
        have x1 := x0.setCell (p := ⟨b0, 1, none⟩) hl0 (.int .i64 (c : Int))
        have x2 := x1.setCell (p := ⟨b0, 2, none⟩) hl0 (.slice ao4 nz cap4)
        have x3 := x2.setCell (p := ⟨b0, 3, none⟩) hl0 (.slice none 0 0)
        have x4 := x3.setCell (p := ⟨b0, 0, none⟩) hl0 (.int .i64 0)
        have x5 := x4.setCell (p := ⟨b0, 1, none⟩) hl0 (.int .i64 0)
        have x6 := x5.setCell (p := ⟨b0, 2, none⟩) hl0 (.slice none 0 0)
        have x7 := x6.setCell (p := ⟨b0, 3, none⟩) hl0 (.slice none 0 0)
        refine ⟨rfl, _, res_cell_tmp rfl _ _ b0 geom0 rfl (load33 y7 rfl), ?_⟩
        rw [HPost.out]
        exact ⟨x7, Or.inr ⟨hno.out, rfl⟩⟩
end Go.Proofs.YthplmbgdcfmkgaaGreatDoor
/- The plain side: the text that ReadWKT is asked with. -/
namespace Go.Proofs.YthplmbgdcfmkgaaGreatDoor
open Go.RowKit Go.Proofs Go.Sort

theorem self_line : SelfT (97, lineS) := self_word 76 [73, 78, 69, 83, 84, 82, 73, 78, 71] 10 (by decide) (by decide) (by decide) (by decide)
theorem self_z : SelfT (97, dimN 1) := self_word 90 [] 1 (by decide) (by decide) (by decide) (by decide)
theorem self_m : SelfT (97, dimN 2) := self_word 77 [] 1 (by decide) (by decide) (by decide) (by decide)
theorem self_zm : SelfT (97, dimN 3) := self_word 90 [77] 2 (by decide) (by decide) (by decide) (by decide)
theorem wkt_cut (c : Nat) (hc : c < 4) (P : List (Nat × ByteArray)) (hP : ∀ p ∈ P, SelfT p) (u : ByteArray) (hu : u = cat (txs P)) : cut (lineS ++ tagS c ++ ⟨#[32]⟩ ++ u).data.toList false = some ((97, lineS) :: (tagT c ++ P)) := by
  have hcat := cut_cat P hP
  rw [← hu] at hcat
  have h4 : c = 0 ∨ c = 1 ∨ c = 2 ∨ c = 3 := by omega
  have hl := self_line
  have key : ∀ (t : ByteArray), SelfT (97, t) → cut (t.data.toList ++ 32 :: 32 :: u.data.toList) false = some ((97, t) :: P) := by
    intro t ht
    have := ht (32 :: u.data.toList)
    rw [cut_32, hcat] at this
    exact this
  rcases h4 with rfl | rfl | rfl | rfl
  · have e : (lineS ++ tagS 0 ++ ⟨#[32]⟩ ++ u).data.toList = lineS.data.toList ++ 32 :: u.data.toList := by
      rw [ByteArray.data_append, ByteArray.data_append, ByteArray.data_append]
      simp [tagS]
    rw [e]
    have := hl u.data.toList
    rw [hcat] at this
    exact this
  · have e : (lineS ++ tagS 1 ++ ⟨#[32]⟩ ++ u).data.toList = lineS.data.toList ++ 32 :: ((dimN 1).data.toList ++ 32 :: 32 :: u.data.toList) := by
      rw [ByteArray.data_append, ByteArray.data_append, ByteArray.data_append]
      simp [tagS, dimN]
    rw [e]
    have := hl ((dimN 1).data.toList ++ 32 :: 32 :: u.data.toList)
    rw [key _ self_z] at this
    exact this
  · have e : (lineS ++ tagS 2 ++ ⟨#[32]⟩ ++ u).data.toList = lineS.data.toList ++ 32 :: ((dimN 2).data.toList ++ 32 :: 32 :: u.data.toList) := by
      rw [ByteArray.data_append, ByteArray.data_append, ByteArray.data_append]
      simp [tagS, dimN]
    rw [e]
    have := hl ((dimN 2).data.toList ++ 32 :: 32 :: u.data.toList)
    rw [key _ self_m] at this
    exact this
  · have e : (lineS ++ tagS 3 ++ ⟨#[32]⟩ ++ u).data.toList = lineS.data.toList ++ 32 :: ((dimN 3).data.toList ++ 32 :: 32 :: u.data.toList) := by
      rw [ByteArray.data_append, ByteArray.data_append, ByteArray.data_append]
      simp [tagS, dimN]
    rw [e]
    have := hl ((dimN 3).data.toList ++ 32 :: 32 :: u.data.toList)
    rw [key _ self_zm] at this
    exact this
theorem cat_size_cons (t : ByteArray) (l : List ByteArray) : (cat (t :: l)).size = t.size + 1 + (cat l).size := by
  rw [cat, ByteArray.size_append, ByteArray.size_append]
  rfl
theorem cut_cat_size : ∀ (m : Nat) (l : List UInt8) (j : Bool) (k : List (Nat × ByteArray)), l.length ≤ m → cut l j = some k → (cat (txs k)).size ≤ 2 * l.length := by
  intro m
  induction m with
  | zero =>
    intro l j k hm h
    obtain rfl : l = [] := List.length_eq_zero_iff.mp (by omega)
    rw [cut_nil] at h
    obtain rfl := Option.some.inj h
    exact Nat.zero_le _
  | succ m ih =>
    intro l j k hm h
    cases l with
    | nil =>
      rw [cut_nil] at h
      obtain rfl := Option.some.inj h
      exact Nat.zero_le _
    | cons c r =>
      rw [List.length_cons] at hm ⊢
      by_cases h0 : isB c.toNat = true
      · rw [cut_blank _ _ _ h0] at h
        have := ih r false k (by omega) h
        omega
      · rw [Bool.not_eq_true] at h0
        by_cases h1 : isS c.toNat = true
        · by_cases h2 : c.toNat = 45 ∧ j = true
          · rw [h2.2, cut_bad _ _ h2.1] at h
            exact absurd h (by simp)
          · rw [cut_sign _ _ _ h0 h1 h2] at h
            obtain ⟨l', hl', rfl⟩ := Option.map_eq_some_iff.mp h
            have := ih r false l' (by omega) hl'
            show (cat (⟨#[c]⟩ :: txs l')).size ≤ _
            rw [cat_size_cons]
            have h3 : (⟨#[c]⟩ : ByteArray).size = 1 := rfl
            omega
        · rw [Bool.not_eq_true] at h1
          by_cases h2 : wordN c r = 0 ∨ j = true
          · rw [cut_stop _ _ _ h0 h1 h2] at h
            exact absurd h (by simp)
          · rw [cut_word _ _ _ h0 h1 h2] at h
            obtain ⟨l', hl', rfl⟩ := Option.map_eq_some_iff.mp h
            have hn0 : wordN c r ≠ 0 := fun h => h2 (Or.inl h)
            have hle : wordN c r ≤ (c :: r).length := by
              unfold wordN
              split
              · exact ln_le _
              · exact decN_le _
            have hd : ((c :: r).drop (wordN c r)).length = r.length + 1 - wordN c r := by
              rw [List.length_drop, List.length_cons]
            have := ih _ true l' (by omega) hl'
            show (cat (⟨((c :: r).take (wordN c r)).toArray⟩ :: txs l')).size ≤ _
            rw [cat_size_cons]
            have h3 : (⟨((c :: r).take (wordN c r)).toArray⟩ : ByteArray).size = wordN c r := by
              show (((c :: r).take (wordN c r)).toArray).size = _
              rw [List.size_toArray, List.length_take]
              omega
            rw [List.length_cons] at hle
            omega
theorem cat_take : ∀ (l : List ByteArray) (n : Nat), (cat (l.take n)).size ≤ (cat l).size := by
  intro l
  induction l with
  | nil => intro n; simp
  | cons t l ih =>
    intro n
    cases n with
    | zero => rw [List.take_zero]; exact Nat.zero_le _
    | succ n =>
      rw [List.take_succ_cons, cat_size_cons, cat_size_cons]
      have := ih n
      omega
/-- The body of a text of tokens, as the reference is asked with it. -/
structure Bdy (l : List (Nat × ByteArray)) (p : List ByteArray) (P : List (Nat × ByteArray)) : Prop where
  tx : txs P = p
  mem : ∀ q ∈ P, q ∈ l
  hd : ∀ d, 0 < d → d < 4 → ∀ r, P ≠ (97, dimN d) :: r
  sz : (cat p).size ≤ (cat (txs l)).size
theorem bdy_of {l : List (Nat × ByteArray)} {p : List ByteArray} (h : pb 0 0 (txs l) = some (p, true)) : ∃ P, Bdy l p P := by
  obtain ⟨r, hr⟩ := pb_prefix _ _ _ _ _ h
  have ht : txs (l.take p.length) = p := by
    unfold txs at hr ⊢
    rw [List.map_take, hr, List.take_left]
  refine ⟨l.take p.length, ht, fun q hq => List.mem_of_mem_take hq, fun d hd0 hd r hP => ?_, ?_⟩
  · obtain ⟨t, p', hp, hh⟩ := pb_head h
    rw [hP, hp] at ht
    have h1 : dimN d = t := by
      unfold txs at ht
      rw [List.map_cons] at ht
      exact (List.cons.inj ht).1
    have h2 : d = 1 ∨ d = 2 ∨ d = 3 := by omega
    rw [← h1] at hh
    rcases h2 with rfl | rfl | rfl <;> revert hh <;> decide
  · rw [← ht]
    have e : txs (l.take p.length) = (txs l).take p.length := by unfold txs; rw [List.map_take]
    rw [e]
    exact cat_take _ _
/-- The reference and the reader agree. -/
theorem agree {T F N ts p} (h : pb 0 0 ts = some (p, true)) : (∃ xs, Body T F N ts xs) ↔ ∃ xs, BodyR T F N p xs [] := by
  constructor
  · rintro ⟨xs, hx⟩
    obtain ⟨p', h1, h2⟩ := body_pb hx
    rw [h] at h1
    obtain rfl := (Prod.mk.inj (Option.some.inj h1)).1
    exact ⟨xs, h2⟩
  · rintro ⟨xs, hx⟩
    exact ⟨xs, pb_body h hx⟩
theorem agree_one {T F N ts p xs ys} (h : pb 0 0 ts = some (p, true)) (h1 : Body T F N ts xs) (h2 : BodyR T F N p ys []) : xs = ys := by
  obtain ⟨p', h3, h4⟩ := body_pb h1
  rw [h] at h3
  obtain rfl := (Prod.mk.inj (Option.some.inj h3)).1
  exact (h4.det h2).1
theorem no_body {T F N ts} (h : (pbA ts).2 = false) : ¬ ∃ xs, Body T F N ts xs := by
  rintro ⟨xs, hx⟩
  obtain ⟨p, h1, _⟩ := body_pb hx
  unfold pbA at h
  rw [h1] at h
  have h' : true = false := h
  exact absurd h' (by decide)
theorem pbA_some {ts} (h : (pbA ts).2 = true) : ∃ p, pb 0 0 ts = some (p, true) ∧ (pbA ts).1 = cat p := by
  unfold pbA at h ⊢
  cases hp : pb 0 0 ts with
  | none => rw [hp] at h; exact absurd h (by decide)
  | some q =>
    obtain ⟨p, b⟩ := q
    rw [hp] at h
    have hb : b = true := h
    subst hb
    exact ⟨p, rfl, rfl⟩
end Go.Proofs.YthplmbgdcfmkgaaGreatDoor
