/- The lexer. -/
import Derived.Test.YthplmbgdcfmkgaaGreatDoorA15
import Derived.Laws.Tables
import Derived.Laws.Rows
set_option linter.unusedVariables false
set_option linter.unusedSimpArgs false
/- The lexer's next. -/
namespace Go.Proofs.YthplmbgdcfmkgaaGreatDoor
open Go.RowKit

/-- The lexer between two tokens: the byte number k is looked at (or none yet). -/
structure LexS (B g r : Nat) (s : ByteArray) (k : Nat) (w : World) : Prop where
  at' : (k = 0 ∧ Rdy B g r s 0 0 none w ∧ w.cell? ⟨g, 1038, none⟩ = some (.int .i32 (-2))) ∨ (∃ ot, Look B g r s k ot w ∧ w.cell? ⟨g, 1038, none⟩ = some (.int .i32 (chAt s k)))
  sky : Sky B r w
  ls : Ls g w
  e39 : ∃ v, w.cell? ⟨g, 1039, none⟩ = some v
  c41 : w.cell? ⟨g, 1041, none⟩ = some (.int .u64 28)
  c42 : w.cell? ⟨g, 1042, none⟩ = some (.int .u64 4294977024)
  c43 : w.cell? ⟨g, 1043, none⟩ = some .nilFunc
  pk : w.cell? ⟨g, 1048, none⟩ = some (.string ⟨#[]⟩)
/-- What the lexer leaves as it was. -/
structure GX (B g r : Nat) (w w' : World) : Prop where
  below : Below B w w'
  ko : ∀ (k : Nat) (o : Obj), w.heap[k]? = some o → k ≠ g → k ≠ r → (∀ c fz, o ≠ .cells c 5 fz) → w'.heap[k]? = some o
theorem GX.refl (B g r : Nat) (w : World) : GX B g r w w := ⟨Below.refl _ _, fun _ _ h _ _ _ => h⟩
theorem GX.trans {B g r a b c} (h : GX B g r a b) (k : GX B g r b c) : GX B g r a c :=
  ⟨h.below.trans k.below, fun i o h1 h2 h3 h4 => k.ko i o (h.ko i o h1 h2 h3 h4) h2 h3 h4⟩
theorem FX.gx {B g r a b} (h : FX B g r a b) : GX B g r a b := ⟨h.below, h.ko⟩
theorem GX.drewN {B g r a w} (h : GX B g r a w) (n : Nat) : GX B g r a (w.drewN n) := ⟨Below.drewN h.below n, h.ko⟩
theorem LexS.blk {B g r s k w} (h : LexS B g r s k w) : Blk g w ∧ B ≤ g ∧ r ≠ g := by
  rcases h.at' with ⟨_, ⟨_, _, _, _, _, hS, _⟩, _⟩ | ⟨_, hL, _⟩
  · exact ⟨hS.blk, hS.hB, hS.ne⟩
  · exact hL.blk
theorem LexS.rlt {B g r s k w} (h : LexS B g r s k w) : r < w.heap.size := by
  rcases h.at' with ⟨_, ⟨_, _, _, _, _, hS, _⟩, _⟩ | ⟨_, hL, _⟩
  · obtain ⟨cs, hc⟩ := hS.rtag; exact Lib.lt_of_heap hc
  · rcases hL.at' with ⟨_, _, _, _, _, _, hS, _⟩ | ⟨_, _, _, hS, _⟩
    · obtain ⟨cs, hc⟩ := hS.rtag; exact Lib.lt_of_heap hc
    · obtain ⟨cs, hc⟩ := hS.rtag; exact Lib.lt_of_heap hc
theorem LexS.kept {B g r s k w w'} (h : LexS B g r s k w) (hk : ∀ (k : Nat) (o : Obj), w.heap[k]? = some o → w'.heap[k]? = some o) (hb : Below B w w') : LexS B g r s k w' := by
  obtain ⟨cg, hcg⟩ := h.blk.1
  have o : ∀ i, w'.cell? ⟨g, i, none⟩ = w.cell? ⟨g, i, none⟩ := fun i => cell_of_block' (by rw [hcg]; exact hk _ _ hcg) i
  refine ⟨?_, h.sky.below hb, ⟨by rw [o]; exact h.ls.e37, by rw [o]; exact h.ls.e38, by rw [o]; exact h.ls.e45, by rw [o]; exact h.ls.e46, by rw [o]; exact h.ls.e47⟩, by rw [o]; exact h.e39, by rw [o]; exact h.c41, by rw [o]; exact h.c42, by rw [o]; exact h.c43, by rw [o]; exact h.pk⟩
  rcases h.at' with ⟨h1, ⟨P, E, D, tp, C, hS, h2⟩, h3⟩ | ⟨ot, hL, h3⟩
  · exact Or.inl ⟨h1, ⟨P, E, D, tp, C, hS.kept hk, h2⟩, by rw [o]; exact h3⟩
  · exact Or.inr ⟨ot, hL.kept hk hb, by rw [o]; exact h3⟩
theorem LexS.setErr {B g r s k w} (h : LexS B g r s k w) (v : Value) : LexS B g r s k (w.setCell ⟨g, 1039, none⟩ v) := by
  have o : ∀ i, i ≠ 1039 → (w.setCell ⟨g, 1039, none⟩ v).cell? ⟨g, i, none⟩ = w.cell? ⟨g, i, none⟩ := fun i hi => cell_set_ne (by omega)
  have hb : Below B w (w.setCell ⟨g, 1039, none⟩ v) := (Below.refl B w).setCell (p := ⟨g, 1039, none⟩) h.blk.2.1 v
  refine ⟨?_, h.sky.below hb, ⟨by rw [o _ (by omega)]; exact h.ls.e37, by rw [o _ (by omega)]; exact h.ls.e38, by rw [o _ (by omega)]; exact h.ls.e45, by rw [o _ (by omega)]; exact h.ls.e46, by rw [o _ (by omega)]; exact h.ls.e47⟩, by obtain ⟨u, hu⟩ := h.e39; exact ⟨v, cell_set_same hu⟩, by rw [o _ (by omega)]; exact h.c41, by rw [o _ (by omega)]; exact h.c42, by rw [o _ (by omega)]; exact h.c43, by rw [o _ (by omega)]; exact h.pk⟩
  rcases h.at' with ⟨h1, ⟨P, E, D, tp, C, hS, h2⟩, h3⟩ | ⟨ot, hL, h3⟩
  · exact Or.inl ⟨h1, ⟨P, E, D, tp, C, hS.setFree 1039 (by omega) v, h2⟩, by rw [o _ (by omega)]; exact h3⟩
  · exact Or.inr ⟨ot, hL.setFree 1039 (by omega) v, by rw [o _ (by omega)]; exact h3⟩
/-- Peek, at the beginning or later. -/
theorem LexS.peek {B g r s k w} (h : LexS B g r s k w) (hs : Plain s) :
    Calls Tryz.prog 69 #[.pointer (some ⟨g, 0, none⟩)] w fun e w' => e = .returned (.int .i32 (chAt s k)) ∧ (∃ ot, Look B g r s k ot w') ∧ FX B g r w w' := by
  rcases h.at' with ⟨rfl, h1, h2⟩ | ⟨ot, hL, h2⟩
  · refine (peek_first B g r s w hs h1 h.sky h2).mono ?_
    rintro e w' ⟨h3, h4, h5⟩
    exact ⟨h3, ⟨none, h4⟩, h5.fx⟩
  · refine (peek_later g (chAt s k) w h2 ?_).mono ?_
    · have := chAt_range hs k; omega
    · rintro e w' ⟨h3, rfl⟩
      exact ⟨h3, ⟨ot, hL⟩, FX.refl _ _ _ _⟩
/-- wktUnexpectedEOF. -/
def WEof (w : World) : Prop := ∃ m, w.cell? ⟨1, 0, none⟩ = some (.string m)
theorem WEof.below {B w w'} (h : WEof w) (k : Below B w w') (hB : 16 ≤ B) : WEof w' := by
  obtain ⟨m, hm⟩ := h
  exact ⟨m, by rw [k.cell (show 1 < B by omega)]; exact hm⟩

set_option maxHeartbeats 1000000 in
set_option maxRecDepth 100000 in
theorem lex_next (B g r : Nat) (s : ByteArray) (k j i : Nat) (w : World) (hs : Plain s) (hu : ∀ t, t < s.size → chAt s t ≠ 95) (h : LexS B g r s k w) (hW : WEof w) (hR : Run wsb s k j) (hT : TokEnd s j i) (hji : j ≤ i) :
    Calls Tryz.prog 58 #[.pointer (some ⟨g, 0, none⟩)] w fun e w' => GX B g r w w' ∧ ((j < s.size ∧ e = .returned (.tuple #[.string (sub s j i), .nilIface]) ∧ LexS B g r s i w') ∨ (j = s.size ∧ ∃ v, e = .returned (.tuple #[.string ⟨#[]⟩, .iface 132 v]))) := by
  have HS := Lib.hid hs
  have HU := Lib.hid hu
  have H := Lib.hid h
  have HR := Lib.hid hR
  have HT := Lib.hid hT
  have hpk := h.pk
  obtain ⟨v39, c39⟩ := h.e39
  have f39 := h.blk.1.fr 1039
  have hg := h.blk.1.lt
  have HW := Lib.hid hW
  clear hs hu h hR hT hW
  go_enter Tryz.func58, Tryz.ntmps58
  go_upto_region 6 with fail
  obtain ⟨bI, hbI⟩ : ∃ bI, bI = w.heap.size := ⟨_, rfl⟩
  obtain ⟨wa, hwa⟩ : ∃ wa, wa = w.alloc (Obj.cells #[Value.nilIface] 44) := ⟨_, rfl⟩
  rw [← hwa, ← hbI]
  have hBw : B ≤ w.heap.size := by have := H.out.blk.2.1; omega
  have HA : Hid (LexS B g r s k wa) := by rw [hwa]; exact H.out.kept (alloc_kept w _) (alloc_below B w _ hBw)
  have hG : Hid (GX B g r w wa) := by rw [hwa]; exact ⟨alloc_below B w _ hBw, fun k o h1 _ _ _ => alloc_kept w _ k o h1⟩
  have hI : Hid (wa.heap[bI]? = some (.cells #[.nilIface] 44 (0, 0))) := by rw [hwa, hbI]; exact alloc_new w _
  have hbg : bI ≠ g := by omega
  have hbr : bI ≠ r := by have := H.out.rlt; omega

  obtain ⟨u39, d39⟩ := HA.out.e39
  have e39 : wa.frozen? ⟨g, 1039, none⟩ = false := HA.out.blk.1.fr 1039
  have hst : Sem.run Tryz.prog (store ⟨g, 1039, none⟩ (.func (.func 63) #[] #[.pointer (some ⟨bI, 0, none⟩)])) wa = .ok () (wa.setCell ⟨g, 1039, none⟩ (.func (.func 63) #[] #[.pointer (some ⟨bI, 0, none⟩)])) := by
    rw [run_store _ _ _ _ _ rfl, d39]; simp [e39]
  clear hwa c39 f39 hpk hbI
  go_wp2_with fail
  obtain ⟨w1, hw1⟩ : ∃ w1, w1 = wa.setCell ⟨g, 1039, none⟩ (.func (.func 63) #[] #[.pointer (some ⟨bI, 0, none⟩)]) := ⟨_, rfl⟩
  try rw [← hw1]
  have H1 : Hid (LexS B g r s k w1) := by rw [hw1]; exact HA.out.setErr _
  have hG1 : Hid (GX B g r w w1) := by
    rw [hw1]; exact ⟨hG.out.below.setCell (p := ⟨g, 1039, none⟩) HA.out.blk.2.1 _, fun k o h1 h2 h3 h4 => by rw [Below.heap_setCell _ _ _ _ h2]; exact hG.out.ko k o h1 h2 h3 h4⟩
  have hI1 : Hid (w1.heap[bI]? = some (.cells #[.nilIface] 44 (0, 0))) := by rw [hw1, Hid, Below.heap_setCell _ _ _ _ hbg]; exact hI.out
  clear hw1 hst HA hG hI d39 e39
  refine (scan_go B g r s k w1 HS.out HU.out (H1.out.peek HS.out) H1.out.ls H1.out.c42 H1.out.c41 H1.out.c43 j i HR.out HT.out).mono ?_
  rintro e w2 ⟨tok, rfl, htok, hTk, hFx⟩
  have hI2 : w2.cell? ⟨bI, 0, none⟩ = some .nilIface := by
    rw [Lib.cell_of_heap (hFx.ko bI _ hI1.out hbg hbr (fun c fz e => by injection e with _ e _; exact absurd e (by decide)))]; rfl
  have HTk := Lib.hid hTk
  have HFx := Lib.hid hFx
  have hB24 : 16 ≤ B := H.out.sky.first.1
  obtain ⟨m, hm⟩ := HW.out.below (hG1.out.below.trans hFx.below) hB24
  clear hTk hFx
  rcases htok with ⟨rfl, hj⟩ | ⟨hne, hj⟩
  · have Hj := Lib.hid hj
    clear hj
    go_wp2_with fail
    go_quiet (fail)
    go_wp2_with fail
    go_ret2
    exact ⟨(hG1.out.trans HFx.out.gx).drewN _, Or.inr ⟨Hj.out, _, rfl⟩⟩
  · have t1 : (tok == -1) = false := by rw [beq_eq_false_iff_ne]; exact hne
    clear hne
    go_wp2_with fail
    refine (token_text B g r s j i w2 HS.out HTk.out hji).mono ?_
    rintro e w3 ⟨rfl, hL3, c38, hF3⟩
    have HL3 := Lib.hid hL3
    have HF3 := Lib.hid hF3
    have HC38 := Lib.hid c38
    clear hL3 hF3 c38
    go_wp2_with fail
    go_ret2
    have hall := HFx.out.trans HF3.out
    refine ⟨hG1.out.trans hall.gx, Or.inl ⟨hj, rfl, ⟨Or.inr ⟨_, HL3.out, HC38.out⟩, HL3.out.sky, hall.ls H1.out.ls, ?_, ?_, ?_, ?_, ?_⟩⟩⟩
    · obtain ⟨v, hv⟩ := H1.out.e39
      exact ⟨v, (hall.free _ (by omega) (by omega)).trans hv⟩
    · exact (hall.free _ (by omega) (by omega)).trans H1.out.c41
    · exact (hall.free _ (by omega) (by omega)).trans H1.out.c42
    · exact (hall.free _ (by omega) (by omega)).trans H1.out.c43
    · exact (hall.free _ (by omega) (by omega)).trans H1.out.pk
end Go.Proofs.YthplmbgdcfmkgaaGreatDoor
/- A new lexer. -/
namespace Go.Proofs.YthplmbgdcfmkgaaGreatDoor
open Go.RowKit

/-- The scanner's cells behind Init. -/
def initZ (Z : Array Value) (V : Value) : Array Value := ((((((((((((((((Z.setIfInBounds 0 (V)).setIfInBounds 1 (.int .u8 128)).setIfInBounds 1026 (.int .i64 0)).setIfInBounds 1027 (.int .i64 0)).setIfInBounds 1028 (.int .i64 0)).setIfInBounds 1029 (.int .i64 1)).setIfInBounds 1030 (.int .i64 0)).setIfInBounds 1031 (.int .i64 0)).setIfInBounds 1032 (.int .i64 0)).setIfInBounds 1036 (.int .i64 (-1))).setIfInBounds 1038 (.int .i32 (-2))).setIfInBounds 1039 (.nilFunc)).setIfInBounds 1040 (.int .i64 0)).setIfInBounds 1041 (.int .u64 1012)).setIfInBounds 1042 (.int .u64 4294977024)).setIfInBounds 1046 (.int .i64 0))
theorem cell_in {w : World} {b : Nat} {Z : Array Value} (h : w.heap[b]? = some (.cells Z 92 (0, 0))) (hZ : Z.size = 1048) (i : Nat) (hi : i < 1048) : ∃ v, w.cell? ⟨b, i, none⟩ = some v :=
  ⟨Z[i]'(by omega), by rw [Lib.cell_of_heap h]; exact Array.getElem?_eq_getElem (by omega)⟩
set_option maxHeartbeats 1000000 in
set_option maxRecDepth 100000 in
theorem init_go (b r : Nat) (Z : Array Value) (w : World) (h : w.heap[b]? = some (.cells Z 92 (0, 0))) (hZ : Z.size = 1048) :
    Calls Tryz.prog 56 #[.pointer (some ⟨b, 0, none⟩), .iface 119 (.pointer (some ⟨r, 0, none⟩))] w fun e w' => e = .returned (.pointer (some ⟨b, 0, none⟩)) ∧ w'.heap[b]? = some (.cells (initZ Z (.iface 119 (.pointer (some ⟨r, 0, none⟩)))) 92 (0, 0)) ∧ Only b w w' := by
  have H0 := Lib.hid h
  have hO0 : Hid (Only b w w) := Only.refl b w
  obtain ⟨Z0, hZ0⟩ : ∃ Z0, Z0 = Z := ⟨_, rfl⟩
  obtain ⟨w0, hw0⟩ : ∃ w0, w0 = w := ⟨_, rfl⟩
  rw [← hw0, ← hZ0] at H0
  rw [← hw0] at hO0
  have HZ0 := Lib.hid hZ0
  have hS0 : Z0.size = 1048 := by rw [hZ0]; exact hZ
  have Hw0 := Lib.hid hw0
  obtain ⟨v, c⟩ := cell_in H0.out hS0 0 (by omega)
  have f := Lib.frozen_of_heap H0.out 0
  rw [hw0] at c f
  clear h hZ hw0 hZ0
  go_enter Tryz.func56, Tryz.ntmps56
  go_upto_region 2 with fail
  obtain ⟨w1, hw⟩ : ∃ x, x = w.setCell ⟨b, 0, none⟩ (.iface 119 (.pointer (some ⟨r, 0, none⟩))) := ⟨_, rfl⟩
  rw [← hw]
  rw [← Hw0.out] at hw
  have H1 : Hid (w1.heap[b]? = some (.cells (Z0.setIfInBounds 0 (.iface 119 (.pointer (some ⟨r, 0, none⟩)))) 92 (0, 0))) := by rw [hw]; exact Lib.heap_setCell_same (i := 0) H0.out _
  have hO1 : Hid (Only b w0 w1) := by rw [hw]; exact hO0.out.setCell 0 _
  obtain ⟨Z1, hz⟩ : ∃ x, x = Z0.setIfInBounds 0 (.iface 119 (.pointer (some ⟨r, 0, none⟩))) := ⟨_, rfl⟩
  rw [← hz] at H1
  have HZ1 := Lib.hid hz
  have hS1 : Z1.size = 1048 := by rw [hz, Array.size_setIfInBounds]; exact hS0
  clear hw hz c f H0 hO0
  obtain ⟨v0, c⟩ := cell_in H1.out hS1 1 (by omega)
  have f := Lib.frozen_of_heap H1.out 1
  go_upto_region 3 with fail
  obtain ⟨w2, hw⟩ : ∃ x, x = w1.setCell ⟨b, 1, none⟩ (.int .u8 128) := ⟨_, rfl⟩
  rw [← hw]
  have H2 : Hid (w2.heap[b]? = some (.cells (Z1.setIfInBounds 1 (.int .u8 128)) 92 (0, 0))) := by rw [hw]; exact Lib.heap_setCell_same (i := 1) H1.out _
  have hO2 : Hid (Only b w0 w2) := by rw [hw]; exact hO1.out.setCell 1 _
  obtain ⟨Z2, hz⟩ : ∃ x, x = Z1.setIfInBounds 1 (.int .u8 128) := ⟨_, rfl⟩
  rw [← hz] at H2
  have HZ2 := Lib.hid hz
  have hS2 : Z2.size = 1048 := by rw [hz, Array.size_setIfInBounds]; exact hS1
  clear hw hz c f H1 hO1
  obtain ⟨v1, c⟩ := cell_in H2.out hS2 1026 (by omega)
  have f := Lib.frozen_of_heap H2.out 1026
  go_upto_region 4 with fail
  obtain ⟨w3, hw⟩ : ∃ x, x = w2.setCell ⟨b, 1026, none⟩ (.int .i64 0) := ⟨_, rfl⟩
  rw [← hw]
  have H3 : Hid (w3.heap[b]? = some (.cells (Z2.setIfInBounds 1026 (.int .i64 0)) 92 (0, 0))) := by rw [hw]; exact Lib.heap_setCell_same (i := 1026) H2.out _
  have hO3 : Hid (Only b w0 w3) := by rw [hw]; exact hO2.out.setCell 1026 _
  obtain ⟨Z3, hz⟩ : ∃ x, x = Z2.setIfInBounds 1026 (.int .i64 0) := ⟨_, rfl⟩
  rw [← hz] at H3
  have HZ3 := Lib.hid hz
  have hS3 : Z3.size = 1048 := by rw [hz, Array.size_setIfInBounds]; exact hS2
  clear hw hz c f H2 hO2
  obtain ⟨v2, c⟩ := cell_in H3.out hS3 1027 (by omega)
  have f := Lib.frozen_of_heap H3.out 1027
  go_upto_region 5 with fail
  obtain ⟨w4, hw⟩ : ∃ x, x = w3.setCell ⟨b, 1027, none⟩ (.int .i64 0) := ⟨_, rfl⟩
  rw [← hw]
  have H4 : Hid (w4.heap[b]? = some (.cells (Z3.setIfInBounds 1027 (.int .i64 0)) 92 (0, 0))) := by rw [hw]; exact Lib.heap_setCell_same (i := 1027) H3.out _
  have hO4 : Hid (Only b w0 w4) := by rw [hw]; exact hO3.out.setCell 1027 _
  obtain ⟨Z4, hz⟩ : ∃ x, x = Z3.setIfInBounds 1027 (.int .i64 0) := ⟨_, rfl⟩
  rw [← hz] at H4
  have HZ4 := Lib.hid hz
  have hS4 : Z4.size = 1048 := by rw [hz, Array.size_setIfInBounds]; exact hS3
  clear hw hz c f H3 hO3
  obtain ⟨v3, c⟩ := cell_in H4.out hS4 1028 (by omega)
  have f := Lib.frozen_of_heap H4.out 1028
  go_upto_region 6 with fail
  obtain ⟨w5, hw⟩ : ∃ x, x = w4.setCell ⟨b, 1028, none⟩ (.int .i64 0) := ⟨_, rfl⟩
  rw [← hw]
  have H5 : Hid (w5.heap[b]? = some (.cells (Z4.setIfInBounds 1028 (.int .i64 0)) 92 (0, 0))) := by rw [hw]; exact Lib.heap_setCell_same (i := 1028) H4.out _
  have hO5 : Hid (Only b w0 w5) := by rw [hw]; exact hO4.out.setCell 1028 _
  obtain ⟨Z5, hz⟩ : ∃ x, x = Z4.setIfInBounds 1028 (.int .i64 0) := ⟨_, rfl⟩
  rw [← hz] at H5
  have HZ5 := Lib.hid hz
  have hS5 : Z5.size = 1048 := by rw [hz, Array.size_setIfInBounds]; exact hS4
  clear hw hz c f H4 hO4
  obtain ⟨v4, c⟩ := cell_in H5.out hS5 1029 (by omega)
  have f := Lib.frozen_of_heap H5.out 1029
  go_upto_region 7 with fail
  obtain ⟨w6, hw⟩ : ∃ x, x = w5.setCell ⟨b, 1029, none⟩ (.int .i64 1) := ⟨_, rfl⟩
  rw [← hw]
  have H6 : Hid (w6.heap[b]? = some (.cells (Z5.setIfInBounds 1029 (.int .i64 1)) 92 (0, 0))) := by rw [hw]; exact Lib.heap_setCell_same (i := 1029) H5.out _
  have hO6 : Hid (Only b w0 w6) := by rw [hw]; exact hO5.out.setCell 1029 _
  obtain ⟨Z6, hz⟩ : ∃ x, x = Z5.setIfInBounds 1029 (.int .i64 1) := ⟨_, rfl⟩
  rw [← hz] at H6
  have HZ6 := Lib.hid hz
  have hS6 : Z6.size = 1048 := by rw [hz, Array.size_setIfInBounds]; exact hS5
  clear hw hz c f H5 hO5
  obtain ⟨v5, c⟩ := cell_in H6.out hS6 1030 (by omega)
  have f := Lib.frozen_of_heap H6.out 1030
  go_upto_region 8 with fail
  obtain ⟨w7, hw⟩ : ∃ x, x = w6.setCell ⟨b, 1030, none⟩ (.int .i64 0) := ⟨_, rfl⟩
  rw [← hw]
  have H7 : Hid (w7.heap[b]? = some (.cells (Z6.setIfInBounds 1030 (.int .i64 0)) 92 (0, 0))) := by rw [hw]; exact Lib.heap_setCell_same (i := 1030) H6.out _
  have hO7 : Hid (Only b w0 w7) := by rw [hw]; exact hO6.out.setCell 1030 _
  obtain ⟨Z7, hz⟩ : ∃ x, x = Z6.setIfInBounds 1030 (.int .i64 0) := ⟨_, rfl⟩
  rw [← hz] at H7
  have HZ7 := Lib.hid hz
  have hS7 : Z7.size = 1048 := by rw [hz, Array.size_setIfInBounds]; exact hS6
  clear hw hz c f H6 hO6
  obtain ⟨v6, c⟩ := cell_in H7.out hS7 1031 (by omega)
  have f := Lib.frozen_of_heap H7.out 1031
  go_upto_region 9 with fail
  obtain ⟨w8, hw⟩ : ∃ x, x = w7.setCell ⟨b, 1031, none⟩ (.int .i64 0) := ⟨_, rfl⟩
  rw [← hw]
  have H8 : Hid (w8.heap[b]? = some (.cells (Z7.setIfInBounds 1031 (.int .i64 0)) 92 (0, 0))) := by rw [hw]; exact Lib.heap_setCell_same (i := 1031) H7.out _
  have hO8 : Hid (Only b w0 w8) := by rw [hw]; exact hO7.out.setCell 1031 _
  obtain ⟨Z8, hz⟩ : ∃ x, x = Z7.setIfInBounds 1031 (.int .i64 0) := ⟨_, rfl⟩
  rw [← hz] at H8
  have HZ8 := Lib.hid hz
  have hS8 : Z8.size = 1048 := by rw [hz, Array.size_setIfInBounds]; exact hS7
  clear hw hz c f H7 hO7
  obtain ⟨v7, c⟩ := cell_in H8.out hS8 1032 (by omega)
  have f := Lib.frozen_of_heap H8.out 1032
  go_upto_region 10 with fail
  obtain ⟨w9, hw⟩ : ∃ x, x = w8.setCell ⟨b, 1032, none⟩ (.int .i64 0) := ⟨_, rfl⟩
  rw [← hw]
  have H9 : Hid (w9.heap[b]? = some (.cells (Z8.setIfInBounds 1032 (.int .i64 0)) 92 (0, 0))) := by rw [hw]; exact Lib.heap_setCell_same (i := 1032) H8.out _
  have hO9 : Hid (Only b w0 w9) := by rw [hw]; exact hO8.out.setCell 1032 _
  obtain ⟨Z9, hz⟩ : ∃ x, x = Z8.setIfInBounds 1032 (.int .i64 0) := ⟨_, rfl⟩
  rw [← hz] at H9
  have HZ9 := Lib.hid hz
  have hS9 : Z9.size = 1048 := by rw [hz, Array.size_setIfInBounds]; exact hS8
  clear hw hz c f H8 hO8
  obtain ⟨v8, c⟩ := cell_in H9.out hS9 1036 (by omega)
  have f := Lib.frozen_of_heap H9.out 1036
  go_upto_region 11 with fail
  obtain ⟨w10, hw⟩ : ∃ x, x = w9.setCell ⟨b, 1036, none⟩ (.int .i64 (-1)) := ⟨_, rfl⟩
  rw [← hw]
  have H10 : Hid (w10.heap[b]? = some (.cells (Z9.setIfInBounds 1036 (.int .i64 (-1))) 92 (0, 0))) := by rw [hw]; exact Lib.heap_setCell_same (i := 1036) H9.out _
  have hO10 : Hid (Only b w0 w10) := by rw [hw]; exact hO9.out.setCell 1036 _
  obtain ⟨Z10, hz⟩ : ∃ x, x = Z9.setIfInBounds 1036 (.int .i64 (-1)) := ⟨_, rfl⟩
  rw [← hz] at H10
  have HZ10 := Lib.hid hz
  have hS10 : Z10.size = 1048 := by rw [hz, Array.size_setIfInBounds]; exact hS9
  clear hw hz c f H9 hO9
  obtain ⟨v9, c⟩ := cell_in H10.out hS10 1038 (by omega)
  have f := Lib.frozen_of_heap H10.out 1038
  go_upto_region 12 with fail
  obtain ⟨w11, hw⟩ : ∃ x, x = w10.setCell ⟨b, 1038, none⟩ (.int .i32 (-2)) := ⟨_, rfl⟩
  rw [← hw]
  have H11 : Hid (w11.heap[b]? = some (.cells (Z10.setIfInBounds 1038 (.int .i32 (-2))) 92 (0, 0))) := by rw [hw]; exact Lib.heap_setCell_same (i := 1038) H10.out _
  have hO11 : Hid (Only b w0 w11) := by rw [hw]; exact hO10.out.setCell 1038 _
  obtain ⟨Z11, hz⟩ : ∃ x, x = Z10.setIfInBounds 1038 (.int .i32 (-2)) := ⟨_, rfl⟩
  rw [← hz] at H11
  have HZ11 := Lib.hid hz
  have hS11 : Z11.size = 1048 := by rw [hz, Array.size_setIfInBounds]; exact hS10
  clear hw hz c f H10 hO10
  obtain ⟨v10, c⟩ := cell_in H11.out hS11 1039 (by omega)
  have f := Lib.frozen_of_heap H11.out 1039
  have hst : Sem.run Tryz.prog (store ⟨b, 1039, none⟩ .nilFunc) w11 = .ok () (w11.setCell ⟨b, 1039, none⟩ .nilFunc) := by rw [run_store _ _ _ _ _ rfl, c]; simp [f]
  go_upto_region 13 with fail
  obtain ⟨w12, hw⟩ : ∃ x, x = w11.setCell ⟨b, 1039, none⟩ (.nilFunc) := ⟨_, rfl⟩
  rw [← hw]
  have H12 : Hid (w12.heap[b]? = some (.cells (Z11.setIfInBounds 1039 (.nilFunc)) 92 (0, 0))) := by rw [hw]; exact Lib.heap_setCell_same (i := 1039) H11.out _
  have hO12 : Hid (Only b w0 w12) := by rw [hw]; exact hO11.out.setCell 1039 _
  obtain ⟨Z12, hz⟩ : ∃ x, x = Z11.setIfInBounds 1039 (.nilFunc) := ⟨_, rfl⟩
  rw [← hz] at H12
  have HZ12 := Lib.hid hz
  have hS12 : Z12.size = 1048 := by rw [hz, Array.size_setIfInBounds]; exact hS11
  clear hw hz c f H11 hO11
  obtain ⟨v11, c⟩ := cell_in H12.out hS12 1040 (by omega)
  have f := Lib.frozen_of_heap H12.out 1040
  go_upto_region 14 with fail
  obtain ⟨w13, hw⟩ : ∃ x, x = w12.setCell ⟨b, 1040, none⟩ (.int .i64 0) := ⟨_, rfl⟩
  rw [← hw]
  have H13 : Hid (w13.heap[b]? = some (.cells (Z12.setIfInBounds 1040 (.int .i64 0)) 92 (0, 0))) := by rw [hw]; exact Lib.heap_setCell_same (i := 1040) H12.out _
  have hO13 : Hid (Only b w0 w13) := by rw [hw]; exact hO12.out.setCell 1040 _
  obtain ⟨Z13, hz⟩ : ∃ x, x = Z12.setIfInBounds 1040 (.int .i64 0) := ⟨_, rfl⟩
  rw [← hz] at H13
  have HZ13 := Lib.hid hz
  have hS13 : Z13.size = 1048 := by rw [hz, Array.size_setIfInBounds]; exact hS12
  clear hw hz c f H12 hO12
  obtain ⟨v12, c⟩ := cell_in H13.out hS13 1041 (by omega)
  have f := Lib.frozen_of_heap H13.out 1041
  go_upto_region 15 with fail
  obtain ⟨w14, hw⟩ : ∃ x, x = w13.setCell ⟨b, 1041, none⟩ (.int .u64 1012) := ⟨_, rfl⟩
  rw [← hw]
  have H14 : Hid (w14.heap[b]? = some (.cells (Z13.setIfInBounds 1041 (.int .u64 1012)) 92 (0, 0))) := by rw [hw]; exact Lib.heap_setCell_same (i := 1041) H13.out _
  have hO14 : Hid (Only b w0 w14) := by rw [hw]; exact hO13.out.setCell 1041 _
  obtain ⟨Z14, hz⟩ : ∃ x, x = Z13.setIfInBounds 1041 (.int .u64 1012) := ⟨_, rfl⟩
  rw [← hz] at H14
  have HZ14 := Lib.hid hz
  have hS14 : Z14.size = 1048 := by rw [hz, Array.size_setIfInBounds]; exact hS13
  clear hw hz c f H13 hO13
  obtain ⟨v13, c⟩ := cell_in H14.out hS14 1042 (by omega)
  have f := Lib.frozen_of_heap H14.out 1042
  go_upto_region 16 with fail
  obtain ⟨w15, hw⟩ : ∃ x, x = w14.setCell ⟨b, 1042, none⟩ (.int .u64 4294977024) := ⟨_, rfl⟩
  rw [← hw]
  have H15 : Hid (w15.heap[b]? = some (.cells (Z14.setIfInBounds 1042 (.int .u64 4294977024)) 92 (0, 0))) := by rw [hw]; exact Lib.heap_setCell_same (i := 1042) H14.out _
  have hO15 : Hid (Only b w0 w15) := by rw [hw]; exact hO14.out.setCell 1042 _
  obtain ⟨Z15, hz⟩ : ∃ x, x = Z14.setIfInBounds 1042 (.int .u64 4294977024) := ⟨_, rfl⟩
  rw [← hz] at H15
  have HZ15 := Lib.hid hz
  have hS15 : Z15.size = 1048 := by rw [hz, Array.size_setIfInBounds]; exact hS14
  clear hw hz c f H14 hO14
  obtain ⟨v14, c⟩ := cell_in H15.out hS15 1046 (by omega)
  have f := Lib.frozen_of_heap H15.out 1046
  go_upto_region 17 with fail
  obtain ⟨w16, hw⟩ : ∃ x, x = w15.setCell ⟨b, 1046, none⟩ (.int .i64 0) := ⟨_, rfl⟩
  rw [← hw]
  have H16 : Hid (w16.heap[b]? = some (.cells (Z15.setIfInBounds 1046 (.int .i64 0)) 92 (0, 0))) := by rw [hw]; exact Lib.heap_setCell_same (i := 1046) H15.out _
  have hO16 : Hid (Only b w0 w16) := by rw [hw]; exact hO15.out.setCell 1046 _
  obtain ⟨Z16, hz⟩ : ∃ x, x = Z15.setIfInBounds 1046 (.int .i64 0) := ⟨_, rfl⟩
  rw [← hz] at H16
  have HZ16 := Lib.hid hz
  have hS16 : Z16.size = 1048 := by rw [hz, Array.size_setIfInBounds]; exact hS15
  clear hw hz c f H15 hO15
  go_wp2_with fail
  go_ret
  have hO := hO16.out
  rw [Hw0.out] at hO
  refine ⟨rfl, ?_, hO⟩
  rw [H16.out, HZ16.out, HZ15.out, HZ14.out, HZ13.out, HZ12.out, HZ11.out, HZ10.out, HZ9.out, HZ8.out, HZ7.out, HZ6.out, HZ5.out, HZ4.out, HZ3.out, HZ2.out, HZ1.out, HZ0.out]
  rfl
end Go.Proofs.YthplmbgdcfmkgaaGreatDoor
/- A new lexer: the struct's value. -/
namespace Go.Proofs.YthplmbgdcfmkgaaGreatDoor
open Go.RowKit

theorem fold_fill (l : List Value) : ∀ (k : Nat) (A : Array Value), k + l.length ≤ A.size →
    ((l.zipIdx k).foldl (fun cs (p : Value × Nat) => cs.setIfInBounds (0 + p.2) p.1) A).toList = A.toList.take k ++ l ++ A.toList.drop (k + l.length) := by
  induction l with
  | nil => intro k A h; simp
  | cons x l ih =>
    intro k A h
    rw [List.zipIdx_cons, List.foldl_cons]
    have hA : A.toList.length = A.size := Array.length_toList
    rw [ih (k + 1) _ (by rw [Array.size_setIfInBounds, List.length_cons] at *; omega)]
    rw [List.length_cons] at h
    rw [Array.toList_setIfInBounds, Nat.zero_add]
    have e1 : (A.toList.set k x).take (k + 1) = A.toList.take k ++ [x] := by
      rw [List.take_add_one, List.getElem?_set_self (by omega)]
      congr 1
      exact List.take_set_of_le (Nat.le_refl _)
    rw [e1, List.drop_set_of_lt (by omega)]
    rw [List.append_assoc, List.append_assoc, List.append_assoc]
    simp only [List.cons_append, List.nil_append, List.length_cons]
    rw [show k + 1 + l.length = k + (l.length + 1) by omega]
theorem fill_one (place : Nat → Option (Nat × Nat)) (A Z : Array Value) (hp : place 0 = some (0, Z.size)) (hs : Z.size ≤ A.size) :
    ∃ Y : Array Value, Instr.fill place A [(0, .agg Z)] = some Y ∧ Y.toList = Z.toList ++ A.toList.drop Z.size := by
  refine ⟨Z.zipIdx.foldl (fun cs (p : Value × Nat) => cs.setIfInBounds (0 + p.2) p.1) A, ?_, ?_⟩
  · have hc : (Value.agg Z).cells = Z := rfl
    simp only [Instr.fill, hp, hc]
    rw [if_neg (by simp; omega)]
  · rw [← Array.foldl_toList, Array.toList_zipIdx]
    have hZl : Z.toList.length = Z.size := Array.length_toList
    rw [fold_fill Z.toList 0 A (by rw [hZl, Nat.zero_add]; exact hs)]
    simp
theorem z92_one : Tryz.zeroCells92.toList.all (·.oneCell') = true := by kernel_rfl
theorem z94_one : Tryz.zeroCells94.toList.all (·.oneCell') = true := by kernel_rfl
theorem z92_len : Tryz.zeroCells92.toList.length = 1048 := by kernel_rfl
theorem z94_len : Tryz.zeroCells94.toList.length = 1049 := by kernel_rfl
theorem z97_len : Tryz.zeroCells97.toList.length = 1049 := by kernel_rfl
theorem built94 (Z : Array Value) (hZ : Z.size = 1048) : ∃ Y, Tryz.prog.built 94 [(0, .agg Z)] = some Y ∧ Y.toList = Z.toList ++ Tryz.zeroCells94.toList.drop 1048 := by
  have t1 : (Tryz.prog.info? 94).bind (·.zero) = some (.agg Tryz.zeroCells94) := by kernel_rfl
  have t2 : Tryz.prog.underlying 94 = some (.struct (Tryz.prog.fieldsOf 94)) := by kernel_rfl
  have t3 : (Tryz.prog.fieldsOf 94).toList.mapM (fun f => (Tryz.prog.info? f.type).map fun i => (f.offset, i.size)) = some [(0, 1048), (1048, 1)] := by kernel_rfl
  have t4 : Tryz.zeroCells94.size = 1049 := by rw [← Array.length_toList]; exact z94_len
  obtain ⟨Y, h1, h2⟩ := fill_one (#[(0, 1048), (1048, 1)][·]?) Tryz.zeroCells94 Z (by rw [hZ]; rfl) (by omega)
  refine ⟨Y, ?_, by rw [h2, hZ]⟩
  unfold Program.built
  cases hi : Tryz.prog.info? 94 with
  | none => rw [hi] at t1; cases t1
  | some it =>
    rw [hi] at t1
    have hz : it.zero = some (.agg Tryz.zeroCells94) := t1
    simp only [t2, hz, t3]
    exact h1
theorem built97 (Z : Array Value) (hZ : Z.size = 1049) : Tryz.prog.built 97 [(0, .agg Z)] = some Z := by
  have t1 : (Tryz.prog.info? 97).bind (·.zero) = some (.agg Tryz.zeroCells97) := by kernel_rfl
  have t2 : Tryz.prog.underlying 97 = some (.struct (Tryz.prog.fieldsOf 97)) := by kernel_rfl
  have t3 : (Tryz.prog.fieldsOf 97).toList.mapM (fun f => (Tryz.prog.info? f.type).map fun i => (f.offset, i.size)) = some [(0, 1049)] := by kernel_rfl
  have t4 : Tryz.zeroCells97.size = 1049 := by rw [← Array.length_toList]; exact z97_len
  obtain ⟨Y, h1, h2⟩ := fill_one (#[(0, 1049)][·]?) Tryz.zeroCells97 Z (by rw [hZ]; rfl) (by omega)
  have hY : Y = Z := by
    apply Array.toList_inj.mp
    rw [h2, List.drop_eq_nil_of_le (by rw [Array.length_toList]; omega), List.append_nil]
  rw [hY] at h1
  unfold Program.built
  cases hi : Tryz.prog.info? 97 with
  | none => rw [hi] at t1; cases t1
  | some it =>
    rw [hi] at t1
    have hz : it.zero = some (.agg Tryz.zeroCells97) := t1
    simp only [t2, hz, t3]
    exact h1
theorem all_set {A : Array Value} {p : Value → Bool} (h : A.all p = true) (i : Nat) (v : Value) (hv : p v = true) : (A.setIfInBounds i v).all p = true := by
  rw [Array.all_eq_true_iff_forall_mem] at h ⊢
  intro x hx
  rw [← Array.mem_toList_iff, Array.toList_setIfInBounds] at hx
  rcases List.mem_or_eq_of_mem_set hx with hx | rfl
  · exact h x (Array.mem_toList_iff.mp hx)
  · exact hv
theorem all_of_list {A : Array Value} {p : Value → Bool} (h : A.toList.all p = true) : A.all p = true := by rw [← Array.all_toList]; exact h
theorem initZ_one (Z : Array Value) (h0 : Z.all (·.oneCell') = true) (V : Value) (hV : V.oneCell' = true) : (initZ Z V).all (·.oneCell') = true := by
  unfold initZ
  exact all_set (all_set (all_set (all_set (all_set (all_set (all_set (all_set (all_set (all_set (all_set (all_set (all_set (all_set (all_set (all_set h0 _ _ hV) _ _ rfl) _ _ rfl) _ _ rfl) _ _ rfl) _ _ rfl) _ _ rfl) _ _ rfl) _ _ rfl) _ _ rfl) _ _ rfl) _ _ rfl) _ _ rfl) _ _ rfl) _ _ rfl) _ _ rfl
theorem initZ_size (Z : Array Value) (V : Value) : (initZ Z V).size = Z.size := by unfold initZ; simp only [Array.size_setIfInBounds]
theorem new_reader (s : ByteArray) (w : World) :
    Calls Tryz.prog 57 #[.string s] w fun e w' => e = .returned (.pointer (some ⟨w.heap.size, 0, none⟩)) ∧ w' = w.alloc (.cells #[.string s, .int .i64 0, .int .i64 (-1)] 129 (0, 0)) := by
  go_enter Tryz.func57, Tryz.ntmps57
  go_wp2_with fail
  go_ret
  exact ⟨rfl, rfl⟩
end Go.Proofs.YthplmbgdcfmkgaaGreatDoor
/- A new lexer. -/
namespace Go.Proofs.YthplmbgdcfmkgaaGreatDoor
open Go.RowKit

theorem step_value {P : Program} {ops : Array Oper} {Q : Exit → Act → World → Prop} {a : Act} {w w' : World} {rest : List Oper} {o : Oper} {v : Value} (hg : o.guard = none)
    (hr : (execOp a.eval o).run P w = .ok (.value v) w') (h : wpList P ops Q rest (a.put o.dst v) w') : wpList P ops Q (o :: rest) a w :=
  wpList_plain hg fun K hK => by unfold Oper.wp; rw [hr]; exact hK _ _ h
theorem step_skip {P : Program} {ops : Array Oper} {Q : Exit → Act → World → Prop} {a : Act} {w w' : World} {rest : List Oper} {o : Oper} (hg : o.guard = none)
    (hr : (execOp a.eval o).run P w = .ok .skip w') (h : wpList P ops Q rest (a.put o.dst undef) w') : wpList P ops Q (o :: rest) a w :=
  wpList_plain hg fun K hK => by unfold Oper.wp; rw [hr]; exact hK _ _ h
theorem exec_load {ρ : Operand → Value} {o : Oper} {t : TypeId} {x : Operand} {a : Addr} {v : Value} {w : World} (ho : o.op = Op.load t x) (hx : ρ x = .pointer (some a)) (hl : (loadVar t a).run Tryz.prog w = .ok v w) :
    (execOp ρ o).run Tryz.prog w = .ok (.value v) w := by
  rw [execOp, ho]
  simp [hx, Instr.loadAt, Instr.sureAddr, hl]
theorem exec_store {ρ : Operand → Value} {o : Oper} {t : TypeId} {x y : Operand} {a : Addr} {v : Value} {w w' : World} (ho : o.op = Op.store t x y) (hx : ρ x = .pointer (some a)) (hy : ρ y = v) (hl : (storeVar t a v).run Tryz.prog w = .ok () w') :
    (execOp ρ o).run Tryz.prog w = .ok .skip w' := by
  rw [execOp, ho]
  simp [hx, hy, Instr.storeAt, Instr.sureAddr, hl]
theorem exec_build1 {ρ : Operand → Value} {o : Oper} {t : TypeId} {x : Operand} {v : Value} {Y : Array Value} {w : World} (ho : o.op = Op.build t #[(0, x)]) (hx : ρ x = v) (hb : (Instr.build t #[(0, v)]).run Tryz.prog w = .ok (.agg Y) w) :
    (execOp ρ o).run Tryz.prog w = .ok (.value (.agg Y)) w := by
  rw [execOp, ho]
  simp [hx, hb]
theorem exec_box {ρ : Operand → Value} {o : Oper} {t : TypeId} {x : Operand} {Y : Array Value} {w : World} (ho : o.op = Op.box t x) (hx : ρ x = .agg Y) :
    (execOp ρ o).run Tryz.prog w = .ok (.value (.pointer (some ⟨w.heap.size, 0, none⟩))) (w.alloc (.cells Y t (0, 0))) := by
  rw [execOp, ho]
  simp [hx, Instr.box, newVar, newRow, Value.cells]
/-- The value of a new lexer over s; r: its reader's block. -/
noncomputable def lexZ (r : Nat) : List Value := ((initZ Tryz.zeroCells92 (.iface 119 (.pointer (some ⟨r, 0, none⟩)))).setIfInBounds 1041 (.int .u64 28)).toList ++ Tryz.zeroCells94.toList.drop 1048

set_option maxHeartbeats 1000000 in
set_option maxRecDepth 100000 in
theorem new_lexer (s : ByteArray) (w : World) :
    Calls Tryz.prog 40 #[.string s] w fun e w' => ∃ (Y : Array Value) (r : Nat), e = .returned (.agg Y) ∧ Y.toList = lexZ r ∧ Y.size = 1049 ∧ Y.all (·.oneCell') = true ∧ r = w.heap.size + 2 ∧ w'.heap[r]? = some (.cells #[.string s, .int .i64 0, .int .i64 (-1)] 129 (0, 0)) ∧
      (∀ (k : Nat) (o : Obj), w.heap[k]? = some o → w'.heap[k]? = some o) ∧ (∀ B, B ≤ w.heap.size → Below B w w') ∧ w'.heap.size = w.heap.size + 3 := by
  obtain ⟨b0, hb0⟩ : ∃ b0, b0 = w.heap.size := ⟨_, rfl⟩
  obtain ⟨b1, hb1⟩ : ∃ b1, b1 = w.heap.size + 1 := ⟨_, rfl⟩
  obtain ⟨A4, hA4⟩ : ∃ A, A = Tryz.zeroCells94 := ⟨_, rfl⟩
  obtain ⟨A2, hA2⟩ : ∃ A, A = Tryz.zeroCells92 := ⟨_, rfl⟩
  obtain ⟨wa, hwa⟩ : ∃ wa, wa = (w.alloc (Obj.cells A4 94)).alloc (Obj.cells A2 92) := ⟨_, rfl⟩
  have hz : A2.size = 1048 := by rw [hA2, ← Array.length_toList]; exact z92_len
  have hz4 : A4.size = 1049 := by rw [hA4, ← Array.length_toList]; exact z94_len
  have hone2 : A2.all (·.oneCell') = true := by rw [hA2]; exact all_of_list z92_one
  have hone4 : A4.all (·.oneCell') = true := by rw [hA4]; exact all_of_list z94_one
  have hbu : ∀ Z : Array Value, Z.size = 1048 → ∃ Y, Tryz.prog.built 94 [(0, .agg Z)] = some Y ∧ Y.toList = Z.toList ++ A4.toList.drop 1048 := fun Z h => by rw [hA4]; exact built94 Z h
  have hlz : ∀ r, lexZ r = ((initZ A2 (.iface 119 (.pointer (some ⟨r, 0, none⟩)))).setIfInBounds 1041 (.int .u64 28)).toList ++ A4.toList.drop 1048 := fun r => by rw [hA2, hA4]; rfl
  have Hlz := Lib.hid hlz
  go_enter Tryz.func40, Tryz.ntmps40
  go_wp2_with fail
  rw [← hA4, ← hA2, ← hwa, ← hb1, ← hb0]
  clear hA4 hA2 hlz
  refine (new_reader s wa).mono ?_
  rintro e w1 ⟨rfl, hw1⟩
  obtain ⟨r, hr⟩ : ∃ r, r = wa.heap.size := ⟨_, rfl⟩
  rw [← hr]
  have hsz : wa.heap.size = w.heap.size + 2 := by rw [hwa]; show ((w.heap.push _).push _).size = _; rw [Array.size_push, Array.size_push]
  have hA1 : wa.heap[b1]? = some (.cells A2 92 (0, 0)) := by
    have := alloc_new (w.alloc (Obj.cells A4 94)) (Obj.cells A2 92)
    rw [hwa, hb1]
    rw [show (w.alloc (Obj.cells A4 94)).heap.size = w.heap.size + 1 from by show (w.heap.push _).size = _; rw [Array.size_push]] at this
    exact this
  have hA0 : wa.heap[b0]? = some (.cells A4 94 (0, 0)) := by
    rw [hwa, hb0]; exact alloc_kept _ _ _ _ (alloc_new w _)
  have hB1 : w1.heap[b1]? = some (.cells A2 92 (0, 0)) := by rw [hw1]; exact alloc_kept _ _ _ _ hA1
  have hB0 : w1.heap[b0]? = some (.cells A4 94 (0, 0)) := by rw [hw1]; exact alloc_kept _ _ _ _ hA0
  have hBr : w1.heap[r]? = some (.cells #[.string s, .int .i64 0, .int .i64 (-1)] 129 (0, 0)) := by rw [hw1, hr]; exact alloc_new _ _
  have hkeep1 : Hid (∀ (k : Nat) (o : Obj), w.heap[k]? = some o → w1.heap[k]? = some o) := fun k o h => by rw [hw1, hwa]; exact alloc_kept _ _ _ _ (alloc_kept _ _ _ _ (alloc_kept _ _ _ _ h))
  have hbel1 : Hid (∀ B, B ≤ w.heap.size → Below B w w1) := fun B hB => by
    rw [hw1]
    refine Below.trans ?_ (alloc_below B wa _ (by omega))
    rw [hwa]
    exact (alloc_below B w _ hB).trans (alloc_below B _ _ (by show B ≤ (w.heap.push _).size; rw [Array.size_push]; omega))
  have hsz1 : Hid (w1.heap.size = w.heap.size + 3) := by rw [Hid, hw1]; show (wa.heap.push _).size = _; rw [Array.size_push, hsz]
  have hne01 : b0 ≠ b1 := by omega
  have hner1 : r ≠ b1 := by omega
  have hner0 : r ≠ b0 := by omega
  have HN := Lib.hid (And.intro hb0 (And.intro hb1 (hr.trans hsz)))
  have HB1 := Lib.hid hB1
  have HB0 := Lib.hid hB0
  have HBr := Lib.hid hBr
  clear hb0 hb1 hwa hw1 hr hsz hA1 hA0 hB1 hB0 hBr
  go_wp2_with fail
  refine (init_go b1 r A2 w1 HB1.out hz).mono ?_
  rintro e w2 ⟨rfl, hw2, hO2⟩
  obtain ⟨Z2, hZ2⟩ : ∃ Z2, Z2 = initZ A2 (.iface 119 (.pointer (some ⟨r, 0, none⟩))) := ⟨_, rfl⟩
  rw [← hZ2] at hw2
  have hs2 : Z2.size = 1048 := by rw [hZ2, initZ_size]; exact hz
  obtain ⟨v41, c41⟩ := cell_in hw2 hs2 1041 (by omega)
  have f41 := Lib.frozen_of_heap hw2 1041
  have HZ2 := Lib.hid hZ2
  have HW2 := Lib.hid hw2
  have HO2 := Lib.hid hO2
  clear hZ2 hw2 hO2
  go_upto_region 4 with fail
  obtain ⟨w3, hw3⟩ : ∃ w3, w3 = w2.setCell ⟨b1, 1041, none⟩ (.int .u64 28) := ⟨_, rfl⟩
  rw [← hw3]
  obtain ⟨Z3, hZ3⟩ : ∃ Z3, Z3 = Z2.setIfInBounds 1041 (.int .u64 28) := ⟨_, rfl⟩
  have h31 : w3.heap[b1]? = some (.cells Z3 92 (0, 0)) := by rw [hw3, hZ3]; exact Lib.heap_setCell_same (i := 1041) HW2.out _
  have h30 : w3.heap[b0]? = some (.cells A4 94 (0, 0)) := by rw [hw3, Below.heap_setCell _ _ _ _ hne01, HO2.out.block _ hne01]; exact HB0.out
  have hs3 : Z3.size = 1048 := by rw [hZ3, Array.size_setIfInBounds]; exact hs2
  obtain ⟨Y, hY, hYl⟩ := hbu Z3 hs3
  have hYs : Y.size = 1049 := by
    have := congrArg List.length hYl
    rw [List.length_append, List.length_drop, Array.length_toList, Array.length_toList, Array.length_toList, hs3, hz4] at this
    omega
  have hload : Sem.run Tryz.prog (loadVar 92 ⟨b1, 0, none⟩) w3 = .ok (.agg Z3) w3 := run_loadVar_row w3 b1 92 92 Z3 (0, 0) (.struct (Tryz.prog.fieldsOf 92)) h31 (by kernel_rfl) rfl (by rw [hs3]; kernel_rfl)
  have hbuild : Sem.run Tryz.prog (Instr.build 94 #[(0, .agg Z3)]) w3 = .ok (.agg Y) w3 := run_build w3 94 #[(0, .agg Z3)] Y hY
  have h1 : Y.all (·.oneCell') = true := by
    have hz1 : Z3.all (·.oneCell') = true := by rw [hZ3, HZ2.out]; exact all_set (initZ_one A2 hone2 _ rfl) _ _ rfl
    have hz2 := hone4
    rw [Array.all_eq_true_iff_forall_mem] at hz1 hz2 ⊢
    intro x hx
    rw [← Array.mem_toList_iff, hYl, List.mem_append] at hx
    rcases hx with hx | hx
    · exact hz1 x (Array.mem_toList_iff.mp hx)
    · exact hz2 x (Array.mem_toList_iff.mp (List.mem_of_mem_drop hx))
  have hstore : Sem.run Tryz.prog (storeVar 94 ⟨b0, 0, none⟩ (.agg Y)) w3 = .ok () (w3.setRow b0 Y) := run_storeVar_row w3 b0 94 94 A4 Y h30 (by rw [hYs]; kernel_rfl) (by rw [hz4, hYs]) h1
  refine wp_region_lit ?_
  refine step_value rfl (exec_load rfl rfl hload) ?_
  refine step_value rfl (exec_build1 rfl rfl hbuild) ?_
  refine step_skip rfl (exec_store rfl rfl rfl hstore) ?_
  refine wpList_nil ?_
  go_wp2_with fail
  have h40 : (w3.setRow b0 Y).heap[b0]? = some (.cells Y 94 (0, 0)) := setRow_heap _ _ _ _ _ _ h30
  have hoth : ∀ k, k ≠ b0 → k ≠ b1 → (w3.setRow b0 Y).heap[k]? = w1.heap[k]? := fun k h1 h2 => by
    rw [setRow_other w3 b0 k _ h1, hw3, Below.heap_setCell _ _ _ _ h2]
    exact HO2.out.block k h2
  have hsz3 : (w3.setRow b0 Y).heap.size = w1.heap.size := by
    rw [← HO2.out.size, hw3]; simp [World.setRow, World.setCell]
  refine ⟨rfl, .agg Y, results_cell_row rfl _ _ b0 94 Y (0, 0) (.struct (Tryz.prog.fieldsOf 94)) rfl h40 (by kernel_rfl) rfl (by rw [hYs]; kernel_rfl), Y, r, rfl, ?_, hYs, h1, HN.out.2.2, ?_, ?_, ?_, ?_⟩
  · rw [Hlz.out, hYl, hZ3, HZ2.out]
  · rw [hoth r hner0 hner1]; exact HBr.out
  · intro k o hk
    have hlt : k < w.heap.size := (Array.getElem?_eq_some_iff.mp hk).1
    have h1 := HN.out.1
    have h2 := HN.out.2.1
    rw [hoth k (by omega) (by omega)]
    exact hkeep1.out k o hk
  · intro B hB
    have h1 := HN.out.1
    have h2 := HN.out.2.1
    refine (hbel1.out B hB).trans ⟨?_, ?_, ?_, by rw [hsz3]; exact Nat.le_refl _, fun k hk => hoth k (by omega) (by omega)⟩
    · show w3.os = _; rw [hw3]; exact HO2.out.os
    · show w3.tape = _; rw [hw3]; exact HO2.out.tape
    · show w3.output = _; rw [hw3]; exact HO2.out.output
  · rw [hsz3]; exact hsz1.out
set_option maxHeartbeats 1000000 in
set_option maxRecDepth 100000 in
theorem new_parser (s : ByteArray) (w : World) :
    Calls Tryz.prog 22 #[.string s] w fun e w' => ∃ (Y : Array Value) (r g : Nat), e = .returned (.pointer (some ⟨g, 0, none⟩)) ∧ Y.toList = lexZ r ∧ Y.size = 1049 ∧ r = w.heap.size + 2 ∧ g = w.heap.size + 3 ∧ w'.heap[r]? = some (.cells #[.string s, .int .i64 0, .int .i64 (-1)] 129 (0, 0)) ∧ w'.heap[g]? = some (.cells Y 97 (0, 0)) ∧
      (∀ (k : Nat) (o : Obj), w.heap[k]? = some o → w'.heap[k]? = some o) ∧ (∀ B, B ≤ w.heap.size → Below B w w') := by
  go_enter Tryz.func22, Tryz.ntmps22
  go_wp2_with fail
  refine (new_lexer s w).mono ?_
  rintro e w1 ⟨Y, r, rfl, hY, hYs, h1, hr, hR, hk, hB, hsz⟩
  have hbuild : ∀ W, Sem.run Tryz.prog (Instr.build 97 #[(0, .agg Y)]) W = .ok (.agg Y) W := fun W => run_build W 97 #[(0, .agg Y)] Y (built97 Y hYs)
  have HH := Lib.hid (And.intro hY (And.intro hYs (And.intro h1 (And.intro hr (And.intro hR (And.intro hk (And.intro hB hsz)))))))
  clear hY hYs h1 hr hR hk hB hsz
  rename_i K1 hK1 K hK
  refine hK _ _ ?_
  refine step_value rfl (exec_build1 rfl rfl (hbuild _)) ?_
  refine step_value rfl (exec_box rfl rfl) ?_
  go_wp2_with fail
  go_ret
  obtain ⟨hY, hYs, h1, hr, hR, hk, hB, hsz⟩ := HH.out
  refine ⟨Y, r, w.heap.size + 3, by rw [← hsz]; rfl, hY, hYs, hr, rfl, alloc_kept _ _ _ _ hR, ?_, fun k o h => alloc_kept _ _ _ _ (hk k o h), fun B hBw => (hB B hBw).trans (alloc_below B w1 _ (by omega))⟩
  rw [← hsz]; exact alloc_new _ _
end Go.Proofs.YthplmbgdcfmkgaaGreatDoor
/- A new lexer's state. -/
namespace Go.Proofs.YthplmbgdcfmkgaaGreatDoor
open Go.RowKit

theorem lexZ_get (r i : Nat) (hi : i < 1048) : (lexZ r)[i]? = ((initZ Tryz.zeroCells92 (.iface 119 (.pointer (some ⟨r, 0, none⟩)))).setIfInBounds 1041 (.int .u64 28))[i]? := by
  have h1 : Tryz.zeroCells92.size = 1048 := by rw [← Array.length_toList]; exact z92_len
  unfold lexZ
  rw [List.getElem?_append_left (by rw [Array.length_toList, Array.size_setIfInBounds, initZ_size, h1]; exact hi), Array.getElem?_toList]
theorem iz0 (A : Array Value) (h : A.size = 1048) (V : Value) : ((initZ A V).setIfInBounds 1041 (.int .u64 28))[0]? = some (V) := by
  unfold initZ
  repeat rw [Array.getElem?_setIfInBounds_ne (by decide)]
  exact Array.getElem?_setIfInBounds_self_of_lt (by simp only [Array.size_setIfInBounds, h]; decide)
theorem iz1 (A : Array Value) (h : A.size = 1048) (V : Value) : ((initZ A V).setIfInBounds 1041 (.int .u64 28))[1]? = some (.int .u8 128) := by
  unfold initZ
  repeat rw [Array.getElem?_setIfInBounds_ne (by decide)]
  exact Array.getElem?_setIfInBounds_self_of_lt (by simp only [Array.size_setIfInBounds, h]; decide)
theorem iz1026 (A : Array Value) (h : A.size = 1048) (V : Value) : ((initZ A V).setIfInBounds 1041 (.int .u64 28))[1026]? = some (.int .i64 0) := by
  unfold initZ
  repeat rw [Array.getElem?_setIfInBounds_ne (by decide)]
  exact Array.getElem?_setIfInBounds_self_of_lt (by simp only [Array.size_setIfInBounds, h]; decide)
theorem iz1027 (A : Array Value) (h : A.size = 1048) (V : Value) : ((initZ A V).setIfInBounds 1041 (.int .u64 28))[1027]? = some (.int .i64 0) := by
  unfold initZ
  repeat rw [Array.getElem?_setIfInBounds_ne (by decide)]
  exact Array.getElem?_setIfInBounds_self_of_lt (by simp only [Array.size_setIfInBounds, h]; decide)
theorem iz1028 (A : Array Value) (h : A.size = 1048) (V : Value) : ((initZ A V).setIfInBounds 1041 (.int .u64 28))[1028]? = some (.int .i64 0) := by
  unfold initZ
  repeat rw [Array.getElem?_setIfInBounds_ne (by decide)]
  exact Array.getElem?_setIfInBounds_self_of_lt (by simp only [Array.size_setIfInBounds, h]; decide)
theorem iz1029 (A : Array Value) (h : A.size = 1048) (V : Value) : ((initZ A V).setIfInBounds 1041 (.int .u64 28))[1029]? = some (.int .i64 1) := by
  unfold initZ
  repeat rw [Array.getElem?_setIfInBounds_ne (by decide)]
  exact Array.getElem?_setIfInBounds_self_of_lt (by simp only [Array.size_setIfInBounds, h]; decide)
theorem iz1030 (A : Array Value) (h : A.size = 1048) (V : Value) : ((initZ A V).setIfInBounds 1041 (.int .u64 28))[1030]? = some (.int .i64 0) := by
  unfold initZ
  repeat rw [Array.getElem?_setIfInBounds_ne (by decide)]
  exact Array.getElem?_setIfInBounds_self_of_lt (by simp only [Array.size_setIfInBounds, h]; decide)
theorem iz1031 (A : Array Value) (h : A.size = 1048) (V : Value) : ((initZ A V).setIfInBounds 1041 (.int .u64 28))[1031]? = some (.int .i64 0) := by
  unfold initZ
  repeat rw [Array.getElem?_setIfInBounds_ne (by decide)]
  exact Array.getElem?_setIfInBounds_self_of_lt (by simp only [Array.size_setIfInBounds, h]; decide)
theorem iz1032 (A : Array Value) (h : A.size = 1048) (V : Value) : ((initZ A V).setIfInBounds 1041 (.int .u64 28))[1032]? = some (.int .i64 0) := by
  unfold initZ
  repeat rw [Array.getElem?_setIfInBounds_ne (by decide)]
  exact Array.getElem?_setIfInBounds_self_of_lt (by simp only [Array.size_setIfInBounds, h]; decide)
theorem iz1036 (A : Array Value) (h : A.size = 1048) (V : Value) : ((initZ A V).setIfInBounds 1041 (.int .u64 28))[1036]? = some (.int .i64 (-1)) := by
  unfold initZ
  repeat rw [Array.getElem?_setIfInBounds_ne (by decide)]
  exact Array.getElem?_setIfInBounds_self_of_lt (by simp only [Array.size_setIfInBounds, h]; decide)
theorem iz1038 (A : Array Value) (h : A.size = 1048) (V : Value) : ((initZ A V).setIfInBounds 1041 (.int .u64 28))[1038]? = some (.int .i32 (-2)) := by
  unfold initZ
  repeat rw [Array.getElem?_setIfInBounds_ne (by decide)]
  exact Array.getElem?_setIfInBounds_self_of_lt (by simp only [Array.size_setIfInBounds, h]; decide)
theorem iz1039 (A : Array Value) (h : A.size = 1048) (V : Value) : ((initZ A V).setIfInBounds 1041 (.int .u64 28))[1039]? = some (.nilFunc) := by
  unfold initZ
  repeat rw [Array.getElem?_setIfInBounds_ne (by decide)]
  exact Array.getElem?_setIfInBounds_self_of_lt (by simp only [Array.size_setIfInBounds, h]; decide)
theorem iz1040 (A : Array Value) (h : A.size = 1048) (V : Value) : ((initZ A V).setIfInBounds 1041 (.int .u64 28))[1040]? = some (.int .i64 0) := by
  unfold initZ
  repeat rw [Array.getElem?_setIfInBounds_ne (by decide)]
  exact Array.getElem?_setIfInBounds_self_of_lt (by simp only [Array.size_setIfInBounds, h]; decide)
theorem iz1042 (A : Array Value) (h : A.size = 1048) (V : Value) : ((initZ A V).setIfInBounds 1041 (.int .u64 28))[1042]? = some (.int .u64 4294977024) := by
  unfold initZ
  repeat rw [Array.getElem?_setIfInBounds_ne (by decide)]
  exact Array.getElem?_setIfInBounds_self_of_lt (by simp only [Array.size_setIfInBounds, h]; decide)
theorem iz1046 (A : Array Value) (h : A.size = 1048) (V : Value) : ((initZ A V).setIfInBounds 1041 (.int .u64 28))[1046]? = some (.int .i64 0) := by
  unfold initZ
  repeat rw [Array.getElem?_setIfInBounds_ne (by decide)]
  exact Array.getElem?_setIfInBounds_self_of_lt (by simp only [Array.size_setIfInBounds, h]; decide)
theorem iz1041 (A : Array Value) (h : A.size = 1048) (V : Value) : ((initZ A V).setIfInBounds 1041 (.int .u64 28))[1041]? = some (.int .u64 28) :=
  Array.getElem?_setIfInBounds_self_of_lt (by rw [initZ_size, h]; decide)
theorem izo (A : Array Value) (V : Value) (i : Nat) (hi : (1 < i ∧ i < 1026) ∨ (1032 < i ∧ i < 1036) ∨ i = 1037 ∨ (1042 < i ∧ i < 1046) ∨ i = 1047) : ((initZ A V).setIfInBounds 1041 (.int .u64 28))[i]? = A[i]? := by
  unfold initZ
  rw [Array.getElem?_setIfInBounds_ne (by omega)]
  iterate 16 rw [Array.getElem?_setIfInBounds_ne (by omega)]
def isZ8' (v : Value) : Bool := match v with | .int .u8 0 => true | _ => false
theorem z92_u8 : ((Tryz.zeroCells92.toList.drop 1).take 1025).all isZ8' = true := by kernel_rfl
theorem z92_buf (i : Nat) (h1 : 1 ≤ i) (h2 : i < 1026) : Tryz.zeroCells92[i]? = some (.int .u8 0) := by
  have hl : i - 1 < ((Tryz.zeroCells92.toList.drop 1).take 1025).length := by rw [List.length_take, List.length_drop, z92_len]; omega
  have h := (List.all_eq_true.mp z92_u8) _ (List.getElem_mem hl)
  rw [List.getElem_take, List.getElem_drop] at h
  rw [← Array.getElem?_toList, List.getElem?_eq_getElem (by rw [z92_len]; omega)]
  have e : 1 + (i - 1) = i := by omega
  simp only [e] at h
  revert h
  generalize Tryz.zeroCells92.toList[i]'(by rw [z92_len]; omega) = v
  intro h
  unfold isZ8' at h
  split at h
  · rfl
  · cases h
theorem z33 : Tryz.zeroCells92.toList[1033]? = some (.slice none 0 0) := by kernel_rfl
theorem z34 : Tryz.zeroCells92.toList[1034]? = some (.int .i64 0) := by kernel_rfl
theorem z35 : Tryz.zeroCells92.toList[1035]? = some (.int .i8 0) := by kernel_rfl
theorem z37 : Tryz.zeroCells92.toList[1037]? = some (.int .i64 0) := by kernel_rfl
theorem z43 : Tryz.zeroCells92.toList[1043]? = some .nilFunc := by kernel_rfl
theorem z45 : Tryz.zeroCells92.toList[1045]? = some (.int .i64 0) := by kernel_rfl
theorem z47 : Tryz.zeroCells92.toList[1047]? = some (.int .i64 0) := by kernel_rfl
theorem z48 : Tryz.zeroCells94.toList[1048]? = some (.string ⟨#[]⟩) := by kernel_rfl

set_option maxRecDepth 100000 in
theorem lex_start (B g r : Nat) (s : ByteArray) (Y : Array Value) (w : World) (hY : Y.toList = lexZ r) (hg : w.heap[g]? = some (.cells Y 97 (0, 0))) (hr : w.heap[r]? = some (.cells #[.string s, .int .i64 0, .int .i64 (-1)] 129 (0, 0)))
    (hB : B ≤ g) (hne : r ≠ g) (hy : Sky B r w) : LexS B g r s 0 w := by
  have hA : Tryz.zeroCells92.size = 1048 := by rw [← Array.length_toList]; exact z92_len
  have hc : ∀ i, i < 1048 → w.cell? ⟨g, i, none⟩ = ((initZ Tryz.zeroCells92 (.iface 119 (.pointer (some ⟨r, 0, none⟩)))).setIfInBounds 1041 (.int .u64 28))[i]? := fun i hi => by
    rw [Lib.cell_of_heap hg, ← Array.getElem?_toList, hY, lexZ_get r i hi]
  have ho : ∀ i, (1 < i ∧ i < 1026) ∨ (1032 < i ∧ i < 1036) ∨ i = 1037 ∨ (1042 < i ∧ i < 1046) ∨ i = 1047 → w.cell? ⟨g, i, none⟩ = Tryz.zeroCells92[i]? := fun i hi => (hc i (by omega)).trans (izo _ _ i hi)
  have hcr : ∀ i, w.cell? ⟨r, i, none⟩ = (#[.string s, .int .i64 0, .int .i64 (-1)] : Array Value)[i]? := fun i => Lib.cell_of_heap hr i
  have hb : ∀ j, j < 1025 → ∃ z : Nat, z < 256 ∧ w.cell? ⟨g, 1 + j, none⟩ = some (.int .u8 z) := fun j hj => by
    by_cases h0 : j = 0
    · subst h0; exact ⟨128, by omega, (hc 1 (by omega)).trans (iz1 _ hA _)⟩
    · exact ⟨0, by omega, (ho (1 + j) (by omega)).trans (z92_buf _ (by omega) (by omega))⟩
  have hS : Scn B g r s 0 0 0 (-1) [] 0 w := by
    refine ⟨Nat.le_refl _, by omega, by omega, by omega, by omega, ⟨Y, hg⟩, hB, hne, (hc 0 (by omega)).trans (iz0 _ hA _), fun j hj => by omega, hb, (hc 1 (by omega)).trans (iz1 _ hA _), (hc _ (by omega)).trans (iz1026 _ hA _), (hc _ (by omega)).trans (iz1027 _ hA _), (hc _ (by omega)).trans (iz1028 _ hA _),
      ⟨_, (hc _ (by omega)).trans (iz1029 _ hA _)⟩, ⟨_, (hc _ (by omega)).trans (iz1030 _ hA _)⟩, ⟨_, (hc _ (by omega)).trans (iz1031 _ hA _)⟩, (hc _ (by omega)).trans (iz1032 _ hA _), ?_, (hc _ (by omega)).trans (iz1036 _ hA _), (hcr 0).trans rfl, (hcr 1).trans rfl, ⟨-1, (hcr 2).trans rfl⟩, fun p => Lib.frozen_of_heap hr p, ⟨_, hr⟩⟩
    refine ⟨.slice none 0 0, 0, ?_, ?_, ?_, ⟨rfl, Or.inl ⟨rfl, rfl⟩⟩, by simp [Value.ownBlock]⟩
    · rw [ho 1033 (by omega), ← Array.getElem?_toList]; exact z33
    · rw [ho 1034 (by omega), ← Array.getElem?_toList]; exact z34
    · rw [ho 1035 (by omega), ← Array.getElem?_toList]; exact z35
  have t37 : w.cell? ⟨g, 1037, none⟩ = some (.int .i64 0) := by rw [ho 1037 (by omega), ← Array.getElem?_toList]; exact z37
  have t43 : w.cell? ⟨g, 1043, none⟩ = some .nilFunc := by rw [ho 1043 (by omega), ← Array.getElem?_toList]; exact z43
  have t45 : w.cell? ⟨g, 1045, none⟩ = some (.int .i64 0) := by rw [ho 1045 (by omega), ← Array.getElem?_toList]; exact z45
  have t47 : w.cell? ⟨g, 1047, none⟩ = some (.int .i64 0) := by rw [ho 1047 (by omega), ← Array.getElem?_toList]; exact z47
  have c38 : w.cell? ⟨g, 1038, none⟩ = some (.int .i32 (-2)) := (hc _ (by omega)).trans (iz1038 _ hA _)
  refine ⟨Or.inl ⟨rfl, ⟨0, 0, 0, -1, [], hS, rfl, by omega, by omega, by simp, rfl⟩, c38⟩, hy, ⟨⟨_, t37⟩, ⟨_, c38⟩, ⟨_, t45⟩, ⟨_, (hc _ (by omega)).trans (iz1046 _ hA _)⟩, ⟨_, t47⟩⟩, ⟨_, (hc _ (by omega)).trans (iz1039 _ hA _)⟩, (hc _ (by omega)).trans (iz1041 _ hA _), (hc _ (by omega)).trans (iz1042 _ hA _), t43, ?_⟩
  rw [Lib.cell_of_heap hg, ← Array.getElem?_toList, hY]
  unfold lexZ
  rw [List.getElem?_append_right (by rw [Array.length_toList, Array.size_setIfInBounds, initZ_size, hA]; omega), List.getElem?_drop, Array.length_toList, Array.size_setIfInBounds, initZ_size, hA]
  exact z48
end Go.Proofs.YthplmbgdcfmkgaaGreatDoor
