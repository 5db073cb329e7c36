/- pRead. -/
import Derived.Test.YthplmbgdcfmkgaaGreatDoorA29
set_option linter.unusedVariables false
set_option linter.unusedSimpArgs false
/- pRead, the walk. -/
namespace Go.Proofs.YthplmbgdcfmkgaaGreatDoor
open Go.RowKit Go.Proofs Go.Sort

set_option maxHeartbeats 4000000 in
set_option maxRecDepth 100000 in
theorem pread_ok {T F B} (s : ByteArray) (d : Int) (w : World) (ht : Sta B T F w) (hB : B ≤ w.heap.size) :
    Calls Tryz.prog 4 #[.int .i64 2, .string s, .int .i64 d, .func (.func 5) #[] #[]] w fun e w' => e = .returned (.bool true) ∧ Below w.heap.size w w' := by
  have HT := Lib.hid ht
  have HB := Lib.hid hB
  clear ht hB
  go_enter Tryz.func4, Tryz.ntmps4
  go_wp2_with fail
  refine (ptokens_ok s _).mono ?_
  rintro e w1 ⟨hB1, rfl | ⟨l, v, hs, hcut, hno, rfl, hrow⟩⟩
  · have HB1 := Lib.hid hB1
    clear hB1
    go_wp2_with fail
    go_ret
    exact ⟨rfl, HB1.out⟩
  · have HB1 := Lib.hid hB1
    have HC := Lib.hid hcut
    have HN := Lib.hid hno
    have HR := Lib.hid hrow
    have HS := Lib.hid hs
    clear hB1 hcut hno hrow hs
    by_cases hd0 : d < 0
    · go_wp2_with fail
      go_ret
      exact ⟨rfl, HB1.out⟩
    · by_cases hd3 : 3 < d
      · go_wp2_with fail
        go_ret
        exact ⟨rfl, HB1.out⟩
      · obtain ⟨c, rfl⟩ : ∃ c : Nat, d = (c : Int) := ⟨d.toNat, by omega⟩
        have hc : c < 4 := by omega
        have htk := cut_tk (by have := HS.out; omega) HC.out
        have hlen : l.length ≤ 2000 := by
          have := cut_len _ _ _ _ (Nat.le_refl _) HC.out
          have h2 : s.data.toList.length = s.size := by simp
          have := HS.out
          omega
        have hpb := fun W (hW : W.ownsRow w.heap.size 9 1 v l.length (strs (txs l))) => pbody_ok (txs l) v w.heap.size W (by rw [txs, List.length_map]; exact hW) (by rw [txs, List.length_map]; omega) (fun t ht => by
          obtain ⟨p, hp, rfl⟩ := List.mem_map.mp ht
          exact (htk p hp).wk.size)
        have HPB := Lib.hid hpb
        have HTK := Lib.hid htk
        clear hpb htk
        go_wp2_with fail
        refine (HPB.out _ HR.out).mono ?_
        rintro e wx ⟨rfl, hwx⟩
        obtain rfl := hwx.symm
        obtain ⟨u, hu⟩ : ∃ u, u = (pbA (txs l)).1 := ⟨_, rfl⟩
        obtain ⟨b, hb⟩ : ∃ b, b = (pbA (txs l)).2 := ⟨_, rfl⟩
        rw [← hu, ← hb]
        have Hu := Lib.hid hu
        have Hb := Lib.hid hb
        clear hu hb
        have HTX : Hid (Txt s (txs l)) := txt_of (by have := HS.out; omega) HC.out HN.out
        obtain ⟨b0, hb0⟩ : ∃ b, b = w1.heap.size := ⟨_, rfl⟩
        obtain ⟨wa, hwa⟩ : ∃ wa, wa = w1.alloc (Obj.cells #[.int .i64 0, .int .i64 0, .slice none 0 0, .slice none 0 0] 33) := ⟨_, rfl⟩
        have hG0 : Hid (wa.heap[b0]? = some (.cells geom0 33 (0, 0))) := by rw [Hid, hwa, hb0]; exact alloc_new _ _
        have hBa : Hid (Below w.heap.size w wa) := by rw [Hid, hwa]; exact HB1.out.trans (alloc_below _ _ _ HB1.out.size)
        have hl0 : w.heap.size ≤ b0 := by rw [hb0]; exact HB1.out.size
        have Hwa := Lib.hid hwa
        have Hb0 := Lib.hid hb0
        clear hwa hb0
        cases b with
        | false =>
          go_wp2_with fail
          rw [← Hwa.out, ← Hb0.out]
          refine (read_line c hc HTX.out (HT.out.below (hBa.out.mono HB.out)) (Nat.le_trans HB.out hBa.out.size)).mono ?_
          rintro e w2 ⟨hB2, ⟨xs, ao, cap, hbody, _⟩ | ⟨_, rfl⟩⟩
          · exact absurd ⟨xs, hbody⟩ (no_body Hb.out.symm)
          · have HB2 : Hid (Below w.heap.size w w2) := hBa.out.trans (hB2.mono hBa.out.size)
            clear hB2
            rw [show geom0 = #[.int .i64 0, .int .i64 0, .slice none 0 0, .slice none 0 0] from rfl]
            go_wp2_with fail
            go_ret
            exact ⟨rfl, HB2.out.trans (alloc_below _ _ _ HB2.out.size)⟩
        | true =>
          obtain ⟨p, hpb, hup⟩ := pbA_some Hb.out.symm
          obtain ⟨P, hP⟩ := bdy_of hpb
          have hus : u.size ≤ 4000 := by
            rw [Hu.out, hup]
            have h1 := hP.sz
            have h2 := cut_cat_size _ _ _ _ (Nat.le_refl _) HC.out
            have h3 : s.data.toList.length = s.size := by simp
            have := HS.out
            omega
          have HPb := Lib.hid hpb
          have HP := Lib.hid hP
          have hself : Hid (∀ q ∈ P, SelfT q) := fun q hq => cut_self _ _ _ _ (Nat.le_refl _) HC.out q (hP.mem q hq)
          have hwk : Hid (∀ q ∈ P, WK q) := fun q hq => (HTK.out q (hP.mem q hq)).wk
          have hcat : Hid (cut (lineS ++ tagS c ++ ⟨#[32]⟩ ++ u).data.toList false = some ((97, lineS) :: (tagT c ++ P))) := wkt_cut c hc P hself.out u (by rw [Hu.out, hup, hP.tx])
          obtain ⟨kn, hkn⟩ : ∃ kn, kn = lineS := ⟨_, rfl⟩
          obtain ⟨tg, htg⟩ : ∃ tg, tg = tagS c := ⟨_, rfl⟩
          have hks : kn.size = 10 := by rw [hkn]; rfl
          have hts : tg.size ≤ 4 := by
            rw [htg]
            have h4 : c = 0 ∨ c = 1 ∨ c = 2 ∨ c = 3 := by omega
            rcases h4 with rfl | rfl | rfl | rfl <;> decide
          have cK := fun W : World => pKind_ok W
          have cX := fun W : World => xTag_ok c hc W
          have hcat2 : Hid (cut (kn ++ tg ++ ⟨#[32]⟩ ++ u).data.toList false = some ((97, lineS) :: (tagT c ++ P))) := by rw [Hid, hkn, htg]; exact hcat.out
          rw [← hkn] at cK
          rw [← htg] at cX
          have CK := Lib.hid cK
          have CX := Lib.hid cX
          have hz1 : (kn ++ tg).size = kn.size + tg.size := ByteArray.size_append
          have hz2 : (kn ++ tg ++ ⟨#[32]⟩).size = kn.size + tg.size + 1 := by rw [ByteArray.size_append, hz1]; rfl
          have hz3 : Hid ((kn ++ tg ++ ⟨#[32]⟩ ++ u).size ≤ 100000) := by rw [Hid, ByteArray.size_append, hz2]; omega
          clear hpb hup hP cK cX hkn htg
          go_wp2_with fail
          rw [← Hwa.out, ← Hb0.out]
          refine (CK.out _).mono ?_
          rintro e wx ⟨rfl, hwx⟩
          obtain rfl := hwx.symm
          go_wp2_with fail
          refine (CX.out _).mono ?_
          rintro e w2 ⟨rfl, hB2⟩
          have hG2 : Hid (w2.heap[b0]? = some (.cells geom0 33 (0, 0))) := by rw [Hid, hB2.block b0 (Lib.lt_of_heap hG0.out)]; exact hG0.out
          have HB2 : Hid (Below w.heap.size w w2) := hBa.out.trans (hB2.mono hBa.out.size)
          clear hB2
          go_wp2_with fail
          refine (wkt_ok (T := T) (F := F) (B := B) _ c hc P w2 hcat2.out hz3.out hwk.out HP.out.hd ((HT.out.below (HB2.out.mono HB.out)).tb) (Nat.le_trans HB.out HB2.out.size)).mono ?_
          rintro e w3 ⟨hB3, ⟨xs, ao, cap, hbody, hl, rfl, hrow⟩ | ⟨hnb, rfl⟩⟩
          · have hG3 : Hid (w3.heap[b0]? = some (.cells geom0 33 (0, 0))) := by rw [Hid, hB3.block b0 (Lib.lt_of_heap hG2.out)]; exact hG2.out
            have HB3 : Hid (Below w.heap.size w w3) := HB2.out.trans (hB3.mono HB2.out.size)
            have l0 : w3.cell? ⟨b0, 0, none⟩ = some (.int .i64 0) := by rw [Lib.cell_of_heap hG3.out]; rfl
            have l1 : w3.cell? ⟨b0, 1, none⟩ = some (.int .i64 0) := by rw [Lib.cell_of_heap hG3.out]; rfl
            have l2 : w3.cell? ⟨b0, 2, none⟩ = some (.slice none 0 0) := by rw [Lib.cell_of_heap hG3.out]; rfl
            have l3 : w3.cell? ⟨b0, 3, none⟩ = some (.slice none 0 0) := by rw [Lib.cell_of_heap hG3.out]; rfl
            have lf0 := Lib.frozen_of_heap hG3.out 0
            have lf1 := Lib.frozen_of_heap hG3.out 1
            have lf2 := Lib.frozen_of_heap hG3.out 2
            have lf3 := Lib.frozen_of_heap hG3.out 3
            obtain ⟨nz, hnz⟩ : ∃ n, n = xs.length := ⟨_, rfl⟩
            have HRow : Hid (w3.ownsRow w.heap.size 75 1 (.slice ao nz cap) nz (flts xs)) := by rw [Hid, hnz]; exact row_mono hrow HB2.out.size
            rw [← hnz] at hl ⊢
            have Hnz := Lib.hid hnz
            rw [HP.out.tx] at hbody
            have HBody := Lib.hid hbody
            clear hB3 hrow hbody hnz
            go_wp2_with fail
            have y0 := Lib.heap_setCell_same (i := 0) hG3.out (.int .i64 2)
            have y1 := Lib.heap_setCell_same (i := 1) y0 (.int .i64 (c : Int))
            have y2 := Lib.heap_setCell_same (i := 2) y1 (.slice ao nz cap)
            have y3 := Lib.heap_setCell_same (i := 3) y2 (.slice none 0 0)
            have x0 := HB3.out.setCell (p := ⟨b0, 0, none⟩) hl0 (.int .i64 2)
            have x1 := x0.setCell (p := ⟨b0, 1, none⟩) hl0 (.int .i64 (c : Int))
            have x2 := x1.setCell (p := ⟨b0, 2, none⟩) hl0 (.slice ao nz cap)
            have x3 := x2.setCell (p := ⟨b0, 3, none⟩) hl0 (.slice none 0 0)
            have r0 := row_set (i := 0) HRow.out hG3.out (by decide) (.int .i64 2)
            have r1 := row_set (i := 1) r0 y0 (by decide) (.int .i64 (c : Int))
            have r2 := row_set (i := 2) r1 y1 (by decide) (.slice ao nz cap)
            have r3 := row_set (i := 3) r2 y2 (by decide) (.slice none 0 0)
            obtain ⟨w5, hw5⟩ : ∃ w5, w5 = ((((w3.setCell ⟨b0, 0, none⟩ (.int .i64 2)).setCell ⟨b0, 1, none⟩ (.int .i64 (c : Int))).setCell ⟨b0, 2, none⟩ (.slice ao nz cap)).setCell ⟨b0, 3, none⟩ (.slice none 0 0)) := ⟨_, rfl⟩
            have F0 : Hid (w5.heap[b0]? = some (.cells (gcells c (.slice ao nz cap)) 33 (0, 0))) := by rw [Hid, hw5]; exact y3
            have FB : Hid (Below w.heap.size w w5) := by rw [Hid, hw5]; exact x3
            have FR : Hid (w5.ownsRow w.heap.size 75 1 (.slice ao nz cap) nz (flts xs)) := by rw [Hid, hw5]; exact r3
            rw [← hw5]
            clear hw5 y0 y1 y2 y3 x0 x1 x2 x3 r0 r1 r2 r3 l0 l1 l2 l3 lf0 lf1 lf2 lf3
            refine (read_line c hc HTX.out (HT.out.below (FB.out.mono HB.out)) (Nat.le_trans HB.out FB.out.size)).mono ?_
            rintro e w6 ⟨hB6, ⟨zs, ao6, cap6, hbody6, rfl, hrow6⟩ | ⟨hnb, rfl⟩⟩
            · obtain rfl : zs = xs := agree_one HPb.out hbody6 HBody.out
              rw [← Hnz.out] at hrow6 ⊢
              have F6 : Hid (w6.heap[b0]? = some (.cells (gcells c (.slice ao nz cap)) 33 (0, 0))) := by rw [Hid, hB6.block b0 (Lib.lt_of_heap F0.out)]; exact F0.out
              have FB6 : Hid (Below w.heap.size w w6) := FB.out.trans (hB6.mono FB.out.size)
              have FR6 : Hid (w6.ownsRow w.heap.size 75 1 (.slice ao nz cap) nz (flts zs)) := row_blw FR.out hB6
              obtain ⟨b1, hb1⟩ : ∃ b, b = w6.heap.size := ⟨_, rfl⟩
              obtain ⟨w7, hw7⟩ : ∃ w7, w7 = w6.alloc (Obj.cells #[.int .i64 2, .int .i64 (c : Int), .slice ao6 nz cap6, .slice none 0 0] 33) := ⟨_, rfl⟩
              have F7 : Hid (w7.heap[b0]? = some (.cells (gcells c (.slice ao nz cap)) 33 (0, 0))) := by rw [Hid, hw7]; exact alloc_kept _ _ _ _ F6.out
              have E7 : Hid (w7.heap[b1]? = some (.cells (gcells c (.slice ao6 nz cap6)) 33 (0, 0))) := by rw [Hid, hw7, hb1]; exact alloc_new _ _
              have FB7 : Hid (Below w.heap.size w w7) := by rw [Hid, hw7]; exact FB6.out.trans (alloc_below _ _ _ FB6.out.size)
              have FR7 : Hid (w7.ownsRow w.heap.size 75 1 (.slice ao nz cap) nz (flts zs)) := by rw [Hid, hw7]; exact FR6.out.alloc _
              have ER7 : Hid (w7.ownsRow w5.heap.size 75 1 (.slice ao6 nz cap6) nz (flts zs)) := by rw [Hid, hw7]; exact hrow6.alloc _
              have m0 : w7.cell? ⟨b0, 0, none⟩ = some (.int .i64 2) := by rw [Lib.cell_of_heap F7.out]; rfl
              have m1 : w7.cell? ⟨b0, 1, none⟩ = some (.int .i64 (c : Int)) := by rw [Lib.cell_of_heap F7.out]; rfl
              have m2 : w7.cell? ⟨b0, 2, none⟩ = some (.slice ao nz cap) := by rw [Lib.cell_of_heap F7.out]; rfl
              have m3 : w7.cell? ⟨b0, 3, none⟩ = some (.slice none 0 0) := by rw [Lib.cell_of_heap F7.out]; rfl
              have n0 : w7.cell? ⟨b1, 0, none⟩ = some (.int .i64 2) := by rw [Lib.cell_of_heap E7.out]; rfl
              have n1 : w7.cell? ⟨b1, 1, none⟩ = some (.int .i64 (c : Int)) := by rw [Lib.cell_of_heap E7.out]; rfl
              have n2 : w7.cell? ⟨b1, 2, none⟩ = some (.slice ao6 nz cap6) := by rw [Lib.cell_of_heap E7.out]; rfl
              have n3 : w7.cell? ⟨b1, 3, none⟩ = some (.slice none 0 0) := by rw [Lib.cell_of_heap E7.out]; rfl
              have Hw7 := Lib.hid hw7
              have Hb1 := Lib.hid hb1
              clear hB6 hrow6 hbody6 hw7 hb1
              go_upto_region 9 with fail
              rw [← Hw7.out, ← Hb1.out]
              go_wp2_with fail
              refine (same_geom c zs ao6 ao nz cap6 cap w5.heap.size w.heap.size w7 Hnz.out.symm hl ER7.out FR7.out).mono ?_
              rintro e w8 ⟨rfl, hB8⟩
              have FB8 : Hid (Below w.heap.size w w8) := FB7.out.trans (hB8.mono FB7.out.size)
              clear hB8
              go_wp2_with fail
              go_ret
              exact ⟨rfl, FB8.out⟩
            · exact absurd ((agree HPb.out).mpr ⟨xs, HBody.out⟩) hnb
          · have hG3 : Hid (w3.heap[b0]? = some (.cells geom0 33 (0, 0))) := by rw [Hid, hB3.block b0 (Lib.lt_of_heap hG2.out)]; exact hG2.out
            have HB3 : Hid (Below w.heap.size w w3) := HB2.out.trans (hB3.mono HB2.out.size)
            have l0 : w3.cell? ⟨b0, 0, none⟩ = some (.int .i64 0) := by rw [Lib.cell_of_heap hG3.out]; rfl
            have l1 : w3.cell? ⟨b0, 1, none⟩ = some (.int .i64 0) := by rw [Lib.cell_of_heap hG3.out]; rfl
            have l2 : w3.cell? ⟨b0, 2, none⟩ = some (.slice none 0 0) := by rw [Lib.cell_of_heap hG3.out]; rfl
            have l3 : w3.cell? ⟨b0, 3, none⟩ = some (.slice none 0 0) := by rw [Lib.cell_of_heap hG3.out]; rfl
            have lf0 := Lib.frozen_of_heap hG3.out 0
            have lf1 := Lib.frozen_of_heap hG3.out 1
            have lf2 := Lib.frozen_of_heap hG3.out 2
            have lf3 := Lib.frozen_of_heap hG3.out 3
            rw [HP.out.tx] at hnb
            have HNb := Lib.hid hnb
            clear hB3 hnb
            rw [show geom0 = #[.int .i64 0, .int .i64 0, .slice none 0 0, .slice none 0 0] from rfl]
            go_wp2_with fail
            have y0 := Lib.heap_setCell_same (i := 0) hG3.out (.int .i64 0)
            have y1 := Lib.heap_setCell_same (i := 1) y0 (.int .i64 0)
            have y2 := Lib.heap_setCell_same (i := 2) y1 (.slice none 0 0)
            have y3 := Lib.heap_setCell_same (i := 3) y2 (.slice none 0 0)
            have x0 := HB3.out.setCell (p := ⟨b0, 0, none⟩) hl0 (.int .i64 0)
            have x1 := x0.setCell (p := ⟨b0, 1, none⟩) hl0 (.int .i64 0)
            have x2 := x1.setCell (p := ⟨b0, 2, none⟩) hl0 (.slice none 0 0)
            have x3 := x2.setCell (p := ⟨b0, 3, none⟩) hl0 (.slice none 0 0)
            obtain ⟨w5, hw5⟩ : ∃ w5, w5 = ((((w3.setCell ⟨b0, 0, none⟩ (.int .i64 0)).setCell ⟨b0, 1, none⟩ (.int .i64 0)).setCell ⟨b0, 2, none⟩ (.slice none 0 0)).setCell ⟨b0, 3, none⟩ (.slice none 0 0)) := ⟨_, rfl⟩
            have FB : Hid (Below w.heap.size w w5) := by rw [Hid, hw5]; exact x3
            rw [← hw5]
            clear hw5 y0 y1 y2 y3 x0 x1 x2 x3 l0 l1 l2 l3 lf0 lf1 lf2 lf3
            refine (read_line c hc HTX.out (HT.out.below (FB.out.mono HB.out)) (Nat.le_trans HB.out FB.out.size)).mono ?_
            rintro e w6 ⟨hB6, ⟨zs, ao6, cap6, hbody6, _⟩ | ⟨_, rfl⟩⟩
            · exact absurd ((agree HPb.out).mp ⟨zs, hbody6⟩) HNb.out
            · have FB6 : Hid (Below w.heap.size w w6) := FB.out.trans (hB6.mono FB.out.size)
              clear hB6
              rw [show geom0 = #[.int .i64 0, .int .i64 0, .slice none 0 0, .slice none 0 0] from rfl]
              go_wp2_with fail
              go_ret
              exact ⟨rfl, FB6.out.trans (alloc_below _ _ _ FB6.out.size)⟩
end Go.Proofs.YthplmbgdcfmkgaaGreatDoor
