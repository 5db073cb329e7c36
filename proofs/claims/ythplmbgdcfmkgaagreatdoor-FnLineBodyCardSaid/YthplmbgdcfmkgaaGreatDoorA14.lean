/- The scanner: numbers. -/
import Derived.Test.YthplmbgdcfmkgaaGreatDoorA13
set_option linter.unusedVariables false
set_option linter.unusedSimpArgs false
/- The scanner's scanNumber. -/
namespace Go.Proofs.YthplmbgdcfmkgaaGreatDoor
open Go.RowKit

/-- An exponent, or none, from b to i. -/
def Expo (s : ByteArray) (b i : Nat) : Prop :=
  (low (chAt s b) ≠ 101 ∧ low (chAt s b) ≠ 112 ∧ i = b) ∨
  (low (chAt s b) = 101 ∧ b < s.size ∧ ((chAt s (b + 1) ≠ 43 ∧ chAt s (b + 1) ≠ 45 ∧ Run dig s (b + 1) i ∧ b + 1 < i) ∨ ((chAt s (b + 1) = 43 ∨ chAt s (b + 1) = 45) ∧ Run dig s (b + 2) i ∧ b + 2 < i)))
/-- Digits with a point or none from k to b; sd: the point stands ahead of k. -/
def Mant (s : ByteArray) (sd : Bool) (k b : Nat) : Prop :=
  (sd = true ∧ Run dig s k b ∧ k < b) ∨
  (sd = false ∧ ∃ a, Run dig s k a ∧ k < a ∧ (chAt s k = 48 → a = k + 1 ∧ low (chAt s (k + 1)) ≠ 120 ∧ low (chAt s (k + 1)) ≠ 111 ∧ low (chAt s (k + 1)) ≠ 98) ∧ ((chAt s a ≠ 46 ∧ b = a) ∨ (chAt s a = 46 ∧ Run dig s (a + 1) b)))

/-- The scanner's part where all objects are kept. -/
theorem Scn.kept {B g r s P E D tp C lc w w'} (h : Scn B g r s P E D tp C lc w) (hk : ∀ (k : Nat) (o : Obj), w.heap[k]? = some o → w'.heap[k]? = some o) : Scn B g r s P E D tp C lc w' := by
  obtain ⟨u, lr, h0, h1, h2, h3, h4⟩ := h.tb
  obtain ⟨cs, hc⟩ := h.rtag
  obtain ⟨cg, hcg⟩ := h.blk
  have hg : w'.heap[g]? = w.heap[g]? := by rw [hcg]; exact hk _ _ hcg
  have hr : w'.heap[r]? = w.heap[r]? := by rw [hc]; exact hk _ _ hc
  have o : ∀ i, w'.cell? ⟨g, i, none⟩ = w.cell? ⟨g, i, none⟩ := fun i => cell_of_block' hg i
  have o' : ∀ i, w'.cell? ⟨r, i, none⟩ = w.cell? ⟨r, i, none⟩ := fun i => cell_of_block' hr i
  refine ⟨h.le, h.lim, h.fit, h.lcr, h.tpr, ⟨cg, hg.trans hcg⟩, h.hB, h.ne, by rw [o]; exact h.src, fun j hj => by rw [o]; exact h.buf j hj, fun j hj => by rw [o]; exact h.all j hj, by rw [o]; exact h.sent,
    by rw [o]; exact h.cP, by rw [o]; exact h.cE, by rw [o]; exact h.cD, by rw [o]; exact h.cl, by rw [o]; exact h.cc, by rw [o]; exact h.cll, by rw [o]; exact h.clc, ⟨u, lr, by rw [o]; exact h0, by rw [o]; exact h1, by rw [o]; exact h2, ⟨h3.1, ?_⟩, h4⟩,
    by rw [o]; exact h.ctp, by rw [o']; exact h.rs, by rw [o']; exact h.ri, by rw [o']; exact h.rp, fun p => (frozen_of_block' hr p).trans (h.rfr p), ⟨cs, hr.trans hc⟩⟩
  rcases h3.2 with hn | ⟨q, cap, cur, rfl, hbq, hq, rest⟩
  · exact .inl hn
  · exact .inr ⟨q, cap, cur, rfl, hbq, hk _ _ hq, rest⟩
theorem Look.kept {B g r s k ot w w'} (h : Look B g r s k ot w) (hk : ∀ (k : Nat) (o : Obj), w.heap[k]? = some o → w'.heap[k]? = some o) (hb : Below B w w') : Look B g r s k ot w' := by
  obtain ⟨h1, h2⟩ := h
  refine ⟨?_, h2.below hb⟩
  rcases h1 with ⟨h1, P, E, D, tp, C, hS, h3⟩ | ⟨h1, tp, C, hS, h3⟩
  · exact Or.inl ⟨h1, P, E, D, tp, C, hS.kept hk, h3⟩
  · exact Or.inr ⟨h1, tp, C, hS.kept hk, h3⟩
theorem alloc_kept (w : World) (x : Obj) : ∀ (k : Nat) (o : Obj), w.heap[k]? = some o → (w.alloc x).heap[k]? = some o := by
  intro k o h
  have hlt : k < w.heap.size := (Array.getElem?_eq_some_iff.mp h).1
  show (w.heap.push x)[k]? = _
  rw [Array.getElem?_push, if_neg (Nat.ne_of_lt hlt)]
  exact h
theorem alloc_below (B : Nat) (w : World) (x : Obj) (h : B ≤ w.heap.size) : Below B w (w.alloc x) :=
  ⟨rfl, rfl, rfl, by show w.heap.size ≤ (w.heap.push x).size; rw [Array.size_push]; omega, fun k hk => by show (w.heap.push x)[k]? = _; rw [Array.getElem?_push, if_neg (by omega)]⟩
theorem alloc_new (w : World) (x : Obj) : (w.alloc x).heap[w.heap.size]? = some x := by
  show (w.heap.push x)[w.heap.size]? = _
  rw [Array.getElem?_push, if_pos rfl]
theorem DX.nx {B g r b w w' x} (h : DX B g r b (w.alloc x) w') (hb : b = w.heap.size) (hB : B ≤ w.heap.size) (hg : ∃ o, w.heap[g]? = some o) : NX B g r w w' :=
  ⟨(alloc_below B w x hB).trans h.below, fun k o h1 h2 h3 h4 => h.ko k o (alloc_kept w x k o h1) h2 h3 (by have := (Array.getElem?_eq_some_iff.mp h1).1; omega) h4,
   fun i hi => by obtain ⟨o, ho⟩ := hg; rw [h.free i hi]; exact cell_of_block' (by rw [ho]; exact alloc_kept w x g o ho) i⟩

set_option maxRecDepth 100000 in
theorem digits_none (g b : Nat) (c : Int) (w : World) (hd : dig c = false) (h : c ≠ 95) :
    Calls Tryz.prog 90 #[.pointer (some ⟨g, 0, none⟩), .int .i32 c, .int .i64 8, .pointer (some ⟨b, 0, none⟩)] w fun e w' => e = .returned (.tuple #[.int .i32 c, .int .i64 0]) ∧ w' = w := by
  have h95 : (c == 95) = false := by rw [beq_eq_false_iff_ne]; exact h
  have HC := is_decimal c w
  rw [hd] at HC
  have HCh := Lib.hid HC
  clear HC h hd
  go_enter Tryz.func90, Tryz.ntmps90
  go_wp2_with fail
  go_loopg [8, 9, 11] 1 (fun q ch ds u11 wr => ch = .int .i32 c ∧ ds = .int .i64 0 ∧ wr = w)
  case atStart => exact ⟨rfl, rfl, rfl⟩
  case round =>
    obtain ⟨rfl, rfl, hw⟩ := hrel
    obtain rfl := hw.symm
    go_wp2_with fail
    refine HCh.out.mono ?_
    rintro e w2 ⟨rfl, hw2⟩
    obtain rfl := hw2.symm
    go_wp2_with fail
    go_ret2
    exact ⟨rfl, rfl⟩

set_option maxHeartbeats 1000000 in
set_option maxRecDepth 100000 in
theorem scan_number (B g r : Nat) (s : ByteArray) (sd : Bool) (k b i : Nat) (ot : Option Nat) (w : World) (hs : Plain s) (h : Look B g r s k ot w) (hu : ∀ t, t < s.size → chAt s t ≠ 95)
    (hm : Mant s sd k b) (hx : Expo s b i) (hM : w.cell? ⟨g, 1041, none⟩ = some (.int .u64 28)) :
    Calls Tryz.prog 75 #[.pointer (some ⟨g, 0, none⟩), .int .i32 (chAt s k), .bool sd] w fun e w' => ∃ tok : Int, (tok = -3 ∨ tok = -4) ∧ e = .returned (.tuple #[.int .i32 tok, .int .i32 (chAt s i)]) ∧ Look B g r s i ot w' ∧ NX B g r w w' := by
  have HS := Lib.hid hs
  have HL := Lib.hid h
  have HU := Lib.hid hu
  have HM := Lib.hid hm
  have HX := Lib.hid hx
  clear h hs hu hm hx
  obtain ⟨c0, hc0⟩ : ∃ c, c = chAt s k := ⟨_, rfl⟩
  rw [← hc0]
  have Hc0 := Lib.hid hc0
  clear hc0
  go_enter Tryz.func75, Tryz.ntmps75
  go_upto_if 17 with fail
  obtain ⟨bI, hbI⟩ : ∃ bI, bI = w.heap.size := ⟨_, rfl⟩
  obtain ⟨wa, hwa⟩ : ∃ wa, wa = w.alloc (Obj.cells #[Value.int IntKind.i32 0] 21) := ⟨_, rfl⟩
  rw [← hwa, ← hbI]
  have hgB := HL.out.blk
  have hBw : B ≤ w.heap.size := by have := hgB.1.lt; omega
  have hLa : Hid (Look B g r s k ot wa) := by rw [hwa]; exact HL.out.kept (alloc_kept w _) (alloc_below B w _ hBw)
  have hIa : Hid (wa.heap[bI]? = some (.cells #[.int .i32 0] 21 (0, 0))) := by rw [hwa, hbI]; exact alloc_new w _
  have hMa : wa.cell? ⟨g, 1041, none⟩ = some (.int .u64 28) := by
    obtain ⟨cg, hcg⟩ := hgB.1
    rw [hwa]; exact (cell_of_block' (by rw [hcg]; exact alloc_kept w _ g _ hcg) _).trans hM
  have hBb : B ≤ bI := by rw [hbI]; exact hBw
  have hbg : bI ≠ g := by have := hgB.1.lt; omega
  have hbr : bI ≠ r := by
    rcases HL.out.at' with ⟨_, _, _, _, _, _, hS, _⟩ | ⟨_, _, _, hS, _⟩
    · obtain ⟨cs, hc⟩ := hS.rtag; have := Lib.lt_of_heap hc; omega
    · obtain ⟨cs, hc⟩ := hS.rtag; have := Lib.lt_of_heap hc; omega
  have HA := Lib.hid (And.intro hbI hwa)
  have HB := Lib.hid (And.intro hgB hBw)
  clear hbI hwa hgB hBw
  have a28 : bits .and .u64 28 16 = 16 := by decide
  have o01 : bits .or .i64 0 1 = 1 := by decide
  have o10 : bits .or .i64 1 0 = 1 := by decide
  have o11 : bits .or .i64 1 1 = 1 := by decide
  have a11 : bits .and .i64 1 1 = 1 := by decide
  have a12 : bits .and .i64 1 2 = 0 := by decide
  go_cut [1, 2, 8, 9, 10, 12, 13] from 18 to 57 (fun s1 s2 s8 s9 s10 s12 s13 wx => ∃ (j : Nat) (c base pre dg tok ds : Int) (sd' : Bool), s1 = .int .i32 c ∧ Hid (c = chAt s j) ∧ s2 = .bool sd' ∧ s8 = .int .i64 base ∧ s9 = .int .i32 pre ∧ ((base = 10 ∧ pre = 0) ∨ (base = 8 ∧ pre = 48)) ∧ s10 = .int .i64 dg ∧ s12 = .int .i32 tok ∧ s13 = .int .i64 ds ∧ Hid (Look B g r s j ot wx) ∧ Hid (DX B g r bI wa wx) ∧ Hid (Inv bI wx) ∧
    ((sd' = false ∧ Hid (j = b) ∧ dg = 1 ∧ tok = -3 ∧ Hid (wx.cell? ⟨bI, 0, none⟩ = some (.int .i32 0))) ∨ (sd' = true ∧ Hid (Run dig s j b) ∧ (dg = 1 ∨ (dg = 0 ∧ j < b)))))
  case first =>
    cases sd with
    | true =>
      go_wp2_with fail
      go_meet
      case rel =>
        rcases HM.out with ⟨_, h1, h2⟩ | ⟨h1, _⟩
        · exact ⟨k, _, 10, 0, 0, 0, 0, true, rfl, Hc0, rfl, rfl, rfl, Or.inl ⟨rfl, rfl⟩, rfl, rfl, rfl, hLa, DX.refl _ _ _ _ _, ⟨0, hIa.out⟩, Or.inr ⟨rfl, h1, Or.inr ⟨rfl, h2⟩⟩⟩
        · cases h1
    | false =>
      obtain ⟨a, hRa, hka, h48, hdot⟩ : ∃ a, Run dig s k a ∧ k < a ∧ (chAt s k = 48 → a = k + 1 ∧ low (chAt s (k + 1)) ≠ 120 ∧ low (chAt s (k + 1)) ≠ 111 ∧ low (chAt s (k + 1)) ≠ 98) ∧ ((chAt s a ≠ 46 ∧ b = a) ∨ (chAt s a = 46 ∧ Run dig s (a + 1) b)) := by
        rcases HM.out with ⟨h1, _⟩ | ⟨_, h1⟩
        · cases h1
        · exact h1
      have hks : k < s.size := by have := hRa.fit; omega
      by_cases hz : c0 = 48
      · have hz' : (c0 == 48) = true := by rw [beq_iff_eq]; exact hz
        have Hz := Lib.hid hz
        obtain ⟨ha1, hn1, hn2, hn3⟩ := h48 (by rw [← Hc0.out]; exact hz)
        subst ha1
        obtain ⟨c1, hc1⟩ : ∃ c, c = chAt s (k + 1) := ⟨_, rfl⟩
        rw [← hc1] at hn1 hn2 hn3
        obtain ⟨l1, hl1⟩ : ∃ l, l = low c1 := ⟨_, rfl⟩
        rw [← hl1] at hn1 hn2 hn3
        have n1 : (l1 == 120) = false := by rw [beq_eq_false_iff_ne]; exact hn1
        have n2 : (l1 == 111) = false := by rw [beq_eq_false_iff_ne]; exact hn2
        have n3 : (l1 == 98) = false := by rw [beq_eq_false_iff_ne]; exact hn3
        have Hc1 := Lib.hid hc1
        have Hl1 := Lib.hid hl1
        have HD := Lib.hid hdot
        have hnd : Hid (dig c1 = false) := by
          rw [Hid, hc1]
          by_cases h1 : k + 1 < s.size
          · exact hRa.stop h1
          · rw [chAt_end (by omega)]; exact low_end.2
        have hn95 : Hid (c1 ≠ 95) := by
          rw [Hid, hc1]
          by_cases h1 : k + 1 < s.size
          · exact HU.out _ h1
          · rw [chAt_end (by omega)]; decide
        clear hz hc1 hl1 hdot hRa h48 hn1 hn2 hn3
        go_wp2_with fail
        refine (next_look B g r s k ot wa HS.out hLa.out hks).mono ?_
        rintro e w1 ⟨rfl, hL1, hN1⟩
        rw [← Hc1.out]
        have HL1 := Lib.hid hL1
        have HN1 := Lib.hid hN1
        clear hL1 hN1
        go_wp2_with fail
        refine (is_lower c1 w1).mono ?_
        rintro e w2 ⟨rfl, hw2⟩
        obtain rfl := hw2.symm
        rw [← Hl1.out]
        go_wp2_with fail
        refine (digits_none g bI c1 w1 hnd.out hn95.out).mono ?_
        rintro e w2 ⟨rfl, hw2⟩
        obtain rfl := hw2.symm
        have hM1 : w1.cell? ⟨g, 1041, none⟩ = some (.int .u64 28) := (HN1.out.free 1041 (by omega)).trans hMa
        have hI1 : Hid (w1.heap[bI]? = some (.cells #[.int .i32 0] 21 (0, 0))) := HN1.out.ko bI _ hIa.out hbg hbr (fun c fz e => by injection e with _ e _; exact absurd e (by decide))
        rcases HD.out with ⟨hd1, hd2⟩ | ⟨hd1, hd2⟩
        · have t46 : (c1 == 46) = false := by rw [beq_eq_false_iff_ne, Hc1.out]; exact hd1
          have Hd2 := Lib.hid hd2
          clear hd1 hd2
          go_wp2_with fail
          go_meet
          case rel => exact ⟨k + 1, _, 8, 48, 1, -3, 0, false, rfl, Hc1, rfl, rfl, rfl, Or.inr ⟨rfl, rfl⟩, rfl, rfl, rfl, HL1, HN1.out.dx bI, ⟨0, hI1.out⟩, Or.inl ⟨rfl, Hd2.out.symm, rfl, rfl, by rw [Hid, Lib.cell_of_heap hI1.out]; rfl⟩⟩
        · have hk1 : k + 1 < s.size := by
            rcases Nat.lt_or_ge (k + 1) s.size with hlt | hge
            · exact hlt
            · rw [chAt_end hge] at hd1; exact absurd hd1 (by decide)
          have t46 : (c1 == 46) = true := by rw [beq_iff_eq, Hc1.out]; exact hd1
          have Hd2 := Lib.hid hd2
          clear hd1 hd2
          go_wp2_with fail
          refine (next_look B g r s (k + 1) ot w1 HS.out HL1.out hk1).mono ?_
          rintro e w2 ⟨rfl, hL2, hN2⟩
          have HL2 := Lib.hid hL2
          have HN2 := Lib.hid hN2
          clear hL2 hN2
          go_wp2_with fail
          go_meet
          case rel => exact ⟨k + 1 + 1, _, 8, 48, 1, -3, 0, true, rfl, rfl, rfl, rfl, rfl, Or.inr ⟨rfl, rfl⟩, rfl, rfl, rfl, HL2, (HN1.out.trans HN2.out).dx bI, Inv.nx ⟨0, hI1.out⟩ HN2.out hbg hbr, Or.inr ⟨rfl, Hd2.out, Or.inl rfl⟩⟩
      · have hz' : (c0 == 48) = false := by rw [beq_eq_false_iff_ne]; exact hz
        have HD := Lib.hid hdot
        have HRa := Lib.hid hRa
        clear hz hdot hRa h48
        go_wp2_with fail
        have hdt := digits_ten B g r s k ot (.pointer (some ⟨bI, 0, none⟩)) wa HS.out hLa.out HU.out
        rw [← Hc0.out] at hdt
        refine hdt.mono ?_
        rintro e w1 ⟨a', d, rfl, hd, hR1, hL1, hN1⟩
        obtain rfl := hR1.unique HRa.out
        obtain ⟨-, rfl⟩ : k < a' ∧ d = 1 := by
          rcases hd with ⟨h1, _⟩ | h1
          · omega
          · exact h1
        obtain ⟨c1, hc1⟩ : ∃ c, c = chAt s a' := ⟨_, rfl⟩
        rw [← hc1]
        have Hc1 := Lib.hid hc1
        have HL1 := Lib.hid hL1
        have HN1 := Lib.hid hN1
        clear hL1 hN1 hR1 hd hc1 hdt
        have hM1 : w1.cell? ⟨g, 1041, none⟩ = some (.int .u64 28) := (HN1.out.free 1041 (by omega)).trans hMa
        have hI1 : Hid (w1.heap[bI]? = some (.cells #[.int .i32 0] 21 (0, 0))) := HN1.out.ko bI _ hIa.out hbg hbr (fun c fz e => by injection e with _ e _; exact absurd e (by decide))
        rcases HD.out with ⟨hd1, hd2⟩ | ⟨hd1, hd2⟩
        · have t46 : (c1 == 46) = false := by rw [beq_eq_false_iff_ne, Hc1.out]; exact hd1
          have Hd2 := Lib.hid hd2
          clear hd1 hd2
          go_wp2_with fail
          go_meet
          case rel => exact ⟨a', _, 10, 0, 1, -3, 1, false, rfl, Hc1, rfl, rfl, rfl, Or.inl ⟨rfl, rfl⟩, rfl, rfl, rfl, HL1, HN1.out.dx bI, ⟨0, hI1.out⟩, Or.inl ⟨rfl, Hd2.out.symm, rfl, rfl, by rw [Hid, Lib.cell_of_heap hI1.out]; rfl⟩⟩
        · have hk1 : a' < s.size := by
            rcases Nat.lt_or_ge a' s.size with hlt | hge
            · exact hlt
            · rw [chAt_end hge] at hd1; exact absurd hd1 (by decide)
          have t46 : (c1 == 46) = true := by rw [beq_iff_eq, Hc1.out]; exact hd1
          have Hd2 := Lib.hid hd2
          clear hd1 hd2
          go_wp2_with fail
          refine (next_look B g r s a' ot w1 HS.out HL1.out hk1).mono ?_
          rintro e w2 ⟨rfl, hL2, hN2⟩
          have HL2 := Lib.hid hL2
          have HN2 := Lib.hid hN2
          clear hL2 hN2
          go_wp2_with fail
          go_meet
          case rel => exact ⟨a' + 1, _, 10, 0, 1, -3, 1, true, rfl, rfl, rfl, rfl, rfl, Or.inl ⟨rfl, rfl⟩, rfl, rfl, rfl, HL2, (HN1.out.trans HN2.out).dx bI, Inv.nx ⟨0, hI1.out⟩ HN2.out hbg hbr, Or.inr ⟨rfl, Hd2.out, Or.inl rfl⟩⟩
  case rest =>
    obtain ⟨j, c, base, pre, dg, tok, ds, sd', rfl, hc, rfl, rfl, rfl, hbp, rfl, rfl, rfl, hL, hD, hI, hcase⟩ := hcut
    have p111 : (pre == 111) = false := by rcases hbp with ⟨_, rfl⟩ | ⟨_, rfl⟩ <;> decide
    have p98 : (pre == 98) = false := by rcases hbp with ⟨_, rfl⟩ | ⟨_, rfl⟩ <;> decide
    have p120 : (pre == 120) = false := by rcases hbp with ⟨_, rfl⟩ | ⟨_, rfl⟩ <;> decide
    have HCs := Lib.hid hcase
    have HBP := Lib.hid hbp
    clear hcase hbp
    go_upto_if 58 with fail
    go_cut [1, 10, 12, 13] from 59 to 79 (fun s1 s10 s12 s13 wx => ∃ (c tok ds : Int), s1 = .int .i32 c ∧ Hid (c = chAt s b) ∧ s10 = .int .i64 1 ∧ s12 = .int .i32 tok ∧ s13 = .int .i64 ds ∧ Hid (Look B g r s b ot wx) ∧ Hid (DX B g r bI wa wx) ∧ Hid (Inv bI wx) ∧ ((tok = -3 ∧ Hid (wx.cell? ⟨bI, 0, none⟩ = some (.int .i32 0))) ∨ tok = -4))
    case first =>
      rcases HCs.out with ⟨rfl, hj, rfl, rfl, h0⟩ | ⟨rfl, hRj, hdg⟩
      · go_wp2_with fail
        go_meet
        case rel =>
          have hjb := hj.out
          subst hjb
          exact ⟨_, -3, _, rfl, hc, rfl, rfl, rfl, hL, hD, hI, Or.inl ⟨rfl, h0⟩⟩
      · have Hdg := Lib.hid hdg
        clear hdg
        go_wp2_with fail
        have hdt : Calls Tryz.prog 90 #[.pointer (some ⟨g, 0, none⟩), .int .i32 c, .int .i64 base, .pointer (some ⟨bI, 0, none⟩)] wc fun e w' => ∃ d : Int, e = .returned (.tuple #[.int .i32 (chAt s b), .int .i64 d]) ∧ Hid (bits .or .i64 dg d = 1) ∧ Look B g r s b ot w' ∧ DX B g r bI wa w' ∧ Inv bI w' := by
          have hcc := hc.out
          subst hcc
          rcases HBP.out with ⟨rfl, rfl⟩ | ⟨rfl, rfl⟩
          · refine (digits_ten B g r s j ot (.pointer (some ⟨bI, 0, none⟩)) wc HS.out hL.out HU.out).mono ?_
            rintro e w' ⟨i', d, rfl, hd, hR, hLx, hNx⟩
            obtain rfl := hR.unique hRj.out
            refine ⟨d, rfl, ?_, hLx, hD.out.trans (hNx.dx bI), hI.out.nx hNx hbg hbr⟩
            rcases Hdg.out with rfl | ⟨rfl, hlt⟩
            · rcases hd with ⟨_, rfl⟩ | ⟨_, rfl⟩
              · exact o10
              · exact o11
            · rcases hd with ⟨h1, _⟩ | ⟨_, rfl⟩
              · omega
              · exact o01
          · refine (digits_eight B g r bI s j ot wc HS.out hL.out HU.out hBb hbg hbr hI.out).mono ?_
            rintro e w' ⟨i', d, rfl, hd, hR, hLx, hNx, hIx⟩
            obtain rfl := hR.unique hRj.out
            refine ⟨d, rfl, ?_, hLx, hD.out.trans hNx, hIx⟩
            rcases Hdg.out with rfl | ⟨rfl, hlt⟩
            · rcases hd with ⟨_, rfl⟩ | ⟨_, rfl⟩
              · exact o10
              · exact o11
            · rcases hd with ⟨h1, _⟩ | ⟨_, rfl⟩
              · omega
              · exact o01
        refine hdt.mono ?_
        rintro e w2 ⟨d, rfl, hor, hL2, hD2, hI2⟩
        have HL2 := Lib.hid hL2
        have HD2 := Lib.hid hD2
        have HI2 := Lib.hid hI2
        have hor' := hor.out
        clear hL2 hD2 hI2 hdt
        go_wp2_with fail
        go_meet
        case rel => exact ⟨_, -4, _, rfl, rfl, rfl, rfl, rfl, HL2, HD2, HI2, Or.inr rfl⟩
    case rest =>
      clear hL hD hI hc
      obtain ⟨c, tok, ds, rfl, hc, rfl, rfl, rfl, hL, hD, hI, htok⟩ := hcut
      have HTok := Lib.hid htok
      clear htok
      have hMc : wc.cell? ⟨g, 1041, none⟩ = some (.int .u64 28) := (hD.out.free 1041 (by omega)).trans hMa
      have hnx : ∀ w', DX B g r bI wa w' → NX B g r w w' := fun w' h => by
        rw [HA.out.2] at h
        obtain ⟨cg, hcg⟩ := HB.out.1.1
        exact h.nx HA.out.1 HB.out.2 ⟨_, hcg⟩
      have Hnx := Lib.hid hnx
      clear hnx hMa
      obtain ⟨l, hl⟩ : ∃ l, l = low c := ⟨_, rfl⟩
      have HLo := is_lower c wc
      rw [← hl] at HLo
      have HLo' := Lib.hid HLo
      clear HLo
      rcases HX.out with ⟨hl1, hl2, hib⟩ | ⟨hl1, hbs, hx⟩
      · rw [← hc.out, ← hl] at hl1 hl2
        have n1 : (l == 101) = false := by rw [beq_eq_false_iff_ne]; exact hl1
        have n2 : (l == 112) = false := by rw [beq_eq_false_iff_ne]; exact hl2
        have Hib := Lib.hid hib
        clear hl hl1 hl2 hib
        rcases HTok.out with ⟨rfl, h0⟩ | rfl
        · have h0' := h0.out
          have h0f := hI.out.fr
          go_wp2_with fail
          refine HLo'.out.mono ?_
          rintro e w2 ⟨rfl, hw2⟩
          obtain rfl := hw2.symm
          go_wp2_with fail
          go_ret2
          exact ⟨-3, Or.inl rfl, by rw [Hib.out, ← hc.out]; rfl, by rw [Hib.out]; exact hL.out, Hnx.out _ hD.out⟩
        · go_wp2_with fail
          refine HLo'.out.mono ?_
          rintro e w2 ⟨rfl, hw2⟩
          obtain rfl := hw2.symm
          go_wp2_with fail
          go_ret2
          exact ⟨-4, Or.inr rfl, by rw [Hib.out, ← hc.out]; rfl, by rw [Hib.out]; exact hL.out, Hnx.out _ hD.out⟩
      · rw [← hc.out, ← hl] at hl1
        obtain rfl := hl1
        clear hl
        have HXX := Lib.hid hx
        clear hx
        rcases HBP.out with ⟨hbase, rfl⟩ | ⟨hbase, rfl⟩
        all_goals
          clear hbase
          go_wp2_with fail
          refine HLo'.out.mono ?_
          rintro e w2 ⟨rfl, hw2⟩
          obtain rfl := hw2.symm
          go_wp2_with fail
          refine (next_look B g r s b ot wc HS.out hL.out hbs).mono ?_
          rintro e w1 ⟨rfl, hL1, hN1⟩
          obtain ⟨c1, hc1⟩ : ∃ c, c = chAt s (b + 1) := ⟨_, rfl⟩
          rw [← hc1]
          have Hc1 := Lib.hid hc1
          have HL1 := Lib.hid hL1
          have HN1 := Lib.hid hN1
          clear hc1 hL1 hN1
          rcases HXX.out with ⟨hs1, hs2, hR, hlt⟩ | ⟨hs12, hR, hlt⟩
          · have m1 : (c1 == 43) = false := by rw [beq_eq_false_iff_ne, Hc1.out]; exact hs1
            have m2 : (c1 == 45) = false := by rw [beq_eq_false_iff_ne, Hc1.out]; exact hs2
            have HR := Lib.hid hR
            clear hs1 hs2 hR
            go_wp2_with fail
            have hdt := digits_ten B g r s (b + 1) ot (.pointer none) w1 HS.out HL1.out HU.out
            rw [← Hc1.out] at hdt
            refine hdt.mono ?_
            rintro e w2 ⟨i', d, rfl, hd, hRx, hLx, hNx⟩
            obtain rfl := hRx.unique HR.out
            obtain ⟨-, rfl⟩ : b + 1 < i' ∧ d = 1 := by
              rcases hd with ⟨h1, _⟩ | h1
              · omega
              · exact h1
            have HLx := Lib.hid hLx
            have HNx := Lib.hid hNx
            clear hLx hNx hRx hd hdt
            go_wp2_with fail
            go_ret2
            exact ⟨-4, Or.inr rfl, rfl, HLx.out, Hnx.out _ (hD.out.trans ((HN1.out.trans HNx.out).dx bI))⟩
          · have hbs1 : b + 1 < s.size := by
              rcases Nat.lt_or_ge (b + 1) s.size with hlt | hge
              · exact hlt
              · rw [chAt_end hge] at hs12; rcases hs12 with h | h <;> exact absurd h (by decide)
            have hs12' : c1 = 43 ∨ c1 = 45 := by rw [Hc1.out]; exact hs12
            have HR := Lib.hid hR
            clear hs12 hR
            have hstep : Calls Tryz.prog 70 #[.pointer (some ⟨g, 0, none⟩)] w1 fun e w' => e = .returned (.int .i32 (chAt s (b + 1 + 1))) ∧ Look B g r s (b + 1 + 1) ot w' ∧ NX B g r w1 w' := next_look B g r s (b + 1) ot w1 HS.out HL1.out hbs1
            have HStep := Lib.hid hstep
            clear hstep
            rcases hs12' with rfl | rfl
            all_goals
              go_wp2_with fail
              refine HStep.out.mono ?_
              rintro e w2 ⟨rfl, hL2, hN2⟩
              have HL2 := Lib.hid hL2
              have HN2 := Lib.hid hN2
              clear hL2 hN2
              go_wp2_with fail
              refine (digits_ten B g r s (b + 1 + 1) ot (.pointer none) w2 HS.out HL2.out HU.out).mono ?_
              rintro e w3 ⟨i', d, rfl, hd, hRx, hLx, hNx⟩
              obtain rfl := hRx.unique HR.out
              obtain ⟨-, rfl⟩ : b + 1 + 1 < i' ∧ d = 1 := by
                rcases hd with ⟨h1, _⟩ | h1
                · omega
                · exact h1
              have HLx := Lib.hid hLx
              have HNx := Lib.hid hNx
              clear hLx hNx hRx hd
              go_wp2_with fail
              go_ret2
              exact ⟨-4, Or.inr rfl, rfl, HLx.out, Hnx.out _ (hD.out.trans (((HN1.out.trans HN2.out).trans HNx.out).dx bI))⟩
end Go.Proofs.YthplmbgdcfmkgaaGreatDoor
