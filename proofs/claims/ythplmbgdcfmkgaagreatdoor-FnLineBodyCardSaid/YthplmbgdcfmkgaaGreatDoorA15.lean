/- The scanner: a token. -/
import Derived.Test.YthplmbgdcfmkgaaGreatDoorA14
import Derived.WalkMore
import Derived.StillTailTactics
import Derived.Deep.CutBlock
import Derived.Deep.CutRange
import Derived.Scope
import Derived.Laws.IdiomStrings
set_option linter.unusedVariables false
set_option linter.unusedSimpArgs false
/- The scanner's Scan: what it may turn. -/
namespace Go.Proofs.YthplmbgdcfmkgaaGreatDoor
open Go.RowKit

/-- Cells of the scanner's that hold numbers. -/
structure Ls (g : Nat) (w : World) : Prop where
  e37 : ∃ z, w.cell? ⟨g, 1037, none⟩ = some (.int .i64 z)
  e38 : ∃ z, w.cell? ⟨g, 1038, none⟩ = some (.int .i32 z)
  e45 : ∃ z, w.cell? ⟨g, 1045, none⟩ = some (.int .i64 z)
  e46 : ∃ z, w.cell? ⟨g, 1046, none⟩ = some (.int .i64 z)
  e47 : ∃ z, w.cell? ⟨g, 1047, none⟩ = some (.int .i64 z)
/-- What Scan leaves as it was. -/
structure FX (B g r : Nat) (w w' : World) : Prop where
  below : Below B w w'
  ko : ∀ k o, w.heap[k]? = some o → k ≠ g → k ≠ r → (∀ c fz, o ≠ .cells c 5 fz) → w'.heap[k]? = some o
  free : ∀ i, 1039 ≤ i → (i < 1045 ∨ 1048 ≤ i) → w'.cell? ⟨g, i, none⟩ = w.cell? ⟨g, i, none⟩
  ls : Ls g w → Ls g w'
theorem FX.refl (B g r : Nat) (w : World) : FX B g r w w := ⟨Below.refl _ _, fun _ _ h _ _ _ => h, fun _ _ _ => rfl, fun h => h⟩
theorem FX.trans {B g r a b c} (h : FX B g r a b) (k : FX B g r b c) : FX B g r a c :=
  ⟨h.below.trans k.below, fun i o h1 h2 h3 h4 => k.ko i o (h.ko i o h1 h2 h3 h4) h2 h3 h4, fun i hi h2 => (k.free i hi h2).trans (h.free i hi h2), fun x => k.ls (h.ls x)⟩
theorem NX.fx {B g r a b} (h : NX B g r a b) : FX B g r a b :=
  ⟨h.below, h.ko, fun i hi _ => h.free i (by omega), fun x => ⟨by rw [h.free _ (by omega)]; exact x.e37, by rw [h.free _ (by omega)]; exact x.e38, by rw [h.free _ (by omega)]; exact x.e45, by rw [h.free _ (by omega)]; exact x.e46, by rw [h.free _ (by omega)]; exact x.e47⟩⟩
theorem PX.fx {B g r a b} (h : PX B g r a b) : FX B g r a b :=
  ⟨h.below, h.ko, fun i hi _ => h.free i (by omega) (by omega), fun x => ⟨by rw [h.free _ (by omega) (by omega)]; exact x.e37, h.c38, by rw [h.free _ (by omega) (by omega)]; exact x.e45, by rw [h.free _ (by omega) (by omega)]; exact x.e46, by rw [h.free _ (by omega) (by omega)]; exact x.e47⟩⟩
theorem FX.drewN {B g r a w} (h : FX B g r a w) (n : Nat) : FX B g r a (w.drewN n) := ⟨Below.drewN h.below n, h.ko, h.free, fun x => ⟨(h.ls x).e37, (h.ls x).e38, (h.ls x).e45, (h.ls x).e46, (h.ls x).e47⟩⟩
theorem FX.set {B g r a w} (h : FX B g r a w) (hB : B ≤ g) (i : Nat) (hi : i < 1037 ∨ i = 1037 ∨ i = 1045 ∨ i = 1046 ∨ i = 1047) (z : Int) : FX B g r a (w.setCell ⟨g, i, none⟩ (.int .i64 z)) := by
  refine ⟨h.below.setCell (p := ⟨g, i, none⟩) hB _, fun k o h1 h2 h3 h4 => by rw [Below.heap_setCell _ _ _ _ h2]; exact h.ko k o h1 h2 h3 h4, fun j hj h2 => by rw [cell_set_ne (by omega)]; exact h.free j hj h2, fun x => ?_⟩
  have y := h.ls x
  have put : ∀ j, (∃ z, w.cell? ⟨g, j, none⟩ = some (.int .i64 z)) → ∃ z', (w.setCell ⟨g, i, none⟩ (.int .i64 z)).cell? ⟨g, j, none⟩ = some (.int .i64 z') := by
    intro j hj
    by_cases e : j = i
    · subst e; obtain ⟨y, hy⟩ := hj; exact ⟨z, cell_set_same hy⟩
    · rw [cell_set_ne (by omega)]; exact hj
  exact ⟨put _ y.e37, by rw [cell_set_ne (by omega)]; exact y.e38, put _ y.e45, put _ y.e46, put _ y.e47⟩
theorem FX.setCh {B g r a w} (h : FX B g r a w) (hB : B ≤ g) (z : Int) : FX B g r a (w.setCell ⟨g, 1038, none⟩ (.int .i32 z)) := by
  refine ⟨h.below.setCell (p := ⟨g, 1038, none⟩) hB _, fun k o h1 h2 h3 h4 => by rw [Below.heap_setCell _ _ _ _ h2]; exact h.ko k o h1 h2 h3 h4, fun j hj h2 => by rw [cell_set_ne (by omega)]; exact h.free j hj h2, fun x => ?_⟩
  have y := h.ls x
  exact ⟨by rw [cell_set_ne (by omega)]; exact y.e37, by obtain ⟨u, hu⟩ := y.e38; exact ⟨z, cell_set_same hu⟩, by rw [cell_set_ne (by omega)]; exact y.e45, by rw [cell_set_ne (by omega)]; exact y.e46, by rw [cell_set_ne (by omega)]; exact y.e47⟩

/-- The parts of a Look in one form. -/
structure Lk (B g r : Nat) (s : ByteArray) (k : Nat) (ot : Option Nat) (P E D : Nat) (tp : Int) (C : List UInt8) (lc : Nat) (w : World) : Prop where
  scn : Scn B g r s P E D tp C lc w
  eq : D + P = k + lc
  lcP : lc ≤ P
  cl : C.length ≤ 3000
  tok : TokO s D tp C ot
  lim : (lc = 1 ∧ k < s.size ∧ tp < P) ∨ (lc = 0 ∧ P = 0 ∧ E = 0 ∧ D = s.size)
theorem Look.lk {B g r s k ot w} (h : Look B g r s k ot w) : ∃ P E D tp C lc, Lk B g r s k ot P E D tp C lc w := by
  rcases h.at' with ⟨h1, P, E, D, tp, C, hS, h2, h3, h4, h5, h6⟩ | ⟨h1, tp, C, hS, h2, h3⟩
  · exact ⟨P, E, D, tp, C, 1, hS, by omega, by omega, h5, h6, Or.inl ⟨rfl, h1, h3⟩⟩
  · exact ⟨0, 0, s.size, tp, C, 0, hS, by omega, by omega, h2, h3, Or.inr ⟨rfl, rfl, rfl, rfl⟩⟩
theorem Lk.look {B g r s k ot P E D tp C lc w} (h : Lk B g r s k ot P E D tp C lc w) (hy : Sky B r w) : Look B g r s k ot w := by
  refine ⟨?_, hy⟩
  have he := h.eq
  rcases h.lim with ⟨rfl, h1, h2⟩ | ⟨rfl, rfl, rfl, rfl⟩
  · exact Or.inl ⟨h1, P, E, D, tp, C, h.scn, he, h2, by have := h.lcP; omega, h.cl, h.tok⟩
  · exact Or.inr ⟨by omega, tp, C, h.scn, h.cl, h.tok⟩
/-- No token is being read. -/
theorem Look.noTok {B g r s k ot w} (h : Look B g r s k ot w) : Look B g r s k none (w.setCell ⟨g, 1036, none⟩ (.int .i64 (-1))) := by
  have hB := h.blk.2.1
  have hy := h.sky.below ((Below.refl B w).setCell (p := ⟨g, 1036, none⟩) hB (.int .i64 (-1)))
  obtain ⟨P, E, D, tp, C, lc, hk⟩ := h.lk
  refine Lk.look (P := P) (E := E) (D := D) (tp := -1) (C := C) (lc := lc) ⟨hk.scn.setTp (-1) (by omega), hk.eq, hk.lcP, hk.cl, rfl, ?_⟩ hy
  rcases hk.lim with ⟨h1, h2, h3⟩ | h1
  · exact Or.inl ⟨h1, h2, by omega⟩
  · exact Or.inr h1
/-- A token begins. -/
theorem Lk.begin {B g r s k P E D tp lc w} {ot : Option Nat} (h : Lk B g r s k ot P E D tp [] lc w) : Lk B g r s k (some k) P E D ((P : Int) - lc) [] lc (w.setCell ⟨g, 1036, none⟩ (.int .i64 ((P : Int) - lc))) := by
  have he := h.eq
  have hl := h.lcP
  refine ⟨h.scn.setTp _ (by omega), he, hl, by simp, ⟨by omega, by simp, by simp; omega⟩, ?_⟩
  rcases h.lim with ⟨h1, h2, h3⟩ | h1
  · exact Or.inl ⟨h1, h2, by omega⟩
  · exact Or.inr h1
theorem Lk.drewN {B g r s k ot P E D tp C lc w} (h : Lk B g r s k ot P E D tp C lc w) (n : Nat) : Lk B g r s k ot P E D tp C lc (w.drewN n) := ⟨h.scn.drewN n, h.eq, h.lcP, h.cl, h.tok, h.lim⟩
theorem Lk.setFree {B g r s k ot P E D tp C lc w} (h : Lk B g r s k ot P E D tp C lc w) (i : Nat) (hi : 1037 ≤ i) (v : Value) : Lk B g r s k ot P E D tp C lc (w.setCell ⟨g, i, none⟩ v) := ⟨h.scn.setFree i hi v, h.eq, h.lcP, h.cl, h.tok, h.lim⟩
def wsb (c : Int) : Bool := (c == 32) || (c == 9) || (c == 10) || (c == 13)
/-- A token begins at j and ends at i; at the source's end there is none. -/
def TokEnd (s : ByteArray) (j i : Nat) : Prop :=
  (j = s.size ∧ i = j) ∨
  (j < s.size ∧ ltr (chAt s j) = true ∧ Run idc s (j + 1) i) ∨
  (j < s.size ∧ ltr (chAt s j) = false ∧ dig (chAt s j) = true ∧ ∃ b, Mant s false j b ∧ Expo s b i) ∨
  (j < s.size ∧ chAt s j = 46 ∧ ∃ b, Mant s true (j + 1) b ∧ Expo s b i) ∨
  (j < s.size ∧ (chAt s j = 40 ∨ chAt s j = 41 ∨ chAt s j = 44 ∨ chAt s j = 45) ∧ i = j + 1)
/-- A token has been read: from j to i. -/
def Tkn (B g r : Nat) (s : ByteArray) (j i : Nat) (w : World) : Prop :=
  ∃ P E D tp C lc, Lk B g r s i (some j) P E D tp C lc w ∧ w.cell? ⟨g, 1037, none⟩ = some (.int .i64 ((P : Int) - lc)) ∧ w.cell? ⟨g, 1038, none⟩ = some (.int .i32 (chAt s i)) ∧ Sky B r w
theorem idr_zero {c : Int} (h : c ≠ 95) : idr c 0 = ltr c := by
  rw [idr, beq_eq_false_iff_ne.mpr h, decide_eq_false (by omega : ¬ (0 : Int) < 0), Bool.and_false, Bool.or_false, Bool.false_or]
def wsx (c : Int) : Int := bits .and .u64 4294977024 (IntKind.u64.wrap (2 ^ min (IntKind.u64.wrap c).toNat 64))
theorem wsx_ascii : ∀ c : _root_.Fin 128, (wsx (c.val : Int) == 0) = !wsb (c.val : Int) := by decide
theorem wsx_end : (wsx (-1) == 0) = true ∧ wsb (-1) = false := by decide
theorem wsx_ok {c : Int} (h : c = -1 ∨ (0 < c ∧ c < 128)) : (wsx c == 0) = !wsb c := by
  rcases h with rfl | ⟨h1, h2⟩
  · rw [wsx_end.1, wsx_end.2]; rfl
  · obtain ⟨n, rfl⟩ : ∃ n : Nat, c = (n : Int) := ⟨c.toNat, by omega⟩
    exact wsx_ascii ⟨n, by omega⟩
set_option maxHeartbeats 4000000 in
set_option maxRecDepth 100000 in
theorem scan_go (B g r : Nat) (s : ByteArray) (k : Nat) (w : World) (hs : Plain s) (hu : ∀ t, t < s.size → chAt s t ≠ 95)
    (hP : Calls Tryz.prog 69 #[.pointer (some ⟨g, 0, none⟩)] w fun e w' => e = .returned (.int .i32 (chAt s k)) ∧ (∃ ot, Look B g r s k ot w') ∧ FX B g r w w') (hL0 : Ls g w) (c42 : w.cell? ⟨g, 1042, none⟩ = some (.int .u64 4294977024)) (c41 : w.cell? ⟨g, 1041, none⟩ = some (.int .u64 28)) (c43 : w.cell? ⟨g, 1043, none⟩ = some .nilFunc) (j0 i0 : Nat) (hR0 : Run wsb s k j0) (hT0 : TokEnd s j0 i0) :
    Calls Tryz.prog 64 #[.pointer (some ⟨g, 0, none⟩)] w fun e w' => ∃ tok : Int, e = .returned (.int .i32 tok) ∧ ((tok = -1 ∧ j0 = s.size) ∨ (tok ≠ -1 ∧ j0 < s.size)) ∧ Tkn B g r s j0 i0 w' ∧ FX B g r w w' := by
  have HR0 := Lib.hid hR0
  have HT0 := Lib.hid hT0
  clear hR0 hT0
  have HS := Lib.hid hs
  have HU := Lib.hid hu
  have HP := Lib.hid hP
  have HL0 := Lib.hid hL0
  clear hs hu hP hL0
  go_enter Tryz.func64, Tryz.ntmps64
  go_wp2_with fail
  go_step3
  go_wp2_with fail
  refine HP.out.mono ?_
  rintro e w1 ⟨rfl, ⟨ot, hL1⟩, hF1⟩
  obtain ⟨c0, hc0⟩ : ∃ c, c = chAt s k := ⟨_, rfl⟩
  rw [← hc0]
  have Hc0 := Lib.hid hc0
  have HL1 := Lib.hid hL1
  have HF1 := Lib.hid hF1
  have hle := hL1.le
  have hBg := hL1.blk.2.1
  obtain ⟨tp1, ctp1⟩ : ∃ tp : Int, w1.cell? ⟨g, 1036, none⟩ = some (.int .i64 tp) := by
    obtain ⟨P, E, D, tp, C, lc, hk⟩ := hL1.lk
    exact ⟨tp, hk.scn.ctp⟩
  obtain ⟨z46, c46⟩ := (hF1.ls HL0.out).e46
  have f36 := hL1.blk.1.fr 1036
  have f46 := hL1.blk.1.fr 1046
  clear hc0 hL1 hF1
  go_wp2_with fail
  go_step3
  obtain ⟨w2, hw2⟩ : ∃ w2, w2 = (w1.setCell ⟨g, 1036, none⟩ (.int .i64 (-1))).setCell ⟨g, 1046, none⟩ (.int .i64 0) := ⟨_, rfl⟩
  rw [← hw2]
  have HL2 : Hid (Look B g r s k none w2) := by rw [hw2]; exact HL1.out.noTok.setFree 1046 (by omega) _
  have HF2 : Hid (FX B g r w w2) := by rw [hw2]; exact (HF1.out.set hBg 1036 (by omega) _).set hBg 1046 (by omega) _
  clear hw2 HL1 HF1 f36 f46 ctp1 c46
  have d42 : w2.cell? ⟨g, 1042, none⟩ = some (.int .u64 4294977024) := (HF2.out.free 1042 (by omega) (by omega)).trans c42
  go_wp2_with fail
  go_loopg [3] (s.size - k) (fun q ch wr => ∃ (j : Nat) (c : Int), k ≤ j ∧ j ≤ s.size ∧ q + j = s.size ∧ ch = .int .i32 c ∧ Hid (c = chAt s j) ∧ Hid (∀ t, k ≤ t → t < j → wsb (chAt s t) = true) ∧ Hid (Look B g r s j none wr) ∧ Hid (FX B g r w wr))
  case atStart => exact ⟨k, _, Nat.le_refl _, hle, by omega, rfl, Hc0, fun t h1 h2 => by omega, HL2, HF2⟩
  case round =>
    obtain ⟨j, c, hj1, hj2, hq, rfl, hc, hall, hL, hF⟩ := hrel
    have e42 : wr.cell? ⟨g, 1042, none⟩ = some (.int .u64 4294977024) := (hF.out.free 1042 (by omega) (by omega)).trans c42
    have hcr : c = -1 ∨ (0 < c ∧ c < 128) := by
      rcases chAt_range HS.out j with ⟨h1, _⟩ | ⟨h1, h2, _⟩
      · exact Or.inl (hc.out.trans h1)
      · exact Or.inr (by rw [hc.out]; exact ⟨h1, h2⟩)
    obtain ⟨x, hx⟩ : ∃ x, wsx c = x := ⟨_, rfl⟩
    have hx0 := wsx_ok hcr
    rw [hx] at hx0
    have hx' : bits .and .u64 4294977024 (IntKind.u64.wrap (2 ^ min (IntKind.u64.wrap c).toNat 64)) = x := hx
    clear hx
    obtain ⟨b, hb⟩ : ∃ b, wsb c = b := ⟨_, rfl⟩
    rw [hb] at hx0
    have Hb := Lib.hid hb
    have Hcr := Lib.hid hcr
    clear hb hcr
    cases b with
    | true =>
      have hx1 : (x == 0) = false := hx0
      clear hx0
      have hjs : j < s.size := by
        rcases Nat.lt_or_ge j s.size with hlt | hge
        · exact hlt
        · exfalso
          have h1 := Hb.out
          rw [hc.out, chAt_end hge, wsx_end.2] at h1
          cases h1
      go_wp2_with fail
      refine (next_look B g r s j none wr HS.out hL.out hjs).mono ?_
      rintro e w3 ⟨rfl, hL3, hN3⟩
      have HL3 := Lib.hid hL3
      have HN3 := Lib.hid hN3
      clear hL3 hN3
      go_wp2_with fail
      go_roundg (gk - 1)
      case measure => omega
      case rel =>
        refine ⟨j + 1, _, by omega, hjs, by omega, rfl, rfl, fun t h1 h2 => ?_, HL3, hF.out.trans HN3.out.fx⟩
        by_cases ht : t = j
        · subst ht; rw [← hc.out]; exact Hb.out
        · exact hall.out t h1 (by omega)
    | false =>
      have hx1 : (x == 0) = true := hx0
      clear hx0
      go_wp2_with fail
      obtain ⟨P, E, D, tp, C, lc, hk⟩ := hL.out.lk
      refine (reset_own B g C wr hk.scn.tb hk.scn.blk).mono ?_
      rintro e w3 ⟨rfl, v, n, hw3, hT3⟩
      obtain ⟨hS3, hN3⟩ := hk.scn.reset hw3 hT3
      have HK3 : Hid (Lk B g r s j none P E D tp [] lc w3) := ⟨hS3, hk.eq, hk.lcP, by simp, hk.tok, hk.lim⟩
      have HF3 : Hid (FX B g r w w3) := hF.out.trans hN3.fx
      have hRun : Hid (Run wsb s k j) := ⟨hj1, hj2, hall.out, fun _ => by rw [← hc.out]; exact Hb.out⟩
      have hy3 : Hid (Sky B r w3) := hL.out.sky.below hN3.below
      have hPE := hk.scn.le
      have hEl := hk.scn.lim
      have hlP := hk.lcP
      have hDs := hk.scn.fit
      have hss := HS.out.1
      clear hk hw3 hT3 hS3 hN3 hx' hx1 e42
      have k1 : w3.drew.cell? ⟨g, 1026, none⟩ = some (.int .i64 P) := HK3.out.scn.cP
      have k2 : w3.drew.cell? ⟨g, 1032, none⟩ = some (.int .i64 (lc : Int)) := HK3.out.scn.clc
      have k3 : w3.drew.cell? ⟨g, 1036, none⟩ = some (.int .i64 tp) := HK3.out.scn.ctp
      have k4 : w3.drew.frozen? ⟨g, 1036, none⟩ = false := HK3.out.scn.fr 1036
      have k5 : w3.cell? ⟨g, 1036, none⟩ = some (.int .i64 tp) := HK3.out.scn.ctp
      have k6 : w3.frozen? ⟨g, 1036, none⟩ = false := HK3.out.scn.fr 1036
      have hwr1 : IntKind.i64.wrap ((P : Int) - lc) = (P : Int) - lc := by rw [IntKind.wrap_i64]; omega
      go_wp2_with fail
      go_still_tail 12, (by kernel_rfl)
      go_wp2_with fail
      obtain ⟨w4, hw4⟩ : ∃ w4, w4 = (w3.setCell ⟨g, 1036, none⟩ (.int .i64 ((P : Int) - lc))).drew := ⟨_, rfl⟩
      rw [← hw4]
      have HK4 : Hid (Lk B g r s j (some j) P E D ((P : Int) - lc) [] lc w4) := by rw [hw4]; exact HK3.out.begin.drewN 1
      have HF4 : Hid (FX B g r w w4) := by rw [hw4]; exact (HF3.out.set hBg 1036 (by omega) _).drewN 1
      have hy4 : Hid (Sky B r w4) := by
        have hy := hy3.out.below ((Below.refl B w3).setCell (p := ⟨g, 1036, none⟩) hBg (.int .i64 ((P : Int) - lc)))
        rw [hw4]; exact hy.below (Below.drewN (Below.refl _ _) 1)
      clear hw4 HK3 HF3 hy3 k1 k2 k3 k4 k5 k6 hwr1
      obtain ⟨z45, c45⟩ := (HF4.out.ls HL0.out).e45
      have k1 : w4.drew.cell? ⟨g, 1028, none⟩ = some (.int .i64 D) := HK4.out.scn.cD
      have k2 : w4.drew.cell? ⟨g, 1036, none⟩ = some (.int .i64 ((P : Int) - lc)) := HK4.out.scn.ctp
      have k3 : w4.drew.cell? ⟨g, 1045, none⟩ = some (.int .i64 z45) := c45
      have k4 : w4.drew.frozen? ⟨g, 1045, none⟩ = false := HK4.out.scn.fr 1045
      have k5 : w4.frozen? ⟨g, 1045, none⟩ = false := HK4.out.scn.fr 1045
      have hwr1 : IntKind.i64.wrap ((D : Int) + ((P : Int) - lc)) = (D : Int) + ((P : Int) - lc) := by rw [IntKind.wrap_i64]; omega
      go_still_tail 13, (by kernel_rfl)
      obtain ⟨w5, hw5⟩ : ∃ w5, w5 = w4.setCell ⟨g, 1045, none⟩ (.int .i64 ((D : Int) + ((P : Int) - lc))) := ⟨_, rfl⟩
      have HK5 : Hid (Lk B g r s j (some j) P E D ((P : Int) - lc) [] lc w5) := by rw [hw5]; exact HK4.out.setFree 1045 (by omega) _
      have HF5 : Hid (FX B g r w w5) := by rw [hw5]; exact HF4.out.set hBg 1045 (by omega) _
      have hy5 : Hid (Sky B r w5) := by rw [hw5]; exact hy4.out.below ((Below.refl B w4).setCell (p := ⟨g, 1045, none⟩) hBg (.int .i64 ((D : Int) + ((P : Int) - lc))))
      obtain ⟨z30, c30⟩ := HK5.out.scn.cc
      have d30 : (w4.setCell ⟨g, 1045, none⟩ (.int .i64 ((D : Int) + ((P : Int) - lc)))).cell? ⟨g, 1030, none⟩ = some (.int .i64 z30) := by rw [← hw5]; exact c30
      go_upto_if 58 with fail
      rw [← hw5]
      obtain ⟨w6, hw6⟩ : ∃ w6, w6 = w5.drew := ⟨_, rfl⟩
      have HK6 : Hid (Lk B g r s j (some j) P E D ((P : Int) - lc) [] lc w6) := by rw [hw6]; exact HK5.out.drewN 1
      have HF6 : Hid (FX B g r w w6) := by rw [hw6]; exact HF5.out.drewN 1
      have hy6 : Hid (Sky B r w6) := by rw [hw6]; exact hy5.out.below (Below.drewN (Below.refl _ _) 1)
      have e30 : w6.cell? ⟨g, 1030, none⟩ = some (.int .i64 z30) := by rw [hw6]; exact c30
      rw [← hw6]
      clear hw6 hw5 HK5 HF5 hy5 c30 d30 k1 k2 k3 k4 k5 c45 hwr1
      obtain ⟨z29, e29⟩ := HK6.out.scn.cl
      obtain ⟨z31, e31⟩ := HK6.out.scn.cll
      obtain ⟨z46, e46⟩ := (HF6.out.ls HL0.out).e46
      obtain ⟨z47, e47⟩ := (HF6.out.ls HL0.out).e47
      have f46 : w6.frozen? ⟨g, 1046, none⟩ = false := HK6.out.scn.fr 1046
      have f47 : w6.frozen? ⟨g, 1047, none⟩ = false := HK6.out.scn.fr 1047
      have HLk6 : Hid (Look B g r s j (some j) w6) := HK6.out.look hy6.out
      clear HK6 hy6
      have Hj0 : Hid (j = j0) := hRun.out.unique HR0.out
      go_cut [] from 59 to 91 (fun wx => Hid (Look B g r s j (some j) wx) ∧ Hid (FX B g r w wx))
      case first =>
        by_cases hz30 : 0 < z30
        · go_wp2_with fail
          go_meet
          case rel => exact ⟨(HLk6.out.setFree 1046 (by omega) _).setFree 1047 (by omega) _, (HF6.out.set hBg 1046 (by omega) _).set hBg 1047 (by omega) _⟩
        · go_wp2_with fail
          go_meet
          case rel => exact ⟨(HLk6.out.setFree 1046 (by omega) _).setFree 1047 (by omega) _, (HF6.out.set hBg 1046 (by omega) _).set hBg 1047 (by omega) _⟩
      case rest =>
      clear HLk6 HF6 e29 e30 e31 e46 e47 f46 f47
      obtain ⟨hL6, hF6⟩ := hcut
      have a41 : wc.cell? ⟨g, 1041, none⟩ = some (.int .u64 28) := (hF6.out.free 1041 (by omega) (by omega)).trans c41
      have a43 : wc.cell? ⟨g, 1043, none⟩ = some .nilFunc := (hF6.out.free 1043 (by omega) (by omega)).trans c43
      have b4 : bits .and .u64 28 4 = 4 := by decide
      have b24 : bits .and .u64 28 24 = 24 := by decide
      have b16 : bits .and .u64 28 16 = 16 := by decide
      have h95 : c ≠ 95 := by
        by_cases hjs : j < s.size
        · rw [hc.out]; exact HU.out _ hjs
        · rw [hc.out, chAt_end (by omega)]; decide
      have HI := is_ident g c 0 wc a43
      rw [idr_zero h95] at HI
      have HD := is_decimal c wc
      clear h95
      have HT1 : Hid (TokEnd s j i0) := by rw [Hid, Hj0.out]; exact HT0.out
      rcases HT1.out with ⟨hjs, hi⟩ | ⟨hjs, hlet, hrun⟩ | ⟨hjs, hlet, hdig, b, hm, hx⟩ | ⟨hjs, h46, b, hm, hx⟩ | ⟨hjs, hp, hi⟩
      · have hcv : c = -1 := by rw [hc.out, hjs]; exact chAt_end (Nat.le_refl _)
        subst hcv
        rw [low_end.1] at HI
        rw [low_end.2] at HD
        have Hjs := Lib.hid hjs
        have Hi := Lib.hid hi
        clear hjs hi
        have HI' := Lib.hid HI
        have HD' := Lib.hid HD
        clear HI HD
        go_wp2_with fail
        refine HI'.out.mono ?_
        rintro e wx ⟨rfl, hwx⟩
        obtain rfl := hwx.symm
        go_wp2_with fail
        refine HD'.out.mono ?_
        rintro e wx ⟨rfl, hwx⟩
        obtain rfl := hwx.symm
        go_wp2_with fail
        have hLz : Hid (Look B g r s i0 (some j) wc) := by rw [Hid, Hi.out]; exact hL6.out
        have hFz : Hid (FX B g r w wc) := hF6.out
        obtain ⟨P7, E7, D7, tp7, C7, lc7, hk7⟩ := hLz.out.lk
        obtain ⟨z37, c37⟩ := (hFz.out.ls HL0.out).e37
        obtain ⟨z38, c38⟩ := (hFz.out.ls HL0.out).e38
        have q1 : wc.drew.cell? ⟨g, 1026, none⟩ = some (.int .i64 P7) := hk7.scn.cP
        have q2 : wc.drew.cell? ⟨g, 1032, none⟩ = some (.int .i64 (lc7 : Int)) := hk7.scn.clc
        have q3 : wc.drew.cell? ⟨g, 1037, none⟩ = some (.int .i64 z37) := c37
        have q4 : wc.drew.frozen? ⟨g, 1037, none⟩ = false := hk7.scn.fr 1037
        have q5 : wc.cell? ⟨g, 1037, none⟩ = some (.int .i64 z37) := c37
        have q6 : wc.frozen? ⟨g, 1037, none⟩ = false := hk7.scn.fr 1037
        have q7 : wc.cell? ⟨g, 1038, none⟩ = some (.int .i32 z38) := c38
        have q8 : wc.frozen? ⟨g, 1038, none⟩ = false := hk7.scn.fr 1038
        have hP7 := hk7.lcP
        have hl7 := hk7.scn.lim
        have hl8 := hk7.scn.le
        have hwr7 : IntKind.i64.wrap ((P7 : Int) - lc7) = (P7 : Int) - lc7 := by rw [IntKind.wrap_i64]; omega
        have HK7 := Lib.hid hk7
        clear hk7
        go_still_tail 12, (by kernel_rfl)
        go_wp2_with fail
        try rw [Exit.noGoto_ret]
        go_ret
        have hBz := hLz.out.blk.2.1
        have hsk := (hLz.out.sky.below ((Below.refl B wc).setCell (p := ⟨g, 1037, none⟩) hBz (.int .i64 ((P7 : Int) - lc7)))).below ((Below.refl B _).setCell (p := ⟨g, 1038, none⟩) hBz (.int .i32 (-1)))
        have HJ := Hj0.out
        subst HJ
        exact ⟨_, rfl, Or.inl ⟨rfl, Hjs.out⟩, ⟨P7, E7, D7, tp7, C7, lc7, ((HK7.out.setFree 1037 (by omega) _).setFree 1038 (by omega) _).drewN 1, by show ((wc.setCell ⟨g, 1037, none⟩ (.int .i64 ((P7 : Int) - lc7))).setCell ⟨g, 1038, none⟩ (.int .i32 (-1))).cell? _ = _; rw [cell_set_ne (by omega)]; exact cell_set_same c37, by show ((wc.setCell ⟨g, 1037, none⟩ (.int .i64 ((P7 : Int) - lc7))).setCell ⟨g, 1038, none⟩ (.int .i32 (-1))).cell? _ = _; rw [show (-1) = chAt s i0 from (by rw [Hi.out, Hjs.out]; exact (chAt_end (Nat.le_refl _)).symm)]; exact cell_set_same (by rw [cell_set_ne (by omega)]; exact c38), hsk.below (Below.drewN (Below.refl _ _) 1)⟩, ((hFz.out.set hBz 1037 (by omega) _).setCh hBz _).drewN 1⟩
      · rw [← hc.out] at hlet
        rw [hlet] at HI
        have Hrun := Lib.hid hrun
        have Hlet := Lib.hid hlet
        clear hrun hlet
        have HI' := Lib.hid HI
        have HD' := Lib.hid HD
        clear HI HD
        go_wp2_with fail
        refine HI'.out.mono ?_
        rintro e wx ⟨rfl, hwx⟩
        obtain rfl := hwx.symm
        go_wp2_with fail
        refine (scan_ident B g r s j (some j) wc HS.out hL6.out hjs a43).mono ?_
        rintro e w7 ⟨i', rfl, hRi, hL7, hN7⟩
        rw [hRi.unique Hrun.out] at hL7 ⊢
        obtain ⟨c7, hc7⟩ : ∃ c7, c7 = chAt s i0 := ⟨_, rfl⟩
        rw [← hc7]
        have Hc7 := Lib.hid hc7
        have HL7 := Lib.hid hL7
        have HN7 := Lib.hid hN7
        clear hc7 hL7 hN7 hRi
        go_wp2_with fail
        have hLz : Hid (Look B g r s i0 (some j) w7) := HL7.out
        have hFz : Hid (FX B g r w w7) := hF6.out.trans HN7.out.fx
        obtain ⟨P7, E7, D7, tp7, C7, lc7, hk7⟩ := hLz.out.lk
        obtain ⟨z37, c37⟩ := (hFz.out.ls HL0.out).e37
        obtain ⟨z38, c38⟩ := (hFz.out.ls HL0.out).e38
        have q1 : w7.drew.cell? ⟨g, 1026, none⟩ = some (.int .i64 P7) := hk7.scn.cP
        have q2 : w7.drew.cell? ⟨g, 1032, none⟩ = some (.int .i64 (lc7 : Int)) := hk7.scn.clc
        have q3 : w7.drew.cell? ⟨g, 1037, none⟩ = some (.int .i64 z37) := c37
        have q4 : w7.drew.frozen? ⟨g, 1037, none⟩ = false := hk7.scn.fr 1037
        have q5 : w7.cell? ⟨g, 1037, none⟩ = some (.int .i64 z37) := c37
        have q6 : w7.frozen? ⟨g, 1037, none⟩ = false := hk7.scn.fr 1037
        have q7 : w7.cell? ⟨g, 1038, none⟩ = some (.int .i32 z38) := c38
        have q8 : w7.frozen? ⟨g, 1038, none⟩ = false := hk7.scn.fr 1038
        have hP7 := hk7.lcP
        have hl7 := hk7.scn.lim
        have hl8 := hk7.scn.le
        have hwr7 : IntKind.i64.wrap ((P7 : Int) - lc7) = (P7 : Int) - lc7 := by rw [IntKind.wrap_i64]; omega
        have HK7 := Lib.hid hk7
        clear hk7
        go_still_tail 12, (by kernel_rfl)
        go_wp2_with fail
        try rw [Exit.noGoto_ret]
        go_ret
        have hBz := hLz.out.blk.2.1
        have hsk := (hLz.out.sky.below ((Below.refl B w7).setCell (p := ⟨g, 1037, none⟩) hBz (.int .i64 ((P7 : Int) - lc7)))).below ((Below.refl B _).setCell (p := ⟨g, 1038, none⟩) hBz (.int .i32 c7))
        have HJ := Hj0.out
        subst HJ
        exact ⟨_, rfl, Or.inr ⟨by decide, hjs⟩, ⟨P7, E7, D7, tp7, C7, lc7, ((HK7.out.setFree 1037 (by omega) _).setFree 1038 (by omega) _).drewN 1, by show ((w7.setCell ⟨g, 1037, none⟩ (.int .i64 ((P7 : Int) - lc7))).setCell ⟨g, 1038, none⟩ (.int .i32 c7)).cell? _ = _; rw [cell_set_ne (by omega)]; exact cell_set_same c37, by show ((w7.setCell ⟨g, 1037, none⟩ (.int .i64 ((P7 : Int) - lc7))).setCell ⟨g, 1038, none⟩ (.int .i32 c7)).cell? _ = _; rw [show c7 = chAt s i0 from Hc7.out]; exact cell_set_same (by rw [cell_set_ne (by omega)]; exact c38), hsk.below (Below.drewN (Below.refl _ _) 1)⟩, ((hFz.out.set hBz 1037 (by omega) _).setCh hBz _).drewN 1⟩
      · rw [← hc.out] at hlet hdig
        rw [hlet] at HI
        rw [hdig] at HD
        have Hm := Lib.hid hm
        have Hx := Lib.hid hx
        clear hm hx hlet hdig
        have HI' := Lib.hid HI
        have HD' := Lib.hid HD
        clear HI HD
        go_wp2_with fail
        refine HI'.out.mono ?_
        rintro e wx ⟨rfl, hwx⟩
        obtain rfl := hwx.symm
        go_wp2_with fail
        refine HD'.out.mono ?_
        rintro e wx ⟨rfl, hwx⟩
        obtain rfl := hwx.symm
        go_wp2_with fail
        have hsn := scan_number B g r s false j b i0 (some j) wc HS.out hL6.out HU.out Hm.out Hx.out a41
        rw [← hc.out] at hsn
        refine hsn.mono ?_
        rintro e w7 ⟨tok, htok, rfl, hL7, hN7⟩
        obtain ⟨c7, hc7⟩ : ∃ c7, c7 = chAt s i0 := ⟨_, rfl⟩
        rw [← hc7]
        have Hc7 := Lib.hid hc7
        have HL7 := Lib.hid hL7
        have HN7 := Lib.hid hN7
        have Htok := Lib.hid htok
        clear hc7 hL7 hN7 htok hsn
        go_wp2_with fail
        have hLz : Hid (Look B g r s i0 (some j) w7) := HL7.out
        have hFz : Hid (FX B g r w w7) := hF6.out.trans HN7.out.fx
        obtain ⟨P7, E7, D7, tp7, C7, lc7, hk7⟩ := hLz.out.lk
        obtain ⟨z37, c37⟩ := (hFz.out.ls HL0.out).e37
        obtain ⟨z38, c38⟩ := (hFz.out.ls HL0.out).e38
        have q1 : w7.drew.cell? ⟨g, 1026, none⟩ = some (.int .i64 P7) := hk7.scn.cP
        have q2 : w7.drew.cell? ⟨g, 1032, none⟩ = some (.int .i64 (lc7 : Int)) := hk7.scn.clc
        have q3 : w7.drew.cell? ⟨g, 1037, none⟩ = some (.int .i64 z37) := c37
        have q4 : w7.drew.frozen? ⟨g, 1037, none⟩ = false := hk7.scn.fr 1037
        have q5 : w7.cell? ⟨g, 1037, none⟩ = some (.int .i64 z37) := c37
        have q6 : w7.frozen? ⟨g, 1037, none⟩ = false := hk7.scn.fr 1037
        have q7 : w7.cell? ⟨g, 1038, none⟩ = some (.int .i32 z38) := c38
        have q8 : w7.frozen? ⟨g, 1038, none⟩ = false := hk7.scn.fr 1038
        have hP7 := hk7.lcP
        have hl7 := hk7.scn.lim
        have hl8 := hk7.scn.le
        have hwr7 : IntKind.i64.wrap ((P7 : Int) - lc7) = (P7 : Int) - lc7 := by rw [IntKind.wrap_i64]; omega
        have HK7 := Lib.hid hk7
        clear hk7
        go_still_tail 12, (by kernel_rfl)
        go_wp2_with fail
        try rw [Exit.noGoto_ret]
        go_ret
        have hBz := hLz.out.blk.2.1
        have hsk := (hLz.out.sky.below ((Below.refl B w7).setCell (p := ⟨g, 1037, none⟩) hBz (.int .i64 ((P7 : Int) - lc7)))).below ((Below.refl B _).setCell (p := ⟨g, 1038, none⟩) hBz (.int .i32 c7))
        have HJ := Hj0.out
        subst HJ
        exact ⟨_, rfl, Or.inr ⟨by have := Htok.out; omega, hjs⟩, ⟨P7, E7, D7, tp7, C7, lc7, ((HK7.out.setFree 1037 (by omega) _).setFree 1038 (by omega) _).drewN 1, by show ((w7.setCell ⟨g, 1037, none⟩ (.int .i64 ((P7 : Int) - lc7))).setCell ⟨g, 1038, none⟩ (.int .i32 c7)).cell? _ = _; rw [cell_set_ne (by omega)]; exact cell_set_same c37, by show ((w7.setCell ⟨g, 1037, none⟩ (.int .i64 ((P7 : Int) - lc7))).setCell ⟨g, 1038, none⟩ (.int .i32 c7)).cell? _ = _; rw [show c7 = chAt s i0 from Hc7.out]; exact cell_set_same (by rw [cell_set_ne (by omega)]; exact c38), hsk.below (Below.drewN (Below.refl _ _) 1)⟩, ((hFz.out.set hBz 1037 (by omega) _).setCh hBz _).drewN 1⟩
      · have hcv : c = 46 := by rw [hc.out]; exact h46
        subst hcv
        rw [show ltr 46 = false by decide] at HI
        rw [show dig 46 = false by decide] at HD
        have Hm := Lib.hid hm
        have Hx := Lib.hid hx
        have Hjs := Lib.hid hjs
        clear hm hx hjs h46
        have HI' := Lib.hid HI
        have HD' := Lib.hid HD
        clear HI HD
        go_wp2_with fail
        refine HI'.out.mono ?_
        rintro e wx ⟨rfl, hwx⟩
        obtain rfl := hwx.symm
        go_wp2_with fail
        refine HD'.out.mono ?_
        rintro e wx ⟨rfl, hwx⟩
        obtain rfl := hwx.symm
        go_wp2_with fail
        refine (next_look B g r s j (some j) wc HS.out hL6.out Hjs.out).mono ?_
        rintro e w6 ⟨rfl, hL8, hN8⟩
        obtain ⟨c8, hc8⟩ : ∃ c8, c8 = chAt s (j + 1) := ⟨_, rfl⟩
        rw [← hc8]
        have HD8 := is_decimal c8 w6
        have hd8 : dig c8 = true := by
          rw [hc8]
          rcases Hm.out with ⟨_, h1, h2⟩ | ⟨h1, _⟩
          · exact h1.all _ (Nat.le_refl _) h2
          · cases h1
        rw [hd8] at HD8
        have HD8' := Lib.hid HD8
        have Hc8 := Lib.hid hc8
        have HL8 := Lib.hid hL8
        have HN8 := Lib.hid hN8
        have e41 : w6.cell? ⟨g, 1041, none⟩ = some (.int .u64 28) := (hN8.free 1041 (by omega)).trans a41
        clear hc8 hL8 hN8 HD8 hd8
        go_wp2_with fail
        refine HD8'.out.mono ?_
        rintro e wx ⟨rfl, hwx⟩
        obtain rfl := hwx.symm
        go_wp2_with fail
        have hsn := scan_number B g r s true (j + 1) b i0 (some j) w6 HS.out HL8.out HU.out Hm.out Hx.out e41
        rw [← Hc8.out] at hsn
        refine hsn.mono ?_
        rintro e w7 ⟨tok, htok, rfl, hL7, hN7⟩
        obtain ⟨c7, hc7⟩ : ∃ c7, c7 = chAt s i0 := ⟨_, rfl⟩
        rw [← hc7]
        have Hc7 := Lib.hid hc7
        have HL7 := Lib.hid hL7
        have HN7 := Lib.hid hN7
        have Htok := Lib.hid htok
        clear hc7 hL7 hN7 htok hsn
        go_wp2_with fail
        have hLz : Hid (Look B g r s i0 (some j) w7) := HL7.out
        have hFz : Hid (FX B g r w w7) := hF6.out.trans (HN8.out.trans HN7.out).fx
        obtain ⟨P7, E7, D7, tp7, C7, lc7, hk7⟩ := hLz.out.lk
        obtain ⟨z37, c37⟩ := (hFz.out.ls HL0.out).e37
        obtain ⟨z38, c38⟩ := (hFz.out.ls HL0.out).e38
        have q1 : w7.drew.cell? ⟨g, 1026, none⟩ = some (.int .i64 P7) := hk7.scn.cP
        have q2 : w7.drew.cell? ⟨g, 1032, none⟩ = some (.int .i64 (lc7 : Int)) := hk7.scn.clc
        have q3 : w7.drew.cell? ⟨g, 1037, none⟩ = some (.int .i64 z37) := c37
        have q4 : w7.drew.frozen? ⟨g, 1037, none⟩ = false := hk7.scn.fr 1037
        have q5 : w7.cell? ⟨g, 1037, none⟩ = some (.int .i64 z37) := c37
        have q6 : w7.frozen? ⟨g, 1037, none⟩ = false := hk7.scn.fr 1037
        have q7 : w7.cell? ⟨g, 1038, none⟩ = some (.int .i32 z38) := c38
        have q8 : w7.frozen? ⟨g, 1038, none⟩ = false := hk7.scn.fr 1038
        have hP7 := hk7.lcP
        have hl7 := hk7.scn.lim
        have hl8 := hk7.scn.le
        have hwr7 : IntKind.i64.wrap ((P7 : Int) - lc7) = (P7 : Int) - lc7 := by rw [IntKind.wrap_i64]; omega
        have HK7 := Lib.hid hk7
        clear hk7
        go_still_tail 12, (by kernel_rfl)
        go_wp2_with fail
        try rw [Exit.noGoto_ret]
        go_ret
        have hBz := hLz.out.blk.2.1
        have hsk := (hLz.out.sky.below ((Below.refl B w7).setCell (p := ⟨g, 1037, none⟩) hBz (.int .i64 ((P7 : Int) - lc7)))).below ((Below.refl B _).setCell (p := ⟨g, 1038, none⟩) hBz (.int .i32 c7))
        have HJ := Hj0.out
        subst HJ
        exact ⟨_, rfl, Or.inr ⟨by have := Htok.out; omega, Hjs.out⟩, ⟨P7, E7, D7, tp7, C7, lc7, ((HK7.out.setFree 1037 (by omega) _).setFree 1038 (by omega) _).drewN 1, by show ((w7.setCell ⟨g, 1037, none⟩ (.int .i64 ((P7 : Int) - lc7))).setCell ⟨g, 1038, none⟩ (.int .i32 c7)).cell? _ = _; rw [cell_set_ne (by omega)]; exact cell_set_same c37, by show ((w7.setCell ⟨g, 1037, none⟩ (.int .i64 ((P7 : Int) - lc7))).setCell ⟨g, 1038, none⟩ (.int .i32 c7)).cell? _ = _; rw [show c7 = chAt s i0 from Hc7.out]; exact cell_set_same (by rw [cell_set_ne (by omega)]; exact c38), hsk.below (Below.drewN (Below.refl _ _) 1)⟩, ((hFz.out.set hBz 1037 (by omega) _).setCh hBz _).drewN 1⟩
      · have hcv : c = 40 ∨ c = 41 ∨ c = 44 ∨ c = 45 := by rw [hc.out]; exact hp
        have Hi := Lib.hid hi
        have Hjs := Lib.hid hjs
        clear hi hjs hp
        rcases hcv with rfl | rfl | rfl | rfl
        all_goals
          first
            | rw [show ltr 40 = false by decide] at HI
            | rw [show ltr 41 = false by decide] at HI
            | rw [show ltr 44 = false by decide] at HI
            | rw [show ltr 45 = false by decide] at HI
          first
            | rw [show dig 40 = false by decide] at HD
            | rw [show dig 41 = false by decide] at HD
            | rw [show dig 44 = false by decide] at HD
            | rw [show dig 45 = false by decide] at HD
          have HI' := Lib.hid HI
          have HD' := Lib.hid HD
          clear HI HD
          go_wp2_with fail
          refine HI'.out.mono ?_
          rintro e wx ⟨rfl, hwx⟩
          obtain rfl := hwx.symm
          go_wp2_with fail
          refine HD'.out.mono ?_
          rintro e wx ⟨rfl, hwx⟩
          obtain rfl := hwx.symm
          go_wp2_with fail
          refine (next_look B g r s j (some j) wc HS.out hL6.out Hjs.out).mono ?_
          rintro e w7 ⟨rfl, hL7, hN7⟩
          rw [← Hi.out] at hL7 ⊢
          obtain ⟨c7, hc7⟩ : ∃ c7, c7 = chAt s i0 := ⟨_, rfl⟩
          rw [← hc7]
          have Hc7 := Lib.hid hc7
          have HL7 := Lib.hid hL7
          have HN7 := Lib.hid hN7
          clear hc7 hL7 hN7
          go_wp2_with fail
          have hLz : Hid (Look B g r s i0 (some j) w7) := HL7.out
          have hFz : Hid (FX B g r w w7) := hF6.out.trans HN7.out.fx
          obtain ⟨P7, E7, D7, tp7, C7, lc7, hk7⟩ := hLz.out.lk
          obtain ⟨z37, c37⟩ := (hFz.out.ls HL0.out).e37
          obtain ⟨z38, c38⟩ := (hFz.out.ls HL0.out).e38
          have q1 : w7.drew.cell? ⟨g, 1026, none⟩ = some (.int .i64 P7) := hk7.scn.cP
          have q2 : w7.drew.cell? ⟨g, 1032, none⟩ = some (.int .i64 (lc7 : Int)) := hk7.scn.clc
          have q3 : w7.drew.cell? ⟨g, 1037, none⟩ = some (.int .i64 z37) := c37
          have q4 : w7.drew.frozen? ⟨g, 1037, none⟩ = false := hk7.scn.fr 1037
          have q5 : w7.cell? ⟨g, 1037, none⟩ = some (.int .i64 z37) := c37
          have q6 : w7.frozen? ⟨g, 1037, none⟩ = false := hk7.scn.fr 1037
          have q7 : w7.cell? ⟨g, 1038, none⟩ = some (.int .i32 z38) := c38
          have q8 : w7.frozen? ⟨g, 1038, none⟩ = false := hk7.scn.fr 1038
          have hP7 := hk7.lcP
          have hl7 := hk7.scn.lim
          have hl8 := hk7.scn.le
          have hwr7 : IntKind.i64.wrap ((P7 : Int) - lc7) = (P7 : Int) - lc7 := by rw [IntKind.wrap_i64]; omega
          have HK7 := Lib.hid hk7
          clear hk7
          go_still_tail 12, (by kernel_rfl)
          go_wp2_with fail
          try rw [Exit.noGoto_ret]
          go_ret
          have hBz := hLz.out.blk.2.1
          have hsk := (hLz.out.sky.below ((Below.refl B w7).setCell (p := ⟨g, 1037, none⟩) hBz (.int .i64 ((P7 : Int) - lc7)))).below ((Below.refl B _).setCell (p := ⟨g, 1038, none⟩) hBz (.int .i32 c7))
          have HJ := Hj0.out
          subst HJ
          exact ⟨_, rfl, Or.inr ⟨by decide, Hjs.out⟩, ⟨P7, E7, D7, tp7, C7, lc7, ((HK7.out.setFree 1037 (by omega) _).setFree 1038 (by omega) _).drewN 1, by show ((w7.setCell ⟨g, 1037, none⟩ (.int .i64 ((P7 : Int) - lc7))).setCell ⟨g, 1038, none⟩ (.int .i32 c7)).cell? _ = _; rw [cell_set_ne (by omega)]; exact cell_set_same c37, by show ((w7.setCell ⟨g, 1037, none⟩ (.int .i64 ((P7 : Int) - lc7))).setCell ⟨g, 1038, none⟩ (.int .i32 c7)).cell? _ = _; rw [show c7 = chAt s i0 from Hc7.out]; exact cell_set_same (by rw [cell_set_ne (by omega)]; exact c38), hsk.below (Below.drewN (Below.refl _ _) 1)⟩, ((hFz.out.set hBz 1037 (by omega) _).setCh hBz _).drewN 1⟩
end Go.Proofs.YthplmbgdcfmkgaaGreatDoor
/- The scanner's TokenText. -/
namespace Go.Proofs.YthplmbgdcfmkgaaGreatDoor
open Go.RowKit

/-- The bytes from j to i. -/
def sub (s : ByteArray) (j i : Nat) : ByteArray := ⟨((s.data.toList.drop j).take (i - j)).toArray⟩
theorem wsrc {B g r : Nat} {s : ByteArray} {P E D t u : Nat} {tp : Int} {C : List UInt8} {lc : Int} {w : World} (h : Scn B g r s P E D tp C lc w) (htu : t ≤ u) (hu : u ≤ E) :
    ((s.data.toList.drop (D + t)).take (u - t)).length = u - t ∧ ∀ j, j < u - t → ∃ h : j < ((s.data.toList.drop (D + t)).take (u - t)).length, w.cell? ⟨g, 1 + t + j, none⟩ = some (.int .u8 (((s.data.toList.drop (D + t)).take (u - t))[j]'h).toNat) := by
  have hl : s.data.toList.length = s.size := by simp
  have hf := h.fit
  refine ⟨by rw [List.length_take, List.length_drop]; omega, fun j hj => ?_⟩
  obtain ⟨h1, e1⟩ := h.buf (t + j) (by omega)
  obtain ⟨h2, e2⟩ := list_get s (D + t) (u - t) j (by omega) hj
  refine ⟨h2, ?_⟩
  rw [e2, show 1 + t + j = 1 + (t + j) by omega, e1]
  simp only [show D + (t + j) = D + t + j by omega]
theorem conv_win (w : World) (g o n cap : Nat) (l : List UInt8) (hn : l.length = n) (hc : ∀ j, j < n → ∃ h : j < l.length, w.cell? ⟨g, o + j, none⟩ = some (.int .u8 (l[j]'h).toNat)) :
    (convert 81 9 (.slice (some ⟨g, o, none⟩) n cap)).run Tryz.prog w = .ok (.string ⟨l.toArray⟩) w := by
  subst hn
  refine run_convert_bytes_back w 81 9 5 ⟨g, o, none⟩ cap l (by kernel_rfl) (by kernel_rfl) (by kernel_rfl) (fun j hj => ?_)
  obtain ⟨h, e⟩ := hc j hj
  have hplain : (⟨g, o, none⟩ : Addr).add j = ⟨g, o + j, none⟩ := by unfold Addr.add; split <;> simp_all
  rw [hplain]
  exact e

set_option maxHeartbeats 2000000 in
set_option maxRecDepth 100000 in
theorem token_text (B g r : Nat) (s : ByteArray) (j i : Nat) (w : World) (hs : Plain s) (h : Tkn B g r s j i w) (hji : j ≤ i) :
    Calls Tryz.prog 65 #[.pointer (some ⟨g, 0, none⟩)] w fun e w' => e = .returned (.string (sub s j i)) ∧ Look B g r s i (some j) w' ∧ w'.cell? ⟨g, 1038, none⟩ = some (.int .i32 (chAt s i)) ∧ FX B g r w w' := by
  obtain ⟨P, E, D, tp, C, lc, hk, c37, c38, hy⟩ := h
  have hss := hs.1
  have htk : TokAt s D tp C j := hk.tok
  obtain ⟨t, rfl⟩ : ∃ t : Nat, tp = (t : Int) := ⟨tp.toNat, by have := htk.1; omega⟩
  have hlP := hk.lcP
  obtain ⟨u, hu⟩ : ∃ u : Nat, u = P - lc := ⟨_, rfl⟩
  have hut : t ≤ u := by
    have := hk.scn.tpr.2
    rcases hk.lim with ⟨h1, h2, h3⟩ | ⟨h1, h2, h3, h4⟩ <;> omega
  have huE : u ≤ E := by have := hk.scn.le; omega
  have hE := hk.scn.lim
  have heq : D + u = i := by have := hk.eq; omega
  have htl : j + C.length = D + t := by have := htk.2.2; omega
  have hCe := htk.2.1
  rw [show (P : Int) - lc = (u : Int) by omega] at c37
  have k1 : w.cell? ⟨g, 1036, none⟩ = some (.int .i64 (t : Int)) := hk.scn.ctp
  have hlt : ¬ ((u : Int) < (t : Int)) := by omega
  have ht0 : ¬ ((t : Int) < 0) := by omega
  have hX := wsrc hk.scn hut huE
  obtain ⟨X, hXe⟩ : ∃ X, X = (s.data.toList.drop (D + t)).take (u - t) := ⟨_, rfl⟩
  rw [← hXe] at hX
  have hres : Hid ((⟨(C ++ X).toArray⟩ : ByteArray) = sub s j i) := by
    rw [Hid, sub]
    congr 1
    congr 1
    rw [hCe, hXe, ← htl, take_take_drop]
    congr 1
    have : u - t = i - (j + C.length) := by omega
    omega
  have HK := Lib.hid hk
  have HY := Lib.hid hy
  have HX := Lib.hid hX
  have HXe := Lib.hid hXe
  have HS := Lib.hid hs
  have hBw : Hid (B ≤ w.heap.size) := by have := hk.scn.hB; have := hk.scn.blk.lt; show B ≤ _; omega
  have hlen := Tryz.Buffer_Len_at 97 (fun i => w.cell? ⟨g, i, none⟩) B g 1033 (Lib.byteCells C)
  have HLen := Lib.hid hlen
  have hne := hk.scn.ne
  have Hu := Lib.hid hu
  have Htl := Lib.hid htl
  have Heq := Lib.hid heq
  have hCl3 := HK.out.cl
  clear hk hy hX hXe hCe htk hs hlen hu htl heq
  go_enter Tryz.func65, Tryz.ntmps65
  go_wp2_with fail
  go_quiet (fail)
  go_wp2_with fail
  obtain ⟨wq, hwq⟩ : ∃ wq, wq = w.drewN nq := ⟨_, rfl⟩
  rw [← hwq]
  have HKq : Hid (Lk B g r s i (some j) P E D (t : Int) C lc wq) := by rw [hwq]; exact HK.out.drewN nq
  have Hdq : Hid (Drew w wq) := ⟨nq, hwq⟩
  clear hwq
  refine (Tryz.Buffer_Len_at 97 (fun i => wq.cell? ⟨g, i, none⟩) B g 1033 (Lib.byteCells C) wq (HKq.out.scn.tb.buffer HKq.out.scn.blk HKq.out.scn.hB)).mono ?_
  rintro e wx ⟨rfl, nx, hwx⟩
  rw [Lib.byteCells_length]
  have HKx : Hid (Lk B g r s i (some j) P E D (t : Int) C lc wx) := by rw [hwx]; exact HKq.out.drewN nx
  have Hdx : Hid (Drew w wx) := by rw [hwx]; exact Hdq.out.drewN nx
  clear hwx HKq
  have k2 : wx.cell? ⟨g, 1036, none⟩ = some (.int .i64 (t : Int)) := by rw [Hdx.out.cell]; exact k1
  have k3 : wx.cell? ⟨g, 1037, none⟩ = some (.int .i64 (u : Int)) := by rw [Hdx.out.cell]; exact c37
  have c38x : Hid (wx.cell? ⟨g, 1038, none⟩ = some (.int .i32 (chAt s i))) := by rw [Hid, Hdx.out.cell]; exact c38
  have HYx : Hid (Sky B r wx) := HY.out.below (Hdx.out.below B)
  have HFx : Hid (FX B g r w wx) := by obtain ⟨q, hq⟩ := Hdx.out; rw [hq]; exact (FX.refl B g r w).drewN q
  have htu2 : (t : Int) ≤ (u : Int) := by omega
  have hu5 : (u : Int) ≤ 1025 := by omega
  have hu6 : u ≤ 1025 := by omega
  have hXx : Hid (∀ j', j' < u - t → ∃ h : j' < X.length, wx.cell? ⟨g, 1 + t + j', none⟩ = some (.int .u8 (X[j']'h).toNat)) := fun j' hj' => by
    obtain ⟨h1, h2⟩ := HX.out.2 j' hj'
    exact ⟨h1, by rw [Hdx.out.cell]; exact h2⟩
  clear k1 c37 c38
  by_cases hC : C.length = 0
  · have hC0 : ((C.length : Int) == 0) = true := by rw [beq_iff_eq]; omega
    have HC := Lib.hid hC
    clear hC
    have hcv : ∀ n, Sem.run Tryz.prog (convert 81 9 (.slice (some ⟨g, 1 + t, none⟩) (u - t) (1025 - t))) (wx.drewN n) = .ok (.string ⟨X.toArray⟩) (wx.drewN n) :=
      fun n => conv_win (wx.drewN n) g (1 + t) (u - t) (1025 - t) X HX.out.1 hXx.out
    go_wp2_with fail
    go_quiet (fail)
    go_wp2_with fail
    go_ret
    refine ⟨?_, (HKx.out.drewN nq).look (HYx.out.below (Below.drewN (Below.refl _ _) nq)), c38x.out, HFx.out.drewN nq⟩
    rw [← hres.out, List.eq_nil_of_length_eq_zero HC.out]
    rfl
  · have hC0 : ((C.length : Int) == 0) = false := by rw [beq_eq_false_iff_ne]; omega
    have HC := Lib.hid hC
    clear hC
    have q1 : wx.drew.cell? ⟨g, 1036, none⟩ = some (.int .i64 (t : Int)) := k2
    have q2 : wx.drew.cell? ⟨g, 1037, none⟩ = some (.int .i64 (u : Int)) := k3
    have HW := write_own (fun i => wx.drew.cell? ⟨g, i, none⟩) B g C X (1 + t) (u - t) (1025 - t) wx.drew ((HKx.out.drewN 1).scn.tb.buffer (HKx.out.drewN 1).scn.blk (HKx.out.drewN 1).scn.hB) (by have h1 := HKx.out.scn.hB; have h2 := HKx.out.scn.blk.lt; show B ≤ wx.heap.size; omega) HX.out.1 (by omega) (Or.inr (fun e => HC.out (by rw [e]; rfl))) hXx.out (by omega)
    have HHW := Lib.hid HW
    clear HW
    go_wp2_with fail
    go_still_tail 15, (by kernel_rfl)
    go_wp2_with fail
    refine HHW.out.mono ?_
    rintro e w3 ⟨rfl, hwp⟩
    obtain ⟨hS3, hN3⟩ := Scn.write (HKx.out.drewN 1).scn _ hwp
    have k5 : w3.cell? ⟨g, 1036, none⟩ = some (.int .i64 (t : Int)) := hS3.ctp
    have k6 : w3.cell? ⟨g, 1037, none⟩ = some (.int .i64 (u : Int)) := (hN3.free 1037 (by omega)).trans k3
    have k7 : w3.frozen? ⟨g, 1036, none⟩ = false := hS3.fr 1036
    have HS3 := Lib.hid hS3
    have HN3 := Lib.hid hN3
    clear hS3 hN3 hwp HHW q1 q2 k2 k3
    go_wp2_with fail
    obtain ⟨w4, hw4⟩ : ∃ w4, w4 = w3.setCell ⟨g, 1036, none⟩ (.int .i64 (u : Int)) := ⟨_, rfl⟩
    rw [← hw4]
    have huP : (u : Int) ≤ P := by have := Hu.out; omega
    have hS4 : Hid (Scn B g r s P E D (u : Int) (C ++ X) lc w4) := by rw [hw4]; exact HS3.out.setTp _ (by omega)
    have hF4 : Hid (FX B g r w w4) := by rw [hw4]; exact ((HFx.out.drewN 1).trans HN3.out.fx).set HS3.out.hB 1036 (by omega) _
    have c38y : Hid (w4.cell? ⟨g, 1038, none⟩ = some (.int .i32 (chAt s i))) := by rw [Hid, hw4, cell_set_ne (by omega)]; exact (HN3.out.free 1038 (by omega)).trans c38x.out
    have hbel : Hid (Below B w w4) := hF4.out.below
    clear hw4 k5 k6 k7
    refine (Tryz.Buffer_String_at 97 (fun i => w4.cell? ⟨g, i, none⟩) B g 1033 (C ++ X) w4 (hS4.out.tb.buffer hS4.out.blk hS4.out.hB)).mono ?_
    rintro e w5 ⟨rfl, n5, hw5⟩
    have hsz : (C ++ X).length = i - j := by
      rw [List.length_append, HX.out.1]
      have h1 := Htl.out
      have h2 := Heq.out
      omega
    have hLk : Hid (Lk B g r s i (some j) P E D (u : Int) (C ++ X) lc w5) := by
      rw [hw5]
      have htok4 : TokAt s D (u : Int) (C ++ X) j := by
        refine ⟨by omega, ?_, ?_⟩
        · have h1 := congrArg (fun b : ByteArray => b.data.toList) hres.out
          rw [hsz]
          exact h1
        · rw [hsz]
          have h2 := Heq.out
          omega
      refine Lk.drewN (ot := some j) ⟨hS4.out, HKx.out.eq, hlP, ?_, htok4, ?_⟩ n5
      · rw [hsz]; have h2 := Heq.out; have := HKx.out.scn.fit; omega
      · rcases HKx.out.lim with ⟨h1, h2, h3⟩ | h1
        · exact Or.inl ⟨h1, h2, by have := Hu.out; omega⟩
        · exact Or.inr h1
    have hF5 : Hid (FX B g r w w5) := by rw [hw5]; exact hF4.out.drewN n5
    have c38z : Hid (w5.cell? ⟨g, 1038, none⟩ = some (.int .i32 (chAt s i))) := by rw [hw5]; exact c38y.out
    clear hw5 hS4
    go_wp2_with fail
    go_ret
    exact ⟨by rw [← hres.out]; rfl, hLk.out.look (HY.out.below hF5.out.below), c38z.out, hF5.out⟩
end Go.Proofs.YthplmbgdcfmkgaaGreatDoor
