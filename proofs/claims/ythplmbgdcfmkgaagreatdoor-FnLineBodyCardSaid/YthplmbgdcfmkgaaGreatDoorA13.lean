/- The scanner: the next character, identifiers. -/
import Derived.Test.YthplmbgdcfmkgaaGreatDoorA11
import Derived.Test.YthplmbgdcfmkgaaGreatDoorA12
set_option linter.unusedVariables false
set_option linter.unusedSimpArgs false
/- The scanner's next, put into one contract over the place in the source. -/
namespace Go.Proofs.YthplmbgdcfmkgaaGreatDoor
open Go.RowKit

/-- The token that is being read, if one is. -/
def TokO (s : ByteArray) (D : Nat) (tp : Int) (C : List UInt8) : Option Nat → Prop
  | none => tp = -1
  | some ts => TokAt s D tp C ts
theorem TokO.rel {s : ByteArray} {D tp C D' tp' C' ot} (h : TokO s D tp C ot) (k : TokRel s D tp C D' tp' C') : TokO s D' tp' C' ot := by
  cases ot with
  | none =>
    rcases k with ⟨_, h2, _⟩ | ⟨h1, _⟩
    · exact h2
    · have h' : tp = -1 := h
      omega
  | some ts =>
    rcases k with ⟨h1, _, _⟩ | ⟨_, h2⟩
    · have := h.1
      omega
    · exact h2 ts h
theorem tok_len {s : ByteArray} {D tp C D' tp' C'} (k : TokRel s D tp C D' tp' C') (ot : Option Nat) (h : TokO s D tp C ot) (hC : C.length ≤ 3000) (hs : D' + tp'.toNat ≤ 3000) : C'.length ≤ 3000 := by
  cases ot with
  | none =>
    rcases k with ⟨_, _, h3⟩ | ⟨h1, _⟩
    · rw [h3]; exact hC
    · have h' : tp = -1 := h
      omega
  | some ts =>
    rcases k with ⟨h1, _, _⟩ | ⟨_, h2⟩
    · have := h.1
      omega
    · have h3 := (h2 ts h).2.2
      omega

/-- The tables that next() reads, and where the memory begins that it may turn. -/
structure Sky (B r : Nat) (w : World) : Prop where
  br : B ≤ r
  first : FirstAt B w
  eof : EofAt B w
theorem Sky.below {B r w w'} (h : Sky B r w) (k : Below B w w') : Sky B r w' := ⟨h.br, h.first.below k, h.eof.below k⟩
/-- k bytes are read. -/
def Rdy (B g r : Nat) (s : ByteArray) (k : Nat) (lc : Int) (ot : Option Nat) (w : World) : Prop :=
  ∃ P E D tp C, Scn B g r s P E D tp C lc w ∧ D + P = k ∧ tp < P ∧ lc ≤ P ∧ C.length ≤ 3000 ∧ TokO s D tp C ot
/-- All bytes are read, and the end behind them. -/
def Fin (B g r : Nat) (s : ByteArray) (ot : Option Nat) (w : World) : Prop :=
  ∃ tp C, Scn B g r s 0 0 s.size tp C 0 w ∧ C.length ≤ 3000 ∧ TokO s s.size tp C ot
/-- The byte number k, or -1 at the end. -/
def chAt (s : ByteArray) (k : Nat) : Int := if h : k < s.size then ((s[k]'h).toNat : Int) else -1
theorem chAt_lt {s : ByteArray} {k : Nat} (h : k < s.size) : chAt s k = ((s[k]'h).toNat : Int) := by rw [chAt, dif_pos h]
theorem chAt_end {s : ByteArray} {k : Nat} (h : s.size ≤ k) : chAt s k = -1 := by rw [chAt, dif_neg (by omega)]
theorem chAt_range {s : ByteArray} (hs : Plain s) (k : Nat) : (chAt s k = -1 ∧ s.size ≤ k) ∨ (0 < chAt s k ∧ chAt s k < 128 ∧ k < s.size) := by
  by_cases h : k < s.size
  · have := hs.2 k h
    rw [chAt_lt h]
    exact Or.inr ⟨by omega, by omega, h⟩
  · exact Or.inl ⟨chAt_end (by omega), by omega⟩
/-- The byte number k is looked at. -/
structure Look (B g r : Nat) (s : ByteArray) (k : Nat) (ot : Option Nat) (w : World) : Prop where
  at' : (k < s.size ∧ Rdy B g r s (k + 1) 1 ot w) ∨ (k = s.size ∧ Fin B g r s ot w)
  sky : Sky B r w

theorem next_any (B g r : Nat) (s : ByteArray) (k : Nat) (lc : Int) (ot : Option Nat) (w : World) (hs : Plain s) (h : Rdy B g r s k lc ot w) (hy : Sky B r w) :
    Calls Tryz.prog 70 #[.pointer (some ⟨g, 0, none⟩)] w fun e w' => e = .returned (.int .i32 (chAt s k)) ∧ Look B g r s k ot w' ∧ NX B g r w w' := by
  obtain ⟨P, E, D, tp, C, hS, hk, htp, hlp, hC, ho⟩ := h
  by_cases hPE : P < E
  · refine (next_fast B g r s P E D tp C lc w hs hS hPE).mono ?_
    rintro e w' ⟨hk', he, hS', hN⟩
    subst hk
    exact ⟨by rw [he, chAt_lt hk'], ⟨Or.inl ⟨hk', _, _, _, _, _, hS', by omega, by omega, by omega, hC, ho⟩, hy.below hN.below⟩, hN⟩
  · have hle := hS.le
    obtain rfl : P = E := by omega
    refine (next_slow B g r s P D tp C lc w hs hS hy.br (by have := hS.hB; have := hS.blk.lt; omega) htp hC hy.first hy.eof).mono ?_
    rintro e w' (⟨hk', he, P', E', D', tp', C', hS', hk2, ht2, ht3, hT, hN⟩ | ⟨hk', he, tp', C', hS', hT, hN⟩)
    · subst hk
      have := hS'.fit
      have := hS'.le
      have := hs.1
      exact ⟨by rw [he, chAt_lt hk'], ⟨Or.inl ⟨hk', _, _, _, _, _, hS', by omega, ht2, by omega, tok_len hT ot ho hC (by omega), ho.rel hT⟩, hy.below hN.below⟩, hN⟩
    · subst hk
      have := hS'.tpr
      have := hs.1
      exact ⟨by rw [he, chAt_end (by omega)], ⟨Or.inr ⟨hk', _, _, hS', tok_len hT ot ho hC (by omega), ho.rel hT⟩, hy.below hN.below⟩, hN⟩
theorem next_look (B g r : Nat) (s : ByteArray) (k : Nat) (ot : Option Nat) (w : World) (hs : Plain s) (h : Look B g r s k ot w) (hk : k < s.size) :
    Calls Tryz.prog 70 #[.pointer (some ⟨g, 0, none⟩)] w fun e w' => e = .returned (.int .i32 (chAt s (k + 1))) ∧ Look B g r s (k + 1) ot w' ∧ NX B g r w w' := by
  rcases h.at' with ⟨_, hR⟩ | ⟨h1, _⟩
  · exact next_any B g r s (k + 1) 1 ot w hs hR h.sky
  · omega
theorem Look.le {B g r s k ot w} (h : Look B g r s k ot w) : k ≤ s.size := by
  rcases h.at' with ⟨h1, _⟩ | ⟨h1, _⟩ <;> omega
theorem Look.drewN {B g r s k ot w} (h : Look B g r s k ot w) (n : Nat) : Look B g r s k ot (w.drewN n) := by
  obtain ⟨h1, h2⟩ := h
  refine ⟨?_, h2.below (Below.drewN (Below.refl _ _) n)⟩
  rcases h1 with ⟨h1, P, E, D, tp, C, hS, h3⟩ | ⟨h1, tp, C, hS, h3⟩
  · exact Or.inl ⟨h1, P, E, D, tp, C, hS.drewN n, h3⟩
  · exact Or.inr ⟨h1, tp, C, hS.drewN n, h3⟩
theorem Look.drew' {B g r s k ot w w'} (h : Look B g r s k ot w) (d : Drew w w') : Look B g r s k ot w' := by
  obtain ⟨n, rfl⟩ := d
  exact h.drewN n
/-- The scanner's block. -/
theorem Look.blk {B g r s k ot w} (h : Look B g r s k ot w) : Blk g w ∧ B ≤ g ∧ r ≠ g := by
  rcases h.at' with ⟨_, _, _, _, _, _, hS, _⟩ | ⟨_, _, _, hS, _⟩
  · exact ⟨hS.blk, hS.hB, hS.ne⟩
  · exact ⟨hS.blk, hS.hB, hS.ne⟩
theorem Look.setFree {B g r s k ot w} (h : Look B g r s k ot w) (i : Nat) (hi : 1037 ≤ i) (v : Value) : Look B g r s k ot (w.setCell ⟨g, i, none⟩ v) := by
  have hB := h.blk.2.1
  obtain ⟨h1, h2⟩ := h
  refine ⟨?_, h2.below ((Below.refl B w).setCell (p := ⟨g, i, none⟩) hB v)⟩
  rcases h1 with ⟨h1, P, E, D, tp, C, hS, h3⟩ | ⟨h1, tp, C, hS, h3⟩
  · exact Or.inl ⟨h1, P, E, D, tp, C, hS.setFree i hi v, h3⟩
  · exact Or.inr ⟨h1, tp, C, hS.setFree i hi v, h3⟩
end Go.Proofs.YthplmbgdcfmkgaaGreatDoor
/- The scanner's loops over letters and digits. -/
namespace Go.Proofs.YthplmbgdcfmkgaaGreatDoor
open Go.RowKit

/-- The bytes from k to i have p, and the next one has not. -/
structure Run (p : Int → Bool) (s : ByteArray) (k i : Nat) : Prop where
  le : k ≤ i
  fit : i ≤ s.size
  all : ∀ t, k ≤ t → t < i → p (chAt s t) = true
  stop : i < s.size → p (chAt s i) = false
theorem Run.unique {p s k i j} (h : Run p s k i) (h' : Run p s k j) : i = j := by
  rcases Nat.lt_trichotomy i j with hl | hl | hl
  · have := h.stop (by have := h'.fit; omega)
    rw [h'.all i h.le hl] at this
    cases this
  · exact hl
  · have := h'.stop (by have := h.fit; omega)
    rw [h.all j h'.le hl] at this
    cases this
def idc (c : Int) : Bool := idr c 1
theorem idr_pos (c m : Int) (h : 0 < m) : idr c m = idc c := by
  rw [idc, idr, idr, decide_eq_true h, decide_eq_true (by omega : (0 : Int) < 1)]
theorem idr_end (m : Int) : idr (-1) m = false := by
  rw [idr, low_end.1, low_end.2]; rfl

set_option maxHeartbeats 1000000 in
set_option maxRecDepth 100000 in
theorem scan_ident (B g r : Nat) (s : ByteArray) (k : Nat) (ot : Option Nat) (w : World) (hs : Plain s) (h : Look B g r s k ot w) (hk : k < s.size) (hI : w.cell? ⟨g, 1043, none⟩ = some .nilFunc) :
    Calls Tryz.prog 73 #[.pointer (some ⟨g, 0, none⟩)] w fun e w' => ∃ i, e = .returned (.int .i32 (chAt s i)) ∧ Run idc s (k + 1) i ∧ Look B g r s i ot w' ∧ NX B g r w w' := by
  have hs3 := hs.1
  have HS := Lib.hid hs
  have HL := Lib.hid h
  clear h hs
  go_enter Tryz.func73, Tryz.ntmps73
  go_wp2_with fail
  refine (next_look B g r s k ot w HS.out HL.out hk).mono ?_
  rintro e w1 ⟨rfl, hL1, hN1⟩
  have HL1 := Lib.hid hL1
  have HN1 := Lib.hid hN1
  clear hL1 hN1
  go_wp2_with fail
  go_loopg [3, 4] (s.size - (k + 1)) (fun q ch i wr => ∃ (j m : Nat) (c : Int), k + 1 ≤ j ∧ j ≤ s.size ∧ q + j = s.size ∧ ch = .int .i32 c ∧ Hid (c = chAt s j) ∧ i = .int .i64 (m : Int) ∧ m + k = j ∧ Hid (∀ t, k + 1 ≤ t → t < j → idc (chAt s t) = true) ∧ Hid (Look B g r s j ot wr) ∧ Hid (NX B g r w wr))
  case atStart => exact ⟨k + 1, 1, _, Nat.le_refl _, hk, by omega, rfl, rfl, rfl, by omega, fun t h1 h2 => by omega, HL1, HN1⟩
  case round =>
    obtain ⟨j, m, c, hj1, hj2, hq, rfl, hc, rfl, hm, hall, hL, hN⟩ := hrel
    have hIj : wr.cell? ⟨g, 1043, none⟩ = some .nilFunc := (hN.out.free 1043 (by omega)).trans hI
    have HC := is_ident g c m wr hIj
    have hm0 : (0 : Int) < (m : Int) := by omega
    rw [idr_pos c m hm0] at HC
    obtain ⟨b, hb⟩ : ∃ b, idc c = b := ⟨_, rfl⟩
    rw [hb] at HC
    have HCh := Lib.hid HC
    have Hb := Lib.hid hb
    clear HC hb
    go_wp2_with fail
    refine HCh.out.mono ?_
    rintro e w2 ⟨rfl, hw2⟩
    obtain rfl := hw2.symm
    cases b with
    | true =>
      have hjs : j < s.size := by
        rcases Nat.lt_or_ge j s.size with hlt | hge
        · exact hlt
        · exfalso
          have h1 := Hb.out
          rw [hc.out, chAt_end hge, idc, idr_end] at h1
          cases h1
      go_wp2_with fail
      refine (next_look B g r s j ot wr HS.out hL.out hjs).mono ?_
      rintro e w2 ⟨rfl, hL2, hN2⟩
      have HL2 := Lib.hid hL2
      have HN2 := Lib.hid hN2
      clear hL2 hN2
      go_wp2_with fail
      go_roundg (gk - 1)
      case measure => omega
      case rel =>
        refine ⟨j + 1, m + 1, _, by omega, hjs, by omega, rfl, rfl, by go_num, by omega, fun t h1 h2 => ?_, HL2, hN.out.trans HN2.out⟩
        by_cases ht : t = j
        · subst ht; rw [← hc.out]; exact Hb.out
        · exact hall.out t h1 (by omega)
    | false =>
      go_wp2_with fail
      go_ret
      exact ⟨j, by rw [← hc.out]; rfl, ⟨hj1, hj2, hall.out, fun _ => by rw [← hc.out]; exact Hb.out⟩, hL.out, hN.out⟩

theorem dig_le {c : Int} (h : dig c = true) : 48 ≤ c ∧ c ≤ 57 := by
  rw [dig, Bool.and_eq_true, decide_eq_true_eq, decide_eq_true_eq] at h
  exact h
set_option maxHeartbeats 1000000 in
set_option maxRecDepth 100000 in
/-- digits, base ten. -/
theorem digits_ten (B g r : Nat) (s : ByteArray) (k : Nat) (ot : Option Nat) (inv : Value) (w : World) (hs : Plain s) (h : Look B g r s k ot w) (hu : ∀ t, t < s.size → chAt s t ≠ 95) :
    Calls Tryz.prog 90 #[.pointer (some ⟨g, 0, none⟩), .int .i32 (chAt s k), .int .i64 10, inv] w fun e w' => ∃ (i : Nat) (d : Int), e = .returned (.tuple #[.int .i32 (chAt s i), .int .i64 d]) ∧ ((i = k ∧ d = 0) ∨ (k < i ∧ d = 1)) ∧ Run dig s k i ∧ Look B g r s i ot w' ∧ NX B g r w w' := by
  have hs3 := hs.1
  have HS := Lib.hid hs
  have HL := Lib.hid h
  have HU := Lib.hid hu
  have hle := h.le
  clear h hs hu
  have hor1 : bits .or .i64 0 1 = 1 := by decide
  have hor2 : bits .or .i64 1 1 = 1 := by decide
  obtain ⟨c0, hc0⟩ : ∃ c, c = chAt s k := ⟨_, rfl⟩
  rw [← hc0]
  have Hc0 := Lib.hid hc0
  clear hc0
  go_enter Tryz.func90, Tryz.ntmps90
  go_wp2_with fail
  go_loopg [8, 9, 11] (s.size - k) (fun q ch ds u11 wr => ∃ (j : Nat) (d c : Int), k ≤ j ∧ j ≤ s.size ∧ q + j = s.size ∧ ch = .int .i32 c ∧ Hid (c = chAt s j) ∧ ds = .int .i64 d ∧ ((j = k ∧ d = 0) ∨ (k < j ∧ d = 1)) ∧ Hid (∀ t, k ≤ t → t < j → dig (chAt s t) = true) ∧ Hid (Look B g r s j ot wr) ∧ Hid (NX B g r w wr))
  case atStart => exact ⟨k, 0, _, Nat.le_refl _, hle, by omega, rfl, Hc0, rfl, Or.inl ⟨rfl, rfl⟩, fun t h1 h2 => by omega, HL, NX.refl _ _ _ _⟩
  case round =>
    obtain ⟨j, d, c, hj1, hj2, hq, rfl, hc, rfl, hd, hall, hL, hN⟩ := hrel
    have HC := is_decimal c wr
    obtain ⟨b, hb⟩ : ∃ b, dig c = b := ⟨_, rfl⟩
    rw [hb] at HC
    have HCh := Lib.hid HC
    have Hb := Lib.hid hb
    clear HC hb
    have h95 : (c == 95) = false := by
      rw [beq_eq_false_iff_ne, hc.out]
      by_cases hjs : j < s.size
      · exact HU.out j hjs
      · rw [chAt_end (by omega)]; decide
    go_wp2_with fail
    refine HCh.out.mono ?_
    rintro e w2 ⟨rfl, hw2⟩
    obtain rfl := hw2.symm
    cases b with
    | true =>
      have hjs : j < s.size := by
        rcases Nat.lt_or_ge j s.size with hlt | hge
        · exact hlt
        · exfalso
          have h1 := Hb.out
          rw [hc.out, chAt_end hge, low_end.2] at h1
          cases h1
      have hr := dig_le Hb.out
      have hlt58 : ¬ (58 : Int) ≤ c := by omega
      rcases hd with ⟨hd1, rfl⟩ | ⟨hd1, rfl⟩
      · have Hd1 := Lib.hid hd1
        clear hd1
        go_wp2_with fail
        refine (next_look B g r s j ot wr HS.out hL.out hjs).mono ?_
        rintro e w2 ⟨rfl, hL2, hN2⟩
        have HL2 := Lib.hid hL2
        have HN2 := Lib.hid hN2
        clear hL2 hN2
        go_wp2_with fail
        go_roundg (gk - 1)
        case measure => omega
        case rel =>
          refine ⟨j + 1, 1, _, by omega, hjs, by omega, rfl, rfl, by first | rfl | (rw [hor1]), Or.inr ⟨by omega, rfl⟩, fun t h1 h2 => ?_, HL2, hN.out.trans HN2.out⟩
          by_cases ht : t = j
          · subst ht; rw [← hc.out]; exact Hb.out
          · exact hall.out t h1 (by omega)
      · go_wp2_with fail
        refine (next_look B g r s j ot wr HS.out hL.out hjs).mono ?_
        rintro e w2 ⟨rfl, hL2, hN2⟩
        have HL2 := Lib.hid hL2
        have HN2 := Lib.hid hN2
        clear hL2 hN2
        go_wp2_with fail
        go_roundg (gk - 1)
        case measure => omega
        case rel =>
          refine ⟨j + 1, 1, _, by omega, hjs, by omega, rfl, rfl, by first | rfl | (rw [hor2]), Or.inr ⟨by omega, rfl⟩, fun t h1 h2 => ?_, HL2, hN.out.trans HN2.out⟩
          by_cases ht : t = j
          · subst ht; rw [← hc.out]; exact Hb.out
          · exact hall.out t h1 (by omega)
    | false =>
      go_wp2_with fail
      go_ret2
      exact ⟨j, d, by rw [← hc.out]; rfl, hd, ⟨hj1, hj2, hall.out, fun _ => by rw [← hc.out]; exact Hb.out⟩, hL.out, hN.out⟩
end Go.Proofs.YthplmbgdcfmkgaaGreatDoor
/- The scanner's token buffer is emptied; Peek; digits in base eight. -/
namespace Go.Proofs.YthplmbgdcfmkgaaGreatDoor
open Go.RowKit

set_option maxRecDepth 100000 in
theorem reset_own (B g : Nat) (C : List UInt8) (w : World) (h : TBuf B g C w) (hb : Blk g w) :
    Calls Tryz.prog 71 #[.pointer (some ⟨g, 1033, none⟩)] w fun e w' => e = .returned (.tuple #[]) ∧ ∃ v n, w' = (((w.setCell ⟨g, 1033, none⟩ v).setCell ⟨g, 1034, none⟩ (.int .i64 0)).setCell ⟨g, 1035, none⟩ (.int .i8 0)).drewN n ∧ TBuf B g [] w' := by
  obtain ⟨v, lr, h0, h1, h2, h3, h4⟩ := h
  have f33 := hb.fr 1033
  have f34 := hb.fr 1034
  have f35 := hb.fr 1035
  have c0 := h0
  have c1 := h1
  have c2 := h2
  rcases h3.2 with ⟨rfl, hn⟩ | ⟨q, cap, cur, rfl, hbq, hq, hncap, hcapm, hcs, htk⟩
  · have H0 := Lib.hid h0
    have H1 := Lib.hid h1
    have H2 := Lib.hid h2
    clear h1 h2 h3 h4 c0
    go_enter Tryz.func71, Tryz.ntmps71
    go_wp2_with fail
    go_end0
    refine ⟨rfl, .slice none 0 0, 0, rfl, .slice none 0 0, 0, ?_, ?_, ?_, ⟨rfl, Or.inl ⟨rfl, rfl⟩⟩, by simp [Value.ownBlock]⟩
    · rw [cell_set_ne (by omega), cell_set_ne (by omega)]; exact cell_set_same H0.out
    · rw [cell_set_ne (by omega)]; exact cell_set_same (by rw [cell_set_ne (by omega)]; exact H1.out)
    · exact cell_set_same (by rw [cell_set_ne (by omega), cell_set_ne (by omega)]; exact H2.out)
  · have H0 := Lib.hid h0
    have H1 := Lib.hid h1
    have H2 := Lib.hid h2
    have H4 := Lib.hid h4
    have HQ := Lib.hid hq
    have HC := Lib.hid hcs
    clear h1 h2 h3 h4 c0 hq htk hcs
    go_enter Tryz.func71, Tryz.ntmps71
    go_wp2_with fail
    go_end0
    have hqg : q ≠ g := fun e => H4.out (by rw [← e]; rfl)
    refine ⟨rfl, .slice (some ⟨q, 0, none⟩) 0 cap, 0, rfl, .slice (some ⟨q, 0, none⟩) 0 cap, 0, ?_, ?_, ?_, ⟨rfl, Or.inr ⟨q, cap, cur, rfl, hbq, ?_, Nat.zero_le _, hcapm, HC.out, by simp [Lib.byteCells]⟩⟩, fun e => hqg (Option.some.inj e)⟩
    · rw [cell_set_ne (by omega), cell_set_ne (by omega)]; exact cell_set_same H0.out
    · rw [cell_set_ne (by omega)]; exact cell_set_same (by rw [cell_set_ne (by omega)]; exact H1.out)
    · exact cell_set_same (by rw [cell_set_ne (by omega), cell_set_ne (by omega)]; exact H2.out)
    · rw [Below.heap_setCell _ _ _ _ hqg, Below.heap_setCell _ _ _ _ hqg, Below.heap_setCell _ _ _ _ hqg]; exact HQ.out
/-- The token's buffer alone has turned. -/
theorem Scn.reset {B g r s P E D tp C lc w} (h : Scn B g r s P E D tp C lc w) {v : Value} {n : Nat} {w' : World} (hw : w' = (((w.setCell ⟨g, 1033, none⟩ v).setCell ⟨g, 1034, none⟩ (.int .i64 0)).setCell ⟨g, 1035, none⟩ (.int .i8 0)).drewN n) (ht : TBuf B g [] w') :
    Scn B g r s P E D tp [] lc w' ∧ NX B g r w w' := by
  have o : ∀ i, (i < 1033 ∨ 1036 ≤ i) → w'.cell? ⟨g, i, none⟩ = w.cell? ⟨g, i, none⟩ := fun i hi => by
    rw [hw]
    show (((w.setCell ⟨g, 1033, none⟩ v).setCell ⟨g, 1034, none⟩ (.int .i64 0)).setCell ⟨g, 1035, none⟩ (.int .i8 0)).cell? _ = _
    rw [cell_set_ne (by omega), cell_set_ne (by omega), cell_set_ne (by omega)]
  have hne := h.ne
  have hr : w'.heap[r]? = w.heap[r]? := by
    rw [hw]
    show (((w.setCell ⟨g, 1033, none⟩ v).setCell ⟨g, 1034, none⟩ (.int .i64 0)).setCell ⟨g, 1035, none⟩ (.int .i8 0)).heap[r]? = _
    rw [Below.heap_setCell _ _ _ _ hne, Below.heap_setCell _ _ _ _ hne, Below.heap_setCell _ _ _ _ hne]
  have hb : Blk g w' := by rw [hw]; exact (((h.blk.set _ _ _).set _ _ _).set _ _ _).drewN n
  have hl := h.lim
  obtain ⟨cs, hc⟩ := h.rtag
  refine ⟨⟨h.le, h.lim, h.fit, h.lcr, h.tpr, hb, h.hB, hne, by rw [o _ (by omega)]; exact h.src, fun j hj => by rw [o _ (by omega)]; exact h.buf j hj, fun j hj => by rw [o _ (by omega)]; exact h.all j hj, by rw [o _ (by omega)]; exact h.sent,
    by rw [o _ (by omega)]; exact h.cP, by rw [o _ (by omega)]; exact h.cE, by rw [o _ (by omega)]; exact h.cD, by rw [o _ (by omega)]; exact h.cl, by rw [o _ (by omega)]; exact h.cc, by rw [o _ (by omega)]; exact h.cll, by rw [o _ (by omega)]; exact h.clc, ht,
    by rw [o _ (by omega)]; exact h.ctp, by rw [cell_of_block' hr]; exact h.rs, by rw [cell_of_block' hr]; exact h.ri, by rw [cell_of_block' hr]; exact h.rp, fun p => by rw [frozen_of_block' hr]; exact h.rfr p, ⟨cs, hr.trans hc⟩⟩, ?_⟩
  rw [hw]
  exact ((((NX.refl B g r w).setCell h.hB 1033 (by omega) _).setCell h.hB 1034 (by omega) _).setCell h.hB 1035 (by omega) _).drewN n

/-- Besides what NX allows, block b may have turned. -/
structure DX (B g r b : Nat) (w w' : World) : Prop where
  below : Below B w w'
  ko : ∀ k o, w.heap[k]? = some o → k ≠ g → k ≠ r → k ≠ b → (∀ c fz, o ≠ .cells c 5 fz) → w'.heap[k]? = some o
  free : ∀ i, 1037 ≤ i → w'.cell? ⟨g, i, none⟩ = w.cell? ⟨g, i, none⟩
theorem NX.dx {B g r w w'} (h : NX B g r w w') (b : Nat) : DX B g r b w w' := ⟨h.below, fun k o h1 h2 h3 _ h5 => h.ko k o h1 h2 h3 h5, h.free⟩
theorem DX.refl (B g r b : Nat) (w : World) : DX B g r b w w := (NX.refl B g r w).dx b
theorem DX.trans {B g r x a b c} (h : DX B g r x a b) (k : DX B g r x b c) : DX B g r x a c :=
  ⟨h.below.trans k.below, fun i o h1 h2 h3 h4 h5 => k.ko i o (h.ko i o h1 h2 h3 h4 h5) h2 h3 h4 h5, fun i hi => (k.free i hi).trans (h.free i hi)⟩
theorem DX.setInv {B g r b a w} (h : DX B g r b a w) (hB : B ≤ b) (hb : b ≠ g) (v : Value) : DX B g r b a (w.setCell ⟨b, 0, none⟩ v) :=
  ⟨h.below.setCell (p := ⟨b, 0, none⟩) hB v, fun k o h1 h2 h3 h4 h5 => by rw [Below.heap_setCell _ _ _ _ h4]; exact h.ko k o h1 h2 h3 h4 h5, fun j hj => by rw [cell_other (Ne.symm hb)]; exact h.free j hj⟩
/-- The cell for the first digit that doesn't fit. -/
def Inv (b : Nat) (w : World) : Prop := ∃ z, w.heap[b]? = some (.cells #[.int .i32 z] 21 (0, 0))
theorem Inv.nx {B g r b w w'} (h : Inv b w) (k : NX B g r w w') (h1 : b ≠ g) (h2 : b ≠ r) : Inv b w' := by
  obtain ⟨z, h⟩ := h
  exact ⟨z, k.ko b _ h h1 h2 (fun c fz e => by injection e with _ e _; exact absurd e (by decide))⟩
theorem Inv.set {b w} (h : Inv b w) (z : Int) : Inv b (w.setCell ⟨b, 0, none⟩ (.int .i32 z)) := by
  obtain ⟨y, h⟩ := h
  exact ⟨z, by rw [Lib.heap_setCell_same (i := 0) h]; rfl⟩
theorem Inv.cell {b w} (h : Inv b w) : ∃ z, w.cell? ⟨b, 0, none⟩ = some (.int .i32 z) := by
  obtain ⟨z, h⟩ := h
  exact ⟨z, by rw [Lib.cell_of_heap h]; rfl⟩
theorem Inv.fr {b w} (h : Inv b w) : w.frozen? ⟨b, 0, none⟩ = false := by
  obtain ⟨z, h⟩ := h
  exact Lib.frozen_of_heap h 0
/-- A store into another block. -/
theorem Look.other {B g r s k ot w} (h : Look B g r s k ot w) (b : Nat) (hB : B ≤ b) (hg : b ≠ g) (hr : b ≠ r) (hi : Inv b w) (v : Value) : Look B g r s k ot (w.setCell ⟨b, 0, none⟩ v) := by
  have hx : ∀ {P E D tp C lc}, Scn B g r s P E D tp C lc w → Scn B g r s P E D tp C lc (w.setCell ⟨b, 0, none⟩ v) := by
    intro P E D tp C lc h
    have o : ∀ i, (w.setCell ⟨b, 0, none⟩ v).cell? ⟨g, i, none⟩ = w.cell? ⟨g, i, none⟩ := fun i => cell_other (Ne.symm hg)
    have o' : ∀ i, (w.setCell ⟨b, 0, none⟩ v).cell? ⟨r, i, none⟩ = w.cell? ⟨r, i, none⟩ := fun i => cell_other (Ne.symm hr)
    obtain ⟨u, lr, h0, h1, h2, h3, h4⟩ := h.tb
    obtain ⟨cs, hc⟩ := h.rtag
    obtain ⟨cg, hcg⟩ := h.blk
    refine ⟨h.le, h.lim, h.fit, h.lcr, h.tpr, ⟨cg, by rw [Below.heap_setCell _ _ _ _ (Ne.symm hg)]; exact hcg⟩, h.hB, h.ne, by rw [o]; exact h.src, fun j hj => by rw [o]; exact h.buf j hj, fun j hj => by rw [o]; exact h.all j hj, by rw [o]; exact h.sent,
      by rw [o]; exact h.cP, by rw [o]; exact h.cE, by rw [o]; exact h.cD, by rw [o]; exact h.cl, by rw [o]; exact h.cc, by rw [o]; exact h.cll, by rw [o]; exact h.clc, ⟨u, lr, by rw [o]; exact h0, by rw [o]; exact h1, by rw [o]; exact h2, ⟨h3.1, ?_⟩, h4⟩,
      by rw [o]; exact h.ctp, by rw [o']; exact h.rs, by rw [o']; exact h.ri, by rw [o']; exact h.rp, fun p => by rw [frozen_other]; exact h.rfr p, ⟨cs, by rw [Below.heap_setCell _ _ _ _ (Ne.symm hr)]; exact hc⟩⟩
    rcases h3.2 with hn | ⟨q, cap, cur, rfl, hbq, hq, rest⟩
    · exact .inl hn
    · refine .inr ⟨q, cap, cur, rfl, hbq, ?_, rest⟩
      have hqb : q ≠ b := by
        rintro rfl
        obtain ⟨z, hi⟩ := hi
        rw [hi] at hq
        have := Option.some.inj hq
        injection this with _ e _
        exact absurd e (by decide)
      rw [Below.heap_setCell _ _ _ _ hqb]; exact hq
  obtain ⟨h1, h2⟩ := h
  refine ⟨?_, h2.below ((Below.refl B w).setCell (p := ⟨b, 0, none⟩) hB v)⟩
  rcases h1 with ⟨h1, P, E, D, tp, C, hS, h3⟩ | ⟨h1, tp, C, hS, h3⟩
  · exact Or.inl ⟨h1, P, E, D, tp, C, hx hS, h3⟩
  · exact Or.inr ⟨h1, tp, C, hx hS, h3⟩
end Go.Proofs.YthplmbgdcfmkgaaGreatDoor
/- The scanner's digits in base eight; Peek. -/
namespace Go.Proofs.YthplmbgdcfmkgaaGreatDoor
open Go.RowKit

set_option maxHeartbeats 1000000 in
set_option maxRecDepth 100000 in
/-- digits, base eight: a digit that doesn't fit is kept in a cell. -/
theorem digits_eight (B g r b : Nat) (s : ByteArray) (k : Nat) (ot : Option Nat) (w : World) (hs : Plain s) (h : Look B g r s k ot w) (hu : ∀ t, t < s.size → chAt s t ≠ 95)
    (hBb : B ≤ b) (hbg : b ≠ g) (hbr : b ≠ r) (hi : Inv b w) :
    Calls Tryz.prog 90 #[.pointer (some ⟨g, 0, none⟩), .int .i32 (chAt s k), .int .i64 8, .pointer (some ⟨b, 0, none⟩)] w fun e w' => ∃ (i : Nat) (d : Int), e = .returned (.tuple #[.int .i32 (chAt s i), .int .i64 d]) ∧ ((i = k ∧ d = 0) ∨ (k < i ∧ d = 1)) ∧ Run dig s k i ∧ Look B g r s i ot w' ∧ DX B g r b w w' ∧ Inv b w' := by
  have hs3 := hs.1
  have HS := Lib.hid hs
  have HL := Lib.hid h
  have HU := Lib.hid hu
  have HI := Lib.hid hi
  have hle := h.le
  clear h hs hu hi
  have hor1 : bits .or .i64 0 1 = 1 := by decide
  have hor2 : bits .or .i64 1 1 = 1 := by decide
  obtain ⟨c0, hc0⟩ : ∃ c, c = chAt s k := ⟨_, rfl⟩
  rw [← hc0]
  have Hc0 := Lib.hid hc0
  clear hc0
  go_enter Tryz.func90, Tryz.ntmps90
  go_wp2_with fail
  go_loopg [8, 9, 11] (s.size - k) (fun q ch ds u11 wr => ∃ (j : Nat) (d c : Int), k ≤ j ∧ j ≤ s.size ∧ q + j = s.size ∧ ch = .int .i32 c ∧ Hid (c = chAt s j) ∧ ds = .int .i64 d ∧ Hid ((j = k ∧ d = 0) ∨ (k < j ∧ d = 1)) ∧ (d = 0 ∨ d = 1) ∧ Hid (∀ t, k ≤ t → t < j → dig (chAt s t) = true) ∧ Hid (Look B g r s j ot wr) ∧ Hid (DX B g r b w wr) ∧ Hid (Inv b wr))
  case atStart => exact ⟨k, 0, _, Nat.le_refl _, hle, by omega, rfl, Hc0, rfl, Or.inl ⟨rfl, rfl⟩, Or.inl rfl, fun t h1 h2 => by omega, HL, DX.refl _ _ _ _ _, HI⟩
  case round =>
    obtain ⟨j, d, c, hj1, hj2, hq, rfl, hc, rfl, hd, hd01, hall, hL, hN, hI⟩ := hrel
    have HC := is_decimal c wr
    obtain ⟨bb, hb⟩ : ∃ bb, dig c = bb := ⟨_, rfl⟩
    rw [hb] at HC
    have HCh := Lib.hid HC
    have Hb := Lib.hid hb
    clear HC hb
    have h95 : (c == 95) = false := by
      rw [beq_eq_false_iff_ne, hc.out]
      by_cases hjs : j < s.size
      · exact HU.out j hjs
      · rw [chAt_end (by omega)]; decide
    obtain ⟨d', Hd'⟩ : ∃ d', Hid (bits .or .i64 d 1 = d' ∧ d' = 1) := by
      rcases hd01 with rfl | rfl
      · exact ⟨1, hor1, rfl⟩
      · exact ⟨1, hor2, rfl⟩
    have hor := Hd'.out.1
    clear hd01
    go_wp2_with fail
    refine HCh.out.mono ?_
    rintro e w2 ⟨rfl, hw2⟩
    obtain rfl := hw2.symm
    cases bb with
    | true =>
      have hjs : j < s.size := by
        rcases Nat.lt_or_ge j s.size with hlt | hge
        · exact hlt
        · exfalso
          have h1 := Hb.out
          rw [hc.out, chAt_end hge, low_end.2] at h1
          cases h1
      have hr := dig_le Hb.out
      obtain ⟨z, hz⟩ := hI.out.cell
      have hzf := hI.out.fr
      have hend : ∀ wx, Look B g r s j ot wx → DX B g r b w wx → Inv b wx → ∀ w2, Look B g r s (j + 1) ot w2 → NX B g r wx w2 → Look B g r s (j + 1) ot w2 ∧ DX B g r b w w2 ∧ Inv b w2 :=
        fun wx h1 h2 h3 w2 h4 h5 => ⟨h4, h2.trans (h5.dx b), h3.nx h5 hbg hbr⟩
      have Hend := Lib.hid hend
      clear hend
      by_cases h56 : 56 ≤ c
      · by_cases hz0 : (z == 0) = true
        · go_wp2_with fail
          have hLz := hL.out.other b hBb hbg hbr hI.out (.int .i32 c)
          have hIz := hI.out.set c
          have hDz := hN.out.setInv hBb hbg (.int .i32 c)
          refine (next_look B g r s j ot _ HS.out hLz hjs).mono ?_
          rintro e w2 ⟨rfl, hL2, hN2⟩
          have HL2 := Lib.hid (Hend.out _ hLz hDz hIz w2 hL2 hN2)
          clear hL2 hN2 hLz hIz hDz
          go_wp2_with fail
          go_roundg (gk - 1)
          case measure => omega
          case rel =>
            refine ⟨j + 1, d', _, by omega, hjs, by omega, rfl, rfl, by first | rfl | (rw [hor]), Or.inr ⟨by omega, Hd'.out.2⟩, Or.inr Hd'.out.2, fun t h1 h2 => ?_, HL2.out.1, HL2.out.2.1, HL2.out.2.2⟩
            by_cases ht : t = j
            · subst ht; rw [← hc.out]; exact Hb.out
            · exact hall.out t h1 (by omega)
        · have hz0' : (z == 0) = false := by simpa using hz0
          clear hz0
          go_wp2_with fail
          refine (next_look B g r s j ot _ HS.out hL.out hjs).mono ?_
          rintro e w2 ⟨rfl, hL2, hN2⟩
          have HL2 := Lib.hid (Hend.out _ hL.out hN.out hI.out w2 hL2 hN2)
          clear hL2 hN2
          go_wp2_with fail
          go_roundg (gk - 1)
          case measure => omega
          case rel =>
            refine ⟨j + 1, d', _, by omega, hjs, by omega, rfl, rfl, by first | rfl | (rw [hor]), Or.inr ⟨by omega, Hd'.out.2⟩, Or.inr Hd'.out.2, fun t h1 h2 => ?_, HL2.out.1, HL2.out.2.1, HL2.out.2.2⟩
            by_cases ht : t = j
            · subst ht; rw [← hc.out]; exact Hb.out
            · exact hall.out t h1 (by omega)
      · go_wp2_with fail
        refine (next_look B g r s j ot _ HS.out hL.out hjs).mono ?_
        rintro e w2 ⟨rfl, hL2, hN2⟩
        have HL2 := Lib.hid (Hend.out _ hL.out hN.out hI.out w2 hL2 hN2)
        clear hL2 hN2
        go_wp2_with fail
        go_roundg (gk - 1)
        case measure => omega
        case rel =>
          refine ⟨j + 1, d', _, by omega, hjs, by omega, rfl, rfl, by first | rfl | (rw [hor]), Or.inr ⟨by omega, Hd'.out.2⟩, Or.inr Hd'.out.2, fun t h1 h2 => ?_, HL2.out.1, HL2.out.2.1, HL2.out.2.2⟩
          by_cases ht : t = j
          · subst ht; rw [← hc.out]; exact Hb.out
          · exact hall.out t h1 (by omega)
    | false =>
      go_wp2_with fail
      go_ret2
      exact ⟨j, d, by rw [← hc.out]; rfl, hd.out, ⟨hj1, hj2, hall.out, fun _ => by rw [← hc.out]; exact Hb.out⟩, hL.out, hN.out, hI.out⟩

/-- What Peek leaves: the first character is read. -/
structure PX (B g r : Nat) (w w' : World) : Prop where
  below : Below B w w'
  ko : ∀ k o, w.heap[k]? = some o → k ≠ g → k ≠ r → (∀ c fz, o ≠ .cells c 5 fz) → w'.heap[k]? = some o
  free : ∀ i, 1037 ≤ i → i ≠ 1038 → w'.cell? ⟨g, i, none⟩ = w.cell? ⟨g, i, none⟩
  c38 : ∃ z, w'.cell? ⟨g, 1038, none⟩ = some (.int .i32 z)
set_option maxRecDepth 100000 in
theorem peek_first (B g r : Nat) (s : ByteArray) (w : World) (hs : Plain s) (h : Rdy B g r s 0 0 none w) (hy : Sky B r w) (hc : w.cell? ⟨g, 1038, none⟩ = some (.int .i32 (-2))) :
    Calls Tryz.prog 69 #[.pointer (some ⟨g, 0, none⟩)] w fun e w' => e = .returned (.int .i32 (chAt s 0)) ∧ Look B g r s 0 none w' ∧ PX B g r w w' := by
  have HS := Lib.hid hs
  have HR := Lib.hid h
  have HY := Lib.hid hy
  clear hs h hy
  have hneg : ((-2 : Int) == -2) = true := by decide
  go_enter Tryz.func69, Tryz.ntmps69
  go_wp2_with fail
  refine (next_any B g r s 0 0 none w HS.out HR.out HY.out).mono ?_
  rintro e w1 ⟨rfl, hL1, hN1⟩
  obtain ⟨c, hcc⟩ : ∃ c, c = chAt s 0 := ⟨_, rfl⟩
  rw [← hcc]
  have hrange := chAt_range HS.out 0
  rw [← hcc] at hrange
  have hbom : (c == 65279) = false := by rw [beq_eq_false_iff_ne]; omega
  have hcell : w1.cell? ⟨g, 1038, none⟩ = some (.int .i32 (-2)) := (hN1.free 1038 (by omega)).trans hc
  have hfr : w1.frozen? ⟨g, 1038, none⟩ = false := hL1.blk.1.fr 1038
  have HL1 := Lib.hid hL1
  have HN1 := Lib.hid hN1
  have HC := Lib.hid hcc
  clear hL1 hN1 hcc hrange
  go_wp2_with fail
  go_ret
  refine ⟨by rw [← HC.out]; rfl, HL1.out.setFree 1038 (by omega) _, ⟨HN1.out.below.setCell (p := ⟨g, 1038, none⟩) HL1.out.blk.2.1 _, fun k o h1 h2 h3 h4 => by rw [Below.heap_setCell _ _ _ _ h2]; exact HN1.out.ko k o h1 h2 h3 h4, fun i hi hi2 => by rw [cell_set_ne (by omega)]; exact HN1.out.free i hi, ⟨_, cell_set_same hcell⟩⟩⟩
theorem peek_later (g : Nat) (c : Int) (w : World) (hc : w.cell? ⟨g, 1038, none⟩ = some (.int .i32 c)) (h2 : c ≠ -2) :
    Calls Tryz.prog 69 #[.pointer (some ⟨g, 0, none⟩)] w fun e w' => e = .returned (.int .i32 c) ∧ w' = w := by
  have hneg : (c == -2) = false := by rw [beq_eq_false_iff_ne]; exact h2
  clear h2
  go_enter Tryz.func69, Tryz.ntmps69
  go_wp2_with fail
  go_ret
  exact ⟨rfl, rfl⟩
end Go.Proofs.YthplmbgdcfmkgaaGreatDoor
