/- atof64exact, special. -/
import Derived.Test.YthplmbgdcfmkgaaGreatDoorA05
import Derived.Test.YthplmbgdcfmkgaaGreatDoorA02
import Derived.Deep.CutBlock
import Derived.Deep.CutRange
import Derived.Test.YthplmbgdcfmkgaaGreatDoorA01
import Derived.Test.YthplmbgdcfmkgaaGreatDoorA03
set_option linter.unusedVariables false
set_option linter.unusedSimpArgs false
/- The library's exact conversion. -/
namespace Go.Proofs.YthplmbgdcfmkgaaGreatDoor
open Go.RowKit

theorem sgn_no (r : Nat) : sgn false + r = r := by simp [sgn]
theorem order_sgn (s t : Bool) (a b : Nat) (ha : a < 9218868437227405312) (hb : b < 9218868437227405312) :
    Ieee.double.order (sgn s + a) (sgn t + b) = some (compare (Ieee.signed s (mg a) (pl a - min (pl a) (pl b)).toNat) (Ieee.signed t (mg b) (pl b - min (pl a) (pl b)).toNat)) := by
  show (Ieee.double.read (sgn s + a)).order (Ieee.double.read (sgn t + b)) = _
  rw [read_sgn s a ha, read_sgn t b hb]
  rfl
/-- Greater than ten to the fifteenth. -/
def big (a : Nat) : Bool := decide ((mg 4831355200913801216 <<< (pl 4831355200913801216 - min (pl a) (pl 4831355200913801216)).toNat : Nat) < mg a <<< (pl a - min (pl a) (pl 4831355200913801216)).toNat)
theorem cmp_gt (x y : Int) : ((some (compare x y) : Option Ordering) == some .gt) = decide (y < x) := by
  by_cases h : y < x
  · rw [Int.compare_eq_gt.2 h, decide_eq_true h]; rfl
  · have : compare x y ≠ .gt := fun e => h (Int.compare_eq_gt.1 e)
    rw [decide_eq_false h]
    cases hc : compare x y <;> first | rfl | exact absurd hc this
theorem cmp_lt (x y : Int) : ((some (compare x y) : Option Ordering) == some .lt) = decide (x < y) := by
  by_cases h : x < y
  · rw [Int.compare_eq_lt.2 h, decide_eq_true h]; rfl
  · have : compare x y ≠ .lt := fun e => h (Int.compare_eq_lt.1 e)
    rw [decide_eq_false h]
    cases hc : compare x y <;> first | rfl | exact absurd hc this
theorem big_cmp (neg : Bool) (a : Nat) (ha : a < 9218868437227405312) :
    ((Ieee.double.order (sgn neg + a) 4831355200913801216 == some .gt) || (Ieee.double.order (sgn neg + a) 14054727237768577024 == some .lt)) = big a := by
  have e1 : (4831355200913801216 : Nat) = sgn false + 4831355200913801216 := (sgn_no _).symm
  have e2 : (14054727237768577024 : Nat) = sgn true + 4831355200913801216 := rfl
  have hc : mg 4831355200913801216 ≠ 0 := by decide
  rw [show Ieee.double.order (sgn neg + a) 4831355200913801216 = Ieee.double.order (sgn neg + a) (sgn false + 4831355200913801216) from congrArg _ e1,
    show Ieee.double.order (sgn neg + a) 14054727237768577024 = Ieee.double.order (sgn neg + a) (sgn true + 4831355200913801216) from congrArg _ e2]
  rw [order_sgn _ _ _ _ ha (by decide), order_sgn _ _ _ _ ha (by decide), cmp_gt, cmp_lt]
  unfold big
  obtain ⟨u, hu⟩ : ∃ u, u = mg a <<< (pl a - min (pl a) (pl 4831355200913801216)).toNat := ⟨_, rfl⟩
  obtain ⟨v, hv⟩ : ∃ v, v = mg 4831355200913801216 <<< (pl 4831355200913801216 - min (pl a) (pl 4831355200913801216)).toNat := ⟨_, rfl⟩
  have hv0 : 0 < v := by
    rw [hv, Nat.shiftLeft_eq]
    exact Nat.mul_pos (Nat.pos_of_ne_zero hc) (Nat.two_pow_pos _)
  cases neg
  · simp only [Ieee.signed, if_pos, Bool.false_eq_true, if_false, ← hu, ← hv]
    have h2 : decide ((u : Int) < -(v : Int)) = false := decide_eq_false (by omega)
    rw [h2, Bool.or_false]
    by_cases h : v < u
    · rw [decide_eq_true h, decide_eq_true (by omega)]
    · rw [decide_eq_false h, decide_eq_false (by omega)]
  · simp only [Ieee.signed, if_pos, Bool.false_eq_true, if_false, ← hu, ← hv]
    have h1 : decide ((v : Int) < -(u : Int)) = false := decide_eq_false (by omega)
    rw [h1, Bool.false_or]
    by_cases h : v < u
    · rw [decide_eq_true h, decide_eq_true (by omega)]
    · rw [decide_eq_false h, decide_eq_false (by omega)]

/-- The table of powers of ten as doubles: what it holds is told by F. -/
structure Flo10 (B : Nat) (F : Nat → Nat) (w : World) : Prop where
  tab : ∃ q o cap, w.cell? ⟨13, 0, none⟩ = some (.slice (some ⟨q, o, none⟩) 23 cap) ∧ q < B ∧ ∀ j : Nat, j < 23 → w.cell? ⟨q, o + j, none⟩ = some (.float .f64 (F j))
  le : ∀ j : Nat, j < 23 → F j ≤ 4936209963552724370
  ge : ∀ j : Nat, j < 23 → 4607182418800017408 ≤ F j
  b : 16 ≤ B
theorem Flo10.below {B : Nat} {F : Nat → Nat} {w w' : World} (h : Flo10 B F w) (k : Below B w w') : Flo10 B F w' := by
  obtain ⟨⟨q, o, cap, h1, h2, h3⟩, h4, h5, h6⟩ := h
  exact ⟨⟨q, o, cap, by rw [k.cell (show 13 < B by omega)]; exact h1, h2, fun j hj => by rw [k.cell h2]; exact h3 j hj⟩, h4, h5, h6⟩

def ex1 (F : Nat → Nat) (m : Nat) (p : Int) : Nat := if 22 < p then mulR (near m 0) (F (p - 22).toNat) else near m 0
def exF (F : Nat → Nat) (m : Nat) (p : Int) : Option Nat :=
  if m / 4503599627370496 ≠ 0 then none
  else if p = 0 then some (near m 0)
  else if 0 < p ∧ p ≤ 37 then (if big (ex1 F m p) = true then none else some (mulR (ex1 F m p) (F (min p 22).toNat)))
  else if p < 0 ∧ -22 ≤ p then some (divR (near m 0) (F (-p).toNat))
  else none
def ExPost (neg : Bool) (r : Option Nat) (w : World) (e : Ending) (w' : World) : Prop :=
  Drew w w' ∧ match r with
  | some x => e = .returned (.tuple #[.float .f64 (sgn neg + x), .bool true])
  | none => ∃ y, e = .returned (.tuple #[.float .f64 y, .bool false])
theorem ex_none {neg r w w' y} (hr : r = none) (hD : Drew w w') : ExPost neg r w (.returned (.tuple #[.float .f64 y, .bool false])) w' := by subst hr; exact ⟨hD, y, rfl⟩
theorem ex_some {neg r w w' y x} (hr : r = some x) (hy : y = sgn neg + x) (hD : Drew w w') : ExPost neg r w (.returned (.tuple #[.float .f64 y, .bool true])) w' := by subst hr hy; exact ⟨hD, rfl⟩

set_option maxHeartbeats 1000000 in
set_option maxRecDepth 100000 in
theorem exact_calls (neg : Bool) (m : Nat) (p : Int) (hm : m < 18446744073709551616) (hp0 : -100000 ≤ p) (hp1 : p ≤ 100000)
    (w : World) (B : Nat) (hi : Info B w) (F : Nat → Nat) (hF : Flo10 B F w) :
    Calls Tryz.prog 125 #[.int .u64 m, .int .i64 p, .bool neg] w (ExPost neg (exF F m p) w) := by
  obtain ⟨R, hR⟩ : ∃ R, R = exF F m p := ⟨_, rfl⟩
  rw [← hR]
  have HR := Lib.hid hR
  clear hR
  have i0 := hi.c0
  by_cases hm0 : m / 4503599627370496 = 0
  · have hmz : (((m : Int) / 4503599627370496) != 0) = false := by rw [bne_eq_false_iff_eq]; omega
    have hmlt : m < 9007199254740992 := by omega
    have hob := ofInt_bound m hmlt
    have ho : floatOfInt .f64 (m : Int) = near m 0 := by rw [ofInt_sgn, sgn_no]
    obtain ⟨f0, hf0⟩ : ∃ f0, f0 = near m 0 := ⟨_, rfl⟩
    rw [← hf0] at ho hob
    have hf0i : f0 < 9218868437227405312 := by omega
    have hn : ∀ w, (Op.unary .neg (.float .f64 f0)).run Tryz.prog w = .ok (.float .f64 (sgn true + f0)) w := by
      intro w
      have := neg_sgn f0 (by omega)
      rw [sgn_no] at this
      rw [← this]
      rfl
    obtain ⟨x0, hx0⟩ : ∃ x0, x0 = sgn neg + f0 := ⟨_, rfl⟩
    have Hf0 := Lib.hid hf0
    have Hx0 := Lib.hid hx0
    have HHm := Lib.hid hm0
    have HI := Lib.hid hi
    have HF := Lib.hid hF
    clear hf0 hx0 hm0 hi hF
    go_enter Tryz.func125, Tryz.ntmps125
    go_upto_if 15 with fail
    go_cut [6] from 16 to 17 (fun f wx => f = .float .f64 x0 ∧ w = wx)
    case first =>
      cases neg with
      | true =>
        go_wp2
        go_meet
        case rel => exact ⟨by rw [Hx0.out], rfl⟩
      | false =>
        go_wp2
        go_meet
        case rel => exact ⟨by rw [Hx0.out, sgn_no], rfl⟩
    case rest =>
    obtain ⟨rfl, rfl⟩ := hcut
    clear hn ho
    obtain ⟨⟨q, o, cap, hs, hqB, hFc⟩, hFle, hFge, hB24⟩ := HF.out
    clear i0 hmz
    by_cases hp : p = 0
    · have hpz : (p == 0) = true := by rw [beq_iff_eq]; exact hp
      have HR' : Hid (R = some f0) := by rw [Hid, HR.out, exF, if_neg (by rw [HHm.out]; decide), if_pos hp, Hf0.out]
      clear hp
      go_wp2
      go_ret2
      exact ex_some HR'.out Hx0.out (Drew.refl _)
    · have hpz : (p == 0) = false := by rw [beq_eq_false_iff_ne]; exact hp
      by_cases hpos : 0 < p ∧ p ≤ 37
      · have HRb : Hid (R = if big (ex1 F m p) = true then none else some (mulR (ex1 F m p) (F (min p 22).toNat))) := by
          rw [Hid, HR.out, exF, if_neg (by rw [HHm.out]; decide), if_neg hp, if_pos hpos]
        obtain ⟨hpos1, hpos2⟩ := hpos
        clear hp
        by_cases h22 : 22 < p
        · obtain ⟨P, hP⟩ : ∃ P : Nat, p - 22 = (P : Int) := ⟨(p - 22).toNat, by omega⟩
          have e1 : ex1 F m p = mulR f0 (F P) := by rw [ex1, if_pos h22, ← Hf0.out, show (p - 22).toNat = P by omega]
          have e2 : (min p 22).toNat = 22 := by omega
          have hPl : P ≤ 15 := by omega
          rw [e1, e2] at HRb
          have k1 := hFc P (by omega)
          have k2 := hFc 22 (by omega)
          have hmb := mulR_bound f0 (F P) 1076 1096 (by omega) (by have := hFle P (by omega); omega) (by omega) (by omega) (by omega) (by omega) (by omega)
          have hml0 : ∀ t w, (binOp .mul t (.float .f64 x0) (.float .f64 (F P))).run Tryz.prog w = .ok (.float .f64 (sgn neg + mulR f0 (F P))) w := by
            intro t w
            refine run_float_arith w .mul t .f64 _ _ _ ?_
            have := mul_sgn neg false f0 (F P) hf0i (by have := hFle P (by omega); omega)
            rw [sgn_no, Bool.xor_false, ← Hx0.out] at this
            exact this
          obtain ⟨f1, hf1⟩ : ∃ f1, f1 = mulR f0 (F P) := ⟨_, rfl⟩
          rw [← hf1] at hml0 HRb hmb
          have hf1i : f1 < 9218868437227405312 := by omega
          obtain ⟨x1, hx1⟩ : ∃ x1, x1 = sgn neg + f1 := ⟨_, rfl⟩
          rw [← hx1] at hml0
          clear hf1 hmb e1 e2 hFc
          obtain ⟨g1, hg1⟩ : ∃ g1, (Ieee.double.order x1 4831355200913801216 == some .gt) = g1 := ⟨_, rfl⟩
          obtain ⟨g2, hg2⟩ : ∃ g2, (Ieee.double.order x1 14054727237768577024 == some .lt) = g2 := ⟨_, rfl⟩
          have hbig := big_cmp neg f1 hf1i
          rw [← hx1, hg1, hg2] at hbig
          have hc1 : (FloatKind.f64.format.order x1 4831355200913801216 == some Ordering.gt) = g1 := hg1
          have hc2 : (FloatKind.f64.format.order x1 14054727237768577024 == some Ordering.lt) = g2 := hg2
          have hml : ∀ t w, (binOp .mul t (.float .f64 x1) (.float .f64 (F 22))).run Tryz.prog w = .ok (.float .f64 (sgn neg + mulR f1 (F 22))) w := by
            intro t w
            refine run_float_arith w .mul t .f64 _ _ _ ?_
            have := mul_sgn neg false f1 (F 22) hf1i (by have := hFle 22 (by omega); omega)
            rw [sgn_no, Bool.xor_false, ← hx1] at this
            exact this
          have HB := Lib.hid hbig
          clear hbig hg1 hg2
          cases g1 with
          | true =>
            have HR' : Hid (R = none) := by rw [Hid, HRb.out, if_pos (by rw [← HB.out]; rfl)]
            clear hx1
            go_wp2
            all_goals go_ret2
            all_goals exact ex_none HR'.out (Drew.refl _)
          | false =>
            cases g2 with
            | true =>
              have HR' : Hid (R = none) := by rw [Hid, HRb.out, if_pos (by rw [← HB.out]; rfl)]
              clear hx1
              go_wp2
              go_ret2
              exact ex_none HR'.out (Drew.refl _)
            | false =>
              have HR' : Hid (R = some (mulR f1 (F 22))) := by rw [Hid, HRb.out, if_neg (by rw [← HB.out]; decide)]
              clear hx1
              go_wp2
              go_ret2
              exact ex_some HR'.out rfl (Drew.refl _)
        · obtain ⟨P, rfl⟩ : ∃ P : Nat, p = (P : Int) := ⟨p.toNat, by omega⟩
          have e1 : ex1 F m (P : Int) = f0 := by rw [ex1, if_neg h22, Hf0.out]
          have e2 : (min (P : Int) 22).toNat = P := by omega
          rw [e1, e2] at HRb
          have k1 := hFc P (by omega)
          have hx1 := Hx0.out
          have hf1i := hf0i
          clear e1 e2 hFc
          obtain ⟨g1, hg1⟩ : ∃ g1, (Ieee.double.order x0 4831355200913801216 == some .gt) = g1 := ⟨_, rfl⟩
          obtain ⟨g2, hg2⟩ : ∃ g2, (Ieee.double.order x0 14054727237768577024 == some .lt) = g2 := ⟨_, rfl⟩
          have hbig := big_cmp neg f0 hf1i
          rw [← hx1, hg1, hg2] at hbig
          have hc1 : (FloatKind.f64.format.order x0 4831355200913801216 == some Ordering.gt) = g1 := hg1
          have hc2 : (FloatKind.f64.format.order x0 14054727237768577024 == some Ordering.lt) = g2 := hg2
          have hml : ∀ t w, (binOp .mul t (.float .f64 x0) (.float .f64 (F P))).run Tryz.prog w = .ok (.float .f64 (sgn neg + mulR f0 (F P))) w := by
            intro t w
            refine run_float_arith w .mul t .f64 _ _ _ ?_
            have := mul_sgn neg false f0 (F P) hf1i (by have := hFle P (by omega); omega)
            rw [sgn_no, Bool.xor_false, ← hx1] at this
            exact this
          have HB := Lib.hid hbig
          clear hbig hg1 hg2
          cases g1 with
          | true =>
            have HR' : Hid (R = none) := by rw [Hid, HRb.out, if_pos (by rw [← HB.out]; rfl)]
            clear hx1
            go_wp2
            all_goals go_ret2
            all_goals exact ex_none HR'.out (Drew.refl _)
          | false =>
            cases g2 with
            | true =>
              have HR' : Hid (R = none) := by rw [Hid, HRb.out, if_pos (by rw [← HB.out]; rfl)]
              clear hx1
              go_wp2
              go_ret2
              exact ex_none HR'.out (Drew.refl _)
            | false =>
              have HR' : Hid (R = some (mulR f0 (F P))) := by rw [Hid, HRb.out, if_neg (by rw [← HB.out]; decide)]
              clear hx1
              go_wp2
              go_ret2
              exact ex_some HR'.out rfl (Drew.refl _)
      · by_cases hneg : p < 0 ∧ -22 ≤ p
        · have HRb : Hid (R = some (divR f0 (F (-p).toNat))) := by
            rw [Hid, HR.out, exF, if_neg (by rw [HHm.out]; decide), if_neg hp, if_neg hpos, if_pos hneg, Hf0.out]
          obtain ⟨hn1, hn2⟩ := hneg
          clear hp hpos
          obtain ⟨P, rfl⟩ : ∃ P : Nat, p = -(P : Int) := ⟨(-p).toNat, by omega⟩
          rw [show (-(-(P : Int))).toNat = P by omega] at HRb
          have k1 := hFc P (by omega)
          have hdv : ∀ t w, (binOp .quo t (.float .f64 x0) (.float .f64 (F P))).run Tryz.prog w = .ok (.float .f64 (sgn neg + divR f0 (F P))) w := by
            intro t w
            refine run_float_arith w .quo t .f64 _ _ _ ?_
            have hle := hFle P (by omega)
            have := div_sgn neg false f0 (F P) hf0i (by omega) (mg_log_low (hFge P (by omega)) (by omega)).2
            rw [sgn_no, Bool.xor_false, ← Hx0.out] at this
            exact this
          clear hFc
          go_wp2
          go_ret2
          exact ex_some HRb.out rfl (Drew.refl _)
        · have HR' : Hid (R = none) := by
            rw [Hid, HR.out, exF, if_neg (by rw [HHm.out]; decide), if_neg hp, if_neg hpos, if_neg hneg]
          clear hFc
          by_cases h0 : 0 < p
          · have h37 : ¬ p ≤ 37 := fun h => hpos ⟨h0, h⟩
            clear hp hpos hneg
            go_wp2
            go_ret2
            exact ex_none HR'.out (Drew.refl _)
          · have h37 : p < 0 := by omega
            have h38 : ¬ -22 ≤ p := fun h => hneg ⟨h37, h⟩
            clear hp hpos hneg
            go_wp2
            go_ret2
            exact ex_none HR'.out (Drew.refl _)
  · have hmz : (((m : Int) / 4503599627370496) != 0) = true := by rw [bne_iff_ne]; omega
    have HR' : Hid (R = none) := by rw [Hid, HR.out, exF, if_pos hm0]
    clear hm0 hi hF
    go_enter Tryz.func125, Tryz.ntmps125
    go_wp2
    go_ret2
    exact ex_none HR'.out (Drew.refl _)
end Go.Proofs.YthplmbgdcfmkgaaGreatDoor
/- The library's special. -/
namespace Go.Proofs.YthplmbgdcfmkgaaGreatDoor
open Go.RowKit

def lowc (c : Nat) : Nat := if 65 ≤ c ∧ c ≤ 90 then c + 32 else c
def Starts (s p : ByteArray) : Prop := ∃ (h1 : 0 < s.size) (h2 : 0 < p.size), lowc (s[0]'h1).toNat = (p[0]'h2).toNat
theorem min_nat (a b : Nat) : min (a : Int) (b : Int) = ((min a b : Nat) : Int) := by omega

set_option maxHeartbeats 1000000 in
set_option maxRecDepth 100000 in
theorem prefix_calls (s p : ByteArray) (hs : s.size ≤ 3000) (hp : p.size ≤ 100) (w : World) :
    Calls Tryz.prog 128 #[.string s, .string p] w fun e w' => w = w' ∧ ∃ n : Nat, e = .returned (.int .i64 n) ∧ n ≤ p.size ∧ n ≤ s.size ∧ (1 ≤ n → Starts s p) := by
  obtain ⟨N, hN⟩ : ∃ N : Nat, N = min p.size s.size := ⟨_, rfl⟩
  have hNp : N ≤ p.size := by omega
  have hNs : N ≤ s.size := by omega
  have HN := Lib.hid hN
  clear hN
  go_enter Tryz.func128, Tryz.ntmps128
  go_upto_region 1 with fail
  go_cut [5] from 8 to 12 (fun n wx => n = .int .i64 (N : Int) ∧ w = wx)
  case first =>
    go_wp2
    all_goals (go_meet; case rel => exact ⟨by rw [HN.out, Value.int.injEq]; exact ⟨rfl, by omega⟩, rfl⟩)
  case rest =>
  obtain ⟨rfl, rfl⟩ := hcut
  go_wp2
  go_loopg [6] N (fun k i wr => ∃ j : Nat, k + j = N ∧ i = .int .i64 (j : Int) ∧ w = wr ∧ Hid (1 ≤ j → Starts s p))
  case atStart => exact ⟨0, by omega, rfl, rfl, fun h => absurd h (by omega)⟩
  case round =>
    obtain ⟨j, hk, rfl, rfl, hj⟩ := hrel
    cases gk with
    | zero =>
      have hjN : j = N := by omega
      subst hjN
      go_wp2
      go_ret
      exact ⟨rfl, j, rfl, hNp, hNs, hj.out⟩
    | succ gk =>
      have hjs : j < s.size := by omega
      have hjp : j < p.size := by omega
      have hjN : (j : Int) < N := by omega
      obtain ⟨C, hC⟩ : ∃ C, C = (s[j]'hjs).toNat := ⟨_, rfl⟩
      obtain ⟨D, hD⟩ : ∃ D, D = (p[j]'hjp).toNat := ⟨_, rfl⟩
      have hc255 : C < 256 := by rw [hC]; exact (s[j]'hjs).toNat_lt
      have hd255 : D < 256 := by rw [hD]; exact (p[j]'hjp).toNat_lt
      have hC' : (s[j]'hjs).toNat = C := hC.symm
      have hD' : (p[j]'hjp).toNat = D := hD.symm
      have hfin : ∀ c, lowc C = c → c = D → Hid (1 ≤ j + 1 → Starts s p) := by
        intro c h1 h2 _
        by_cases hz : j = 0
        · subst hz; exact ⟨hjs, hjp, by rw [hC', hD', h1, h2]⟩
        · exact hj.out (by omega)
      have HF := Lib.hid hfin
      have HK := Lib.hid hk
      clear hC hD hfin hk
      by_cases h65 : 65 ≤ C
      · by_cases h90 : C ≤ 90
        · have hl : lowc C = C + 32 := by rw [lowc, if_pos ⟨h65, h90⟩]
          by_cases he : C + 32 = D
          · have het : ((C : Int) + 32 != D) = false := by rw [bne_eq_false_iff_eq]; omega
            have HR := HF.out _ hl he
            clear hl he
            go_wp2
            go_roundg gk
            case measure => omega
            case rel => exact ⟨j + 1, by have := HK.out; omega, by go_num, rfl, HR⟩
          · have het : ((C : Int) + 32 != D) = true := by rw [bne_iff_ne]; omega
            clear hl he
            go_wp2
            go_ret
            exact ⟨rfl, j, rfl, by omega, by omega, hj.out⟩
        · have hl : lowc C = C := by rw [lowc, if_neg (by omega)]
          by_cases he : C = D
          · have het : ((C : Int) != D) = false := by rw [bne_eq_false_iff_eq]; omega
            have HR := HF.out _ hl he
            clear hl he
            go_wp2
            go_roundg gk
            case measure => omega
            case rel => exact ⟨j + 1, by have := HK.out; omega, by go_num, rfl, HR⟩
          · have het : ((C : Int) != D) = true := by rw [bne_iff_ne]; omega
            clear hl he
            go_wp2
            go_ret
            exact ⟨rfl, j, rfl, by omega, by omega, hj.out⟩
      · have hl : lowc C = C := by rw [lowc, if_neg (by omega)]
        by_cases he : C = D
        · have het : ((C : Int) != D) = false := by rw [bne_eq_false_iff_eq]; omega
          have HR := HF.out _ hl he
          clear hl he
          go_wp2
          go_roundg gk
          case measure => omega
          case rel => exact ⟨j + 1, by have := HK.out; omega, by go_num, rfl, HR⟩
        · have het : ((C : Int) != D) = true := by rw [bne_iff_ne]; omega
          clear hl he
          go_wp2
          go_ret
          exact ⟨rfl, j, rfl, by omega, by omega, hj.out⟩

theorem inf_calls (z : Int) (w : World) : Calls Tryz.prog 129 #[.int .i64 z] w fun e w' => w = w' ∧ e = .returned (.float .f64 (if 0 ≤ z then 9218868437227405312 else 18442240474082181120)) := by
  have hf := frombits_run
  by_cases h : 0 ≤ z
  · rw [if_pos h]
    go_enter Tryz.func129, Tryz.ntmps129
    go_wp2
    go_ret
    exact ⟨rfl, rfl⟩
  · rw [if_neg h]
    go_enter Tryz.func129, Tryz.ntmps129
    go_wp2
    go_ret
    exact ⟨rfl, rfl⟩
theorem nan_calls (w : World) : Calls Tryz.prog 130 #[] w fun e w' => w = w' ∧ e = .returned (.float .f64 9221120237041090561) := by
  have hf := frombits_run
  go_enter Tryz.func130, Tryz.ntmps130
  go_wp2
  go_ret
  exact ⟨rfl, rfl⟩

/-- Infinite, or no number. -/
def NoNum (f : Nat) : Prop := f = 9218868437227405312 ∨ f = 18442240474082181120 ∨ f = 9221120237041090561
def SpStart (s : ByteArray) : Prop := ∃ (i : Nat) (h : i < s.size), i ≤ 1 ∧ (lowc (s[i]'h).toNat = 105 ∨ lowc (s[i]'h).toNat = 110)
def SpPost (s : ByteArray) (w : World) (e : Ending) (w' : World) : Prop :=
  w = w' ∧ ∃ (f : Nat) (n : Nat) (ok : Bool), e = .returned (.tuple #[.float .f64 f, .int .i64 n, .bool ok]) ∧ n ≤ 9 ∧ (ok = true → NoNum f ∧ SpStart s)
theorem sp_no (s : ByteArray) (w : World) (f n : Nat) (hn : n ≤ 9) : SpPost s w (.returned (.tuple #[.float .f64 f, .int .i64 n, .bool false])) w := ⟨rfl, f, n, false, rfl, hn, fun h => absurd h (by decide)⟩
theorem sp_yes (s : ByteArray) (w : World) (f : Nat) (z : Int) (h0 : 0 ≤ z) (h1 : z ≤ 9) (hf : NoNum f) (hs : SpStart s) : SpPost s w (.returned (.tuple #[.float .f64 f, .int .i64 z, .bool true])) w :=
  ⟨rfl, f, z.toNat, true, by rw [Int.toNat_of_nonneg h0], by omega, fun _ => ⟨hf, hs⟩⟩
theorem sp_start0 {s : ByteArray} {p : ByteArray} (hp : p = ⟨#[105, 110, 102, 105, 110, 105, 116, 121]⟩ ∨ p = ⟨#[110, 97, 110]⟩) (h : Starts s p) : SpStart s := by
  obtain ⟨h1, h2, e⟩ := h
  refine ⟨0, h1, by omega, ?_⟩
  rw [e]
  rcases hp with rfl | rfl
  · exact Or.inl rfl
  · exact Or.inr rfl
theorem sp_start1 {s : ByteArray} {p : ByteArray} (hp : p = ⟨#[105, 110, 102, 105, 110, 105, 116, 121]⟩ ∨ p = ⟨#[110, 97, 110]⟩) (h : Starts (s.extract 1 s.size) p) : SpStart s := by
  obtain ⟨h1, h2, e⟩ := h
  have hs : 1 < s.size := by simp at h1; omega
  refine ⟨1, hs, by omega, ?_⟩
  rw [ByteArray.getElem_extract] at e
  simp only [Nat.add_zero] at e
  rw [e]
  rcases hp with rfl | rfl
  · exact Or.inl rfl
  · exact Or.inr rfl

set_option maxHeartbeats 1000000 in
set_option maxRecDepth 100000 in
theorem special_calls (s : ByteArray) (hs : s.size ≤ 3000) (w : World) : Calls Tryz.prog 114 #[.string s] w (SpPost s w) := by
  by_cases h0 : 0 < s.size
  · have hem : ¬ s = ByteArray.empty := by
      intro h
      rw [h] at h0
      exact absurd h0 (by decide)
    obtain ⟨C, hC⟩ : ∃ C, (s[0]'h0).toNat = C := ⟨_, rfl⟩
    have HC := Lib.hid hC
    go_enter Tryz.func114, Tryz.ntmps114
    go_wp2_with (first
      | (go_at_call 128; refine (prefix_calls _ _ (by first | assumption | (simp; omega)) (by decide) _).mono ?_; rintro e w1 ⟨rfl, n, rfl, hn1, hn2, hn3⟩; have hn5 : n ≤ 100 := Nat.le_trans hn1 (by decide))
      | (go_at_call 129; refine (inf_calls _ _).mono ?_; rintro e w1 ⟨rfl, rfl⟩)
      | (go_at_call 130; refine (nan_calls _).mono ?_; rintro e w1 ⟨rfl, rfl⟩))
    all_goals go_ret3
    all_goals first
      | exact sp_no _ _ _ 0 (by decide)
      | (have hn4 : 1 ≤ n := by
           (try simp only [beq_iff_eq] at *)
           omega
         refine sp_yes s w _ _ (by omega) (by first | omega | (have : n ≤ 8 := hn1; omega)) (by first | exact Or.inl rfl | exact Or.inr (Or.inl rfl) | exact Or.inr (Or.inr rfl)) ?_
         first | exact sp_start0 (Or.inl rfl) (hn3 hn4) | exact sp_start0 (Or.inr rfl) (hn3 hn4) | exact sp_start1 (Or.inl rfl) (hn3 hn4))
  · have hem : s = ByteArray.empty := by
      apply ByteArray.ext
      apply Array.eq_empty_of_size_eq_zero
      show s.size = 0
      omega
    clear h0
    go_enter Tryz.func114, Tryz.ntmps114
    go_wp2
    go_ret3
    exact sp_no _ _ _ 0 (by decide)
end Go.Proofs.YthplmbgdcfmkgaaGreatDoor
/- A fresh decimal. -/
namespace Go.Proofs.YthplmbgdcfmkgaaGreatDoor
open Go.RowKit

def isZ8 : Value → Bool
  | .int .u8 0 => true
  | _ => false
theorem isZ8_eq {v : Value} (h : isZ8 v = true) : v = .int .u8 0 := by
  unfold isZ8 at h
  split at h
  · rfl
  · exact absurd h (by decide)
theorem zc_all : (Tryz.zeroCells195.toList.take 800).all isZ8 = true := by kernel_rfl
theorem zc_len : Tryz.zeroCells195.toList.length = 804 := by kernel_rfl
theorem zc_d (p : Nat) (h : p < 800) : Tryz.zeroCells195[p]? = some (.int .u8 0) := by
  have hl : p < (Tryz.zeroCells195.toList.take 800).length := by rw [List.length_take, zc_len]; omega
  have h1 := List.all_eq_true.1 zc_all _ (List.getElem_mem hl)
  have h2 := isZ8_eq h1
  rw [List.getElem_take] at h2
  rw [← Array.getElem?_toList, List.getElem?_eq_getElem (by rw [zc_len]; omega), h2]
theorem zc_n : Tryz.zeroCells195[800]? = some (.int .i64 0) := by kernel_rfl
theorem zc_dp : Tryz.zeroCells195[801]? = some (.int .i64 0) := by kernel_rfl
theorem zc_neg : Tryz.zeroCells195[802]? = some (.bool false) := by kernel_rfl
theorem zc_tr : Tryz.zeroCells195[803]? = some (.bool false) := by kernel_rfl
theorem zc_dec (w : World) : Dec (w.alloc (.cells Tryz.zeroCells195 195)) w.heap.size (fun _ => 0) 0 0 false false :=
  ⟨fun p hp => by rw [World.cell?_alloc_new]; exact zc_d p hp, by rw [World.cell?_alloc_new]; exact zc_n, by rw [World.cell?_alloc_new]; exact zc_dp,
   by rw [World.cell?_alloc_new]; exact zc_neg, by rw [World.cell?_alloc_new]; exact zc_tr, fun p => by simp [go_sem]⟩
end Go.Proofs.YthplmbgdcfmkgaaGreatDoor
/- floatBits as a sign and a rung; comparison of doubles of one sign. -/
namespace Go.Proofs.YthplmbgdcfmkgaaGreatDoor
open Go.RowKit

theorem u64_and52 (n : Int) : bits .and .u64 n 4503599627370495 = n % 4503599627370496 := by
  have h127 : (BitVec.ofInt 64 4503599627370495).toNat = 2 ^ 52 - 1 := by decide
  have key : (BitVec.ofInt 64 n &&& BitVec.ofInt 64 4503599627370495).toNat = (n % ((2 ^ 64 : Nat) : Int)).toNat % 2 ^ 52 := by
    rw [BitVec.toNat_and, BitVec.toNat_ofInt, h127, Nat.and_two_pow_sub_one_eq_mod]
  show IntKind.u64.wrap ((BitVec.ofInt 64 n &&& BitVec.ofInt 64 4503599627370495).toNat : Nat) = n % 4503599627370496
  rw [key, IntKind.wrap_u64]
  omega
theorem i64_and2047 (n : Int) : bits .and .i64 n 2047 = n % 2048 := by
  have h127 : (BitVec.ofInt 64 2047).toNat = 2 ^ 11 - 1 := by decide
  have key : (BitVec.ofInt 64 n &&& BitVec.ofInt 64 2047).toNat = (n % ((2 ^ 64 : Nat) : Int)).toNat % 2 ^ 11 := by
    rw [BitVec.toNat_and, BitVec.toNat_ofInt, h127, Nat.and_two_pow_sub_one_eq_mod]
  show IntKind.i64.wrap ((BitVec.ofInt 64 n &&& BitVec.ofInt 64 2047).toNat : Nat) = n % 2048
  rw [key, IntKind.wrap_i64]
  omega
def fbR (m e : Int) : Nat := (m % 4503599627370496).toNat + ((e + 1023) % 2048).toNat * 4503599627370496
theorem fbOut_sgn (m e : Int) (neg : Bool) : fbOut m e neg = ((sgn neg + fbR m e : Nat) : Int) := by
  have h1 : bits .or .u64 (bits .and .u64 m 4503599627370495) (IntKind.u64.wrap (IntKind.u64.wrap (bits .and .i64 (e + 1023) 2047) * 4503599627370496)) = ((fbR m e : Nat) : Int) := by
    have e0 : IntKind.u64.wrap ((e + 1023) % 2048) = (e + 1023) % 2048 := u64w _ (by omega) (by omega)
    rw [u64_and52, i64_and2047, e0, u64w _ (by omega) (by omega)]
    have e1 : m % 4503599627370496 = ((m % 4503599627370496).toNat : Int) := by omega
    have e2 : (e + 1023) % 2048 * 4503599627370496 = ((((e + 1023) % 2048).toNat * 4503599627370496 : Nat) : Int) := by omega
    rw [e1, e2, u64_or_nat _ _ (by omega) (by omega), Nat.or_comm, nat_join 52 _ _ (by omega) (by omega)]
    unfold fbR
    omega
  cases neg
  · rw [fbOut_no, h1, sgn_no]
  · have hlt : fbR m e < 9223372036854775808 := by unfold fbR; omega
    rw [fbOut_yes, h1]
    have h2 := u64_or_nat (fbR m e) 9223372036854775808 (by omega) (by omega)
    rw [Nat.or_comm, nat_join 63 _ _ (by decide) (by omega)] at h2
    exact h2
/-- The rung and whether it is out of range. -/
def fbF (s : DS) : Nat × Bool := (fbR (fbRes s).1 (fbRes s).2.1, (fbRes s).2.2)
theorem fbM_low (s : DS) : -1022 ≤ (fbM s).2 := by
  unfold fbM
  split <;> simp only <;> omega
theorem fbEnd_fin {m e : Int} (h0 : -1022 ≤ e) (h1 : e + 1023 < 2047) : (fbEnd m e).2.2 = true ∧ fbEnd m e = (0, 1024, true) ∨ (fbEnd m e).2.2 = false ∧ -1023 ≤ (fbEnd m e).2.1 ∧ (fbEnd m e).2.1 ≤ 1023 := by
  unfold fbEnd
  split
  · split
    · exact Or.inl ⟨rfl, rfl⟩
    · exact Or.inr ⟨rfl, by simp only; omega, by simp only; omega⟩
  · split
    · exact Or.inr ⟨rfl, by simp only; omega, by simp only; omega⟩
    · exact Or.inr ⟨rfl, by simp only; omega, by simp only; omega⟩
theorem fbR_fin {m e : Int} (h0 : -1023 ≤ e) (h1 : e ≤ 1023) : fbR m e < 9218868437227405312 := by unfold fbR; omega
theorem fbF_fin (s : DS) : (fbF s).1 ≤ 9218868437227405312 ∧ ((fbF s).2 = false → (fbF s).1 < 9218868437227405312) := by
  have key : fbRes s = (0, 1024, true) ∨ (fbRes s).2.2 = false ∧ -1023 ≤ (fbRes s).2.1 ∧ (fbRes s).2.1 ≤ 1023 := by
    unfold fbRes
    split
    · exact Or.inr ⟨rfl, by simp, by simp⟩
    · split
      · exact Or.inl rfl
      · split
        · exact Or.inr ⟨rfl, by simp, by simp⟩
        · split
          · exact Or.inl rfl
          · have h0 := fbM_low s
            rename_i h
            rcases fbEnd_fin (m := fbRd (fbM s).1) h0 (by omega) with ⟨_, h⟩ | h
            · exact Or.inl h
            · exact Or.inr h
  rcases key with h | ⟨h1, h2, h3⟩
  · unfold fbF
    rw [h]
    exact ⟨by decide, fun h => absurd h (by decide)⟩
  · have := fbR_fin (m := (fbRes s).1) h2 h3
    exact ⟨Nat.le_of_lt this, fun _ => this⟩

theorem read_inf (neg : Bool) : Ieee.double.read (sgn neg + 9218868437227405312) = .infinity neg := by cases neg <;> decide
theorem read_any (neg : Bool) (a : Nat) (ha : a ≤ 9218868437227405312) : Ieee.double.read (sgn neg + a) = if a = 9218868437227405312 then .infinity neg else .number neg (mg a) (pl a) := by
  by_cases h : a = 9218868437227405312
  · rw [if_pos h, h, read_inf]
  · rw [if_neg h, read_sgn neg a (by omega)]
def eqR (a b : Nat) : Bool := Ieee.double.order (sgn false + a) (sgn false + b) == some .eq
theorem cmp_eq (x y : Int) : ((some (compare x y) : Option Ordering) == some .eq) = decide (x = y) := by
  by_cases h : x = y
  · rw [h, decide_eq_true rfl, show compare y y = .eq from Int.compare_eq_eq.2 rfl]; rfl
  · have : compare x y ≠ .eq := fun e => h (Int.compare_eq_eq.1 e)
    rw [decide_eq_false h]
    cases hc : compare x y <;> first | rfl | exact absurd hc this
theorem signed_eq (neg : Bool) (a b i j : Nat) : decide (Ieee.signed neg a i = Ieee.signed neg b j) = decide (a <<< i = b <<< j) := by
  cases neg
  · simp only [Ieee.signed, Bool.false_eq_true, if_false]
    by_cases h : a <<< i = b <<< j
    · rw [decide_eq_true h, decide_eq_true (by omega)]
    · rw [decide_eq_false h, decide_eq_false (by omega)]
  · simp only [Ieee.signed, if_true]
    by_cases h : a <<< i = b <<< j
    · rw [decide_eq_true h, decide_eq_true (by omega)]
    · rw [decide_eq_false h, decide_eq_false (by omega)]
theorem eq_sgn (neg : Bool) (a b : Nat) (ha : a ≤ 9218868437227405312) (hb : b ≤ 9218868437227405312) : (Ieee.double.order (sgn neg + a) (sgn neg + b) == some .eq) = eqR a b := by
  have key : ∀ neg, (Ieee.double.order (sgn neg + a) (sgn neg + b) == some .eq) =
      if a = 9218868437227405312 then decide (b = 9218868437227405312) else if b = 9218868437227405312 then false
      else decide (mg a <<< (pl a - min (pl a) (pl b)).toNat = mg b <<< (pl b - min (pl a) (pl b)).toNat) := by
    intro neg
    show ((Ieee.double.read (sgn neg + a)).order (Ieee.double.read (sgn neg + b)) == some .eq) = _
    rw [read_any neg a ha, read_any neg b hb]
    by_cases h1 : a = 9218868437227405312
    · rw [if_pos h1, if_pos h1]
      by_cases h2 : b = 9218868437227405312
      · rw [if_pos h2, decide_eq_true h2]; cases neg <;> rfl
      · rw [if_neg h2, decide_eq_false h2]; cases neg <;> rfl
    · rw [if_neg h1, if_neg h1]
      by_cases h2 : b = 9218868437227405312
      · rw [if_pos h2, if_pos h2]; cases neg <;> rfl
      · rw [if_neg h2, if_neg h2]
        show (some (compare _ _) == some Ordering.eq) = _
        rw [cmp_eq, signed_eq]
  unfold eqR
  rw [key neg, key false]
end Go.Proofs.YthplmbgdcfmkgaaGreatDoor
