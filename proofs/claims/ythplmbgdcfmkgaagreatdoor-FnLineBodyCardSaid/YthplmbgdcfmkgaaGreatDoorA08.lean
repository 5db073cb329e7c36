/- uscale. -/
import Derived.Test.YthplmbgdcfmkgaaGreatDoorA05
import Derived.Test.YthplmbgdcfmkgaaGreatDoorA06
import Derived.Deep.CutBlock
import Derived.Deep.CutRange
import Derived.Test.YthplmbgdcfmkgaaGreatDoorA07
set_option linter.unusedVariables false
set_option linter.unusedSimpArgs false
/- The library's scaling: prescale, uscale. -/
namespace Go.Proofs.YthplmbgdcfmkgaaGreatDoor
open Go.RowKit

/-- The table of powers of ten: what it holds is told by T. -/
structure Pow10 (B : Nat) (T : Nat → Nat × Nat) (w : World) : Prop where
  hi : ∀ i : Nat, i < 696 → w.cell? ⟨14, i * 2, none⟩ = some (.int .u64 (T i).1)
  lo : ∀ i : Nat, i < 696 → w.cell? ⟨14, i * 2 + 1, none⟩ = some (.int .u64 (T i).2)
  hi64 : ∀ i : Nat, i < 696 → (T i).1 < 18446744073709551616
  lo64 : ∀ i : Nat, i < 696 → (T i).2 < 18446744073709551616
  le : 15 ≤ B

structure Scal (w : World) (g : Nat) (hi lo : Nat) (s : Int) : Prop where
  c0 : w.cell? ⟨g, 0, none⟩ = some (.int .u64 hi)
  c1 : w.cell? ⟨g, 1, none⟩ = some (.int .u64 lo)
  c2 : w.cell? ⟨g, 2, none⟩ = some (.int .i64 s)
  fr : ∀ p, w.frozen? ⟨g, p, none⟩ = false

set_option maxRecDepth 100000 in
theorem prescale_calls (T : Nat → Nat × Nat) (B g : Nat) (e p lp : Int) (hp0 : -345 ≤ p) (hp1 : p ≤ 310) (he0 : -10000 ≤ e) (he1 : e ≤ 10000) (hl0 : -10000 ≤ lp) (hl1 : lp ≤ 10000)
    (w : World) (hT : Pow10 B T w) (hg : B ≤ g) (hs : Scal w g 0 0 0) :
    Calls Tryz.prog 135 #[.pointer (some ⟨g, 0, none⟩), .int .i64 e, .int .i64 p, .int .i64 lp] w fun x w' =>
      x = .returned (.tuple #[]) ∧ Scal w' g (T (p + 348).toNat).1 (T (p + 348).toNat).2 (-(e + lp + 3)) ∧ Only g w w' := by
  obtain ⟨i, hi⟩ : ∃ i : Nat, (i : Int) = p + 348 := ⟨(p + 348).toNat, by omega⟩
  have hi' : p = (i : Int) - 348 := by omega
  subst hi'
  have e0 : ((i : Int) - 348 + 348).toNat = i := by omega
  rw [e0]
  clear hi e0
  have hB := hT.le
  have c0 := hs.c0
  have c1 := hs.c1
  have c2 := hs.c2
  have f0 := hs.fr 0
  have f1 := hs.fr 1
  have f2 := hs.fr 2
  have k0 := hT.hi i (by omega)
  have k1 := hT.lo i (by omega)
  have hne : ¬ (14 = g) := by omega
  have hne2 : ¬ (g = 14) := by omega
  go_enter Tryz.func135, Tryz.ntmps135
  go_wp2
  go_end0
  refine ⟨rfl, ⟨?_, ?_, cell_set_same (by rw [cell_set_ne (by omega), cell_set_ne (by omega)]; exact c2), fun p => by rw [frozen_set, frozen_set, frozen_set]; exact hs.fr p⟩, (((Only.refl g w).setCell _ _).setCell _ _).setCell _ _⟩
  · rw [cell_set_ne (by omega), cell_set_ne (by omega)]; exact cell_set_same c0
  · rw [cell_set_ne (by omega)]; exact cell_set_same (by rw [cell_set_ne (by omega)]; exact c1)

theorem and63 (s : Nat) (h : s < 64) : bits .and .i64 (s : Int) 63 = (s : Int) := by
  have : ∀ s : Nat, s < 64 → bits .and .i64 (s : Int) 63 = (s : Int) := by decide +kernel
  exact this s h
def mhi (x y : Nat) : Nat := x * y / 18446744073709551616
def mlo (x y : Nat) : Nat := x * y % 18446744073709551616
theorem mul_calls (x y : Nat) (hx : x < 18446744073709551616) (hy : y < 18446744073709551616) (w : World) :
    Calls Tryz.prog 145 #[.int .u64 x, .int .u64 y] w fun e w' => e = .returned (.tuple #[.int .u64 (mhi x y), .int .u64 (mlo x y)]) ∧ w' = w := Tryz.bits_Mul64 x y hx hy w
theorem mhi_lt (x y : Nat) (hx : x < 18446744073709551616) (hy : y < 18446744073709551616) : mhi x y < 18446744073709551616 := by
  have : x * y < 18446744073709551616 * 18446744073709551616 := Nat.mul_lt_mul'' hx hy
  unfold mhi
  exact Nat.div_lt_of_lt_mul this
theorem mlo_lt (x y : Nat) : mlo x y < 18446744073709551616 := Nat.mod_lt _ (by decide)
theorem bool2u_calls' (b : Bool) (w : World) : Calls Tryz.prog 123 #[.bool b] w fun e w' => e = .returned (.int .u64 (if b then 1 else 0)) ∧ w' = w :=
  (bool2u_calls b w).mono fun _ _ h => ⟨h.1, h.2.symm⟩
def b2i (b : Bool) : Int := if b then 1 else 0
theorem bool2u_b (b : Bool) (w : World) : Calls Tryz.prog 123 #[.bool b] w fun e w' => e = .returned (.int .u64 (b2i b)) ∧ w' = w := bool2u_calls' b w
theorem ret_u {a b : Int} (h : a = b) : Ending.returned (.int .u64 b) = .returned (.int .u64 a) := by rw [h]
def usF (M1 L1 M2 : Nat) (s : Nat) : Int :=
  if (IntKind.u64.wrap ((M1 : Int) / 2 ^ s * 2 ^ s) != (M1 : Int)) = true then bits .or .u64 ((M1 : Int) / 2 ^ s) 1
  else bits .or .u64 (IntKind.u64.wrap ((M1 : Int) - b2i (decide (L1 < M2))) / 2 ^ s) (b2i (decide (1 < IntKind.u64.wrap ((L1 : Int) - M2))))

set_option maxHeartbeats 2000000 in
set_option maxRecDepth 100000 in
theorem uscale_calls (x hi lo : Nat) (s : Nat) (hs0 : 8 ≤ s) (hs1 : s < 64) (hx : x < 18446744073709551616) (hh : hi < 18446744073709551616) (hl : lo < 18446744073709551616) (w : World) (g : Nat) (h : Scal w g hi lo s) :
    Calls Tryz.prog 136 #[.int .u64 x, .pointer (some ⟨g, 0, none⟩)] w fun e w' => e = .returned (.int .u64 (usF (mhi x hi) (mlo x hi) (mhi x lo) s)) ∧ Drew w w' := by
  obtain ⟨M1, hM1⟩ : ∃ M1, mhi x hi = M1 := ⟨_, rfl⟩
  obtain ⟨L1, hL1⟩ : ∃ L1, mlo x hi = L1 := ⟨_, rfl⟩
  obtain ⟨M2, hM2⟩ : ∃ M2, mhi x lo = M2 := ⟨_, rfl⟩
  rw [hM1, hL1, hM2]
  have b1 : M1 < 18446744073709551616 := by rw [← hM1]; exact mhi_lt x hi hx hh
  have b2 : L1 < 18446744073709551616 := by rw [← hL1]; exact mlo_lt x hi
  have b3 : M2 < 18446744073709551616 := by rw [← hM2]; exact mhi_lt x lo hx hl
  have c0 := h.c0
  have c1 := h.c1
  have c2 := h.c2
  have hsa := and63 s hs1
  clear h
  go_enter Tryz.func136, Tryz.ntmps136
  by_cases hc : (IntKind.u64.wrap ((M1 : Int) / 2 ^ s * 2 ^ s) != (M1 : Int)) = true
  · go_wp2_with (first | (go_at_call 145; refine (mul_calls _ _ (by omega) (by omega) _).mono ?_; rintro e w' ⟨rfl, rfl⟩) | (go_at_call 123; refine (bool2u_b _ _).mono ?_; rintro e w' ⟨rfl, rfl⟩))
    go_ret
    exact ⟨ret_u (by rw [usF, if_pos hc]), Drew.refl _⟩
  · have hc' : (IntKind.u64.wrap ((M1 : Int) / 2 ^ s * 2 ^ s) != (M1 : Int)) = false := by simpa using hc
    have HC := Lib.hid hc
    clear hc
    obtain ⟨ba, hba⟩ : ∃ ba, decide (L1 < M2) = ba := ⟨_, rfl⟩
    obtain ⟨H, hH⟩ : ∃ H, IntKind.u64.wrap ((M1 : Int) - b2i ba) = H := ⟨_, rfl⟩
    obtain ⟨D, hD⟩ : ∃ D, IntKind.u64.wrap ((L1 : Int) - M2) = D := ⟨_, rfl⟩
    obtain ⟨bb, hbb⟩ : ∃ bb, decide (1 < D) = bb := ⟨_, rfl⟩
    have hR : Hid (usF M1 L1 M2 s = bits .or .u64 (H / 2 ^ s) (b2i bb)) := by rw [Hid, usF, if_neg HC.out, hba, hH, hD, hbb]
    go_upto_region 7 with (first | (go_at_call 145; refine (mul_calls _ _ (by omega) (by omega) _).mono ?_; rintro e w' ⟨rfl, rfl⟩) | (go_at_call 123; refine (bool2u_b _ _).mono ?_; rintro e w' ⟨rfl, rfl⟩))
    clear c0 c1 c2 hba hH
    go_quiet ((go_at_call 123; exact Calls.quiet_of_same (bool2u_b _ _)))
    go_wp2
    go_ret
    exact ⟨ret_u hR.out, Drew.drewN (Drew.refl _) _⟩
end Go.Proofs.YthplmbgdcfmkgaaGreatDoor
/- The library's parseFloat64. -/
namespace Go.Proofs.YthplmbgdcfmkgaaGreatDoor
open Go.RowKit

theorem usF_bound (M1 L1 M2 s : Nat) (h1 : M1 < 18446744073709551616) (hs : 8 ≤ s) : ∃ u : Nat, usF M1 L1 M2 s = (u : Int) ∧ u < 72057594037927936 := by
  have key : ∀ (X c : Nat), X < 18446744073709551616 → c < 2 → ∃ u : Nat, bits .or .u64 ((X : Int) / 2 ^ s) (c : Int) = (u : Int) ∧ u < 72057594037927936 := by
    intro X c hX hc
    have hq : X / 2 ^ s < 72057594037927936 := by
      apply Nat.div_lt_of_lt_mul
      have : 2 ^ 8 ≤ 2 ^ s := Nat.pow_le_pow_right (by decide) hs
      have h2 := Nat.mul_le_mul_right 72057594037927936 this
      omega
    have e : ((X : Int) / 2 ^ s) = ((X / 2 ^ s : Nat) : Int) := by simp
    refine ⟨X / 2 ^ s ||| c, ?_, ?_⟩
    · rw [e]; exact u64_or_nat _ _ (by omega) (by omega)
    · exact Nat.or_lt_two_pow (n := 56) hq (by omega)
  unfold usF
  split
  · exact key M1 1 h1 (by decide)
  · have hw : ∃ X : Nat, IntKind.u64.wrap ((M1 : Int) - b2i (decide (L1 < M2))) = (X : Int) ∧ X < 18446744073709551616 := by
      rw [IntKind.wrap_u64]
      exact ⟨(((M1 : Int) - b2i (decide (L1 < M2))) % 18446744073709551616).toNat, by omega, by omega⟩
    obtain ⟨X, hX, hX2⟩ := hw
    rw [hX]
    cases decide (1 < IntKind.u64.wrap ((L1 : Int) - M2))
    · exact key X 0 hX2 (by decide)
    · exact key X 1 hX2 (by decide)

theorem Pow10.below {B : Nat} {T : Nat → Nat × Nat} {w w' : World} (h : Pow10 B T w) (hb : Below B w w') : Pow10 B T w' :=
  ⟨fun i hi => by rw [hb.cell (show 14 < B by have := h.le; omega)]; exact h.hi i hi, fun i hi => by rw [hb.cell (show 14 < B by have := h.le; omega)]; exact h.lo i hi, h.hi64, h.lo64, h.le⟩
def pfE (m : Nat) (p : Int) : Int := min 1074 (53 - (Lib.bitLen m : Int) - p * 108853 / 32768)
def pfS (m : Nat) (p : Int) : Int := -((pfE m p - (64 - (Lib.bitLen m : Int))) + p * 108853 / 32768 + 3)
def pfX (m : Nat) : Nat := m * 2 ^ (64 - Lib.bitLen m) % 18446744073709551616
def pfU (T : Nat → Nat × Nat) (m : Nat) (p : Int) : Nat :=
  (usF (mhi (pfX m) (T (p + 348).toNat).1) (mlo (pfX m) (T (p + 348).toNat).1) (mhi (pfX m) (T (p + 348).toNat).2) (pfS m p).toNat).toNat
def pfF (T : Nat → Nat × Nat) (m : Nat) (p : Int) : Nat × Bool :=
  if 64 ≤ pfS m p then (0, false)
  else if 36028797018963966 ≤ pfU T m p then packF (rndF (bits .or .u64 ((pfU T m p : Int) / 2) (bits .and .u64 (pfU T m p) 1))).toNat (-(pfE m p - 1))
  else packF (rndF (bits .or .u64 (pfU T m p) (bits .and .u64 (pfU T m p) 1))).toNat (-(pfE m p))

theorem pfS_ge (m : Nat) (p : Int) : 8 ≤ pfS m p := by unfold pfS pfE; omega

theorem low_or (x u : Nat) (hx : x < 36028797018963968) (hu : u < 18446744073709551616) : ∃ v : Nat, bits .or .u64 (x : Int) (bits .and .u64 (u : Int) 1) = (v : Int) ∧ v < 36028797018963968 := by
  have e : ∃ c : Nat, bits .and .u64 (u : Int) 1 = (c : Int) ∧ c < 2 := by
    have := u64_and_nat u 1 hu (by omega)
    rw [nat_mask1] at this
    exact ⟨u % 2, this, by omega⟩
  obtain ⟨c, hc, hc2⟩ := e
  rw [hc]
  exact ⟨x ||| c, u64_or_nat _ _ (by omega) (by omega), Nat.or_lt_two_pow (n := 55) hx (by omega)⟩
theorem rnd_nat (v : Nat) (h : v < 36028797018963968) : ∃ r : Nat, rndF (v : Int) = (r : Int) ∧ r ≤ 9007199254740992 := by
  have := rndF_bound v (by omega)
  exact ⟨(rndF v).toNat, by omega, by omega⟩
theorem pf_ret {T : Nat → Nat × Nat} {neg : Bool} {m : Nat} {p : Int} {x : Nat} {bb : Bool} {v : Value} {y : Nat} {w w' : World} (h : pfF T m p = (x, bb)) (hy : y = sgn neg + x) (hv : v = errv bb) (hb : Below w.heap.size w w') :
    Ending.returned (.tuple #[.float .f64 y, v]) = .returned (.tuple #[.float .f64 (sgn neg + (pfF T m p).1), errv (pfF T m p).2]) ∧ Below w.heap.size w w' := by
  subst hy hv; rw [h]; exact ⟨rfl, hb⟩

set_option maxHeartbeats 2000000 in
set_option maxRecDepth 100000 in
theorem pf_calls (T : Nat → Nat × Nat) (B : Nat) (neg : Bool) (m : Nat) (p : Int) (hm : m < 18446744073709551616) (hp0 : -345 ≤ p) (hp1 : p ≤ 310)
    (w : World) (hT : Pow10 B T w) (hB : B ≤ w.heap.size) (hb : Lib.bitLen m ≤ 64) :
    Calls Tryz.prog 126 #[.int .u64 m, .int .i64 p, .int .u64 (sgn neg : Nat)] w fun x w' =>
      x = .returned (.tuple #[.float .f64 (sgn neg + (pfF T m p).1), errv (pfF T m p).2]) ∧ Below w.heap.size w w' := by
  have hf := frombits_run
  obtain ⟨b, hbe⟩ : ∃ b, Lib.bitLen m = b := ⟨_, rfl⟩
  have hW : Hid (∃ W, W = w.alloc (.cells #[.int .u64 0, .int .u64 0, .int .i64 0] 212)) := ⟨_, rfl⟩
  obtain ⟨W, hW⟩ := hW.out
  have hsz : W.heap.size = w.heap.size + 1 := by rw [hW]; simp
  have hBW : Below w.heap.size w W := by rw [hW]; exact (Below.refl _ w).alloc (Nat.le_refl _) _
  have hTW : Hid (Pow10 B T W) := hT.below (hBW.mono hB)
  have hSW : Hid (Scal W w.heap.size 0 0 0) := by
    rw [Hid, hW]
    exact ⟨World.cell?_alloc_new _ _ _ _, World.cell?_alloc_new _ _ _ _, World.cell?_alloc_new _ _ _ _, fun p => by simp [go_sem]⟩
  have HBW := Lib.hid hBW
  have HW := Lib.hid hW
  have hHI := hT.hi64 (p + 348).toNat (by omega)
  have hLO := hT.lo64 (p + 348).toNat (by omega)
  obtain ⟨L, hL⟩ : ∃ L, p * 108853 / 32768 = L := ⟨_, rfl⟩
  obtain ⟨E, hE⟩ : ∃ E, min 1074 (53 - (b : Int) - L) = E := ⟨_, rfl⟩
  have hL0 : -1200 ≤ L := by omega
  have hL1 : L ≤ 1200 := by omega
  have hb64 : b ≤ 64 := by omega
  have hE0 : -1300 ≤ E := by omega
  have hE1 : E ≤ 1074 := by omega
  have hEp : Hid (pfE m p = E) := by rw [Hid, pfE, hbe, hL, hE]
  have hEl : E ≤ 53 - b - L := by omega
  have hEe : Hid (E = 1074 ∨ E = 53 - b - L) := by show _ ∨ _; omega
  have hXp : Hid (pfX m = m * 2 ^ (64 - b) % 18446744073709551616) := by rw [Hid, pfX, hbe]
  obtain ⟨X, hX⟩ : ∃ X : Nat, pfX m = X := ⟨_, rfl⟩
  have hXlt : X < 18446744073709551616 := by rw [← hX]; exact Nat.mod_lt _ (by decide)
  have hwr : IntKind.u64.wrap ((m : Int) * 2 ^ (64 - b)) = X := by
    rw [IntKind.wrap_u64, ← hX, hXp.out]
    simp
  have HX := Lib.hid hX
  have HB := Lib.hid hB
  have HBE := Lib.hid hbe
  have HLE := Lib.hid hL
  clear hT hBW hX hW hB
  go_enter Tryz.func126, Tryz.ntmps126
  go_wp2_with (first
    | (go_at_call 133; refine (Tryz.bits_Len64 _ _ (by omega) (by omega)).mono ?_; rintro e w1 ⟨rfl, h1⟩; obtain rfl := h1.symm)
    | (go_at_call 134; refine (log2_calls _ (by omega) (by omega) _).mono ?_; rintro e w' ⟨rfl, rfl⟩))
  rw [← HW.out]
  clear hbe hL hE
  have hgB : Hid (B ≤ w.heap.size) := HB
  refine (prescale_calls T B _ _ _ _ hp0 hp1 (by omega) (by omega) (by omega) (by omega) _ hTW.out hgB.out hSW.out).mono ?_
  rintro e w2 ⟨rfl, hsc, ho⟩
  have HB2 : Hid (Below w.heap.size w w2) := HBW.out.trans (ho.below (Nat.le_refl _))
  have c2 := hsc.c2
  have HSC := Lib.hid hsc
  obtain ⟨S, hS⟩ : ∃ S : Int, -(E - (64 - (b : Int)) + L + 3) = S := ⟨_, rfl⟩
  rw [hS] at c2 HSC
  have hSp : Hid (pfS m p = S) := by rw [Hid, pfS, hEp.out, HBE.out, HLE.out, hS]
  have hS8 : 8 ≤ S := by omega
  clear hS hsc ho hTW hSW HBW HW
  by_cases hs64 : 64 ≤ S
  · have hR : Hid (pfF T m p = (0, false)) := by rw [Hid, pfF, if_pos (by rw [hSp.out]; exact hs64)]
    have hor := sgn_or0 neg
    go_wp2
    go_ret2
    exact pf_ret hR.out rfl rfl HB2.out
  · obtain ⟨Sn, hSn⟩ : ∃ Sn : Nat, S = (Sn : Int) := ⟨S.toNat, by omega⟩
    subst hSn
    have hs1 : Sn < 64 := by omega
    have hs8 : 8 ≤ Sn := by omega
    obtain ⟨u, hu, hu56⟩ := usF_bound (mhi X (T (p + 348).toNat).1) (mlo X (T (p + 348).toNat).1) (mhi X (T (p + 348).toNat).2) Sn (mhi_lt _ _ hXlt hHI) hs8
    have hUp : Hid (pfU T m p = u) := by rw [Hid, pfU, HX.out, hSp.out, Int.toNat_natCast, hu]; rfl
    have HUS := uscale_calls X _ _ Sn hs8 hs1 hXlt hHI hLO w2 w.heap.size HSC.out
    rw [hu] at HUS
    have HUS' := Lib.hid HUS
    clear HUS hu
    go_wp2_with fail
    refine HUS'.out.mono ?_
    rintro e w3 ⟨rfl, hdr⟩
    have HB3 : Hid (Below w.heap.size w w3) := HB2.out.trans (hdr.below _)
    have HSp := hSp
    clear hdr c2 HUS' HSC hs64
    by_cases hsh : 36028797018963966 ≤ u
    · have hshi : (36028797018963966 : Int) ≤ u := by omega
      obtain ⟨v, hv, hv56⟩ := low_or (u / 2) u (by omega) (by omega)
      have hv' : bits .or .u64 ((u : Int) / 2) (bits .and .u64 (u : Int) 1) = v := by rw [← hv]; rfl
      obtain ⟨r, hr, hr53⟩ := rnd_nat v hv56
      have hR : Hid (pfF T m p = packF r (-(E - 1))) := by
        rw [Hid, pfF, if_neg (by rw [hSp.out]; omega), hUp.out, if_pos (by omega), hv', hr, hEp.out]; rfl
      have hor := sgn_or neg r (by omega)
      clear hSp hv hsh
      go_wp2_with (first
      | (go_at_call 138; refine (unmin_calls _).mono ?_; rintro e w4 ⟨rfl, rfl⟩)
      | (go_at_call 137; refine (bool2i_calls _ _).mono ?_; rintro e w4 ⟨rfl, rfl⟩)
      | (go_at_call 140; refine (round_calls _ (by omega) (by omega) _).mono ?_; rintro e w4 ⟨rfl, rfl⟩)
      | (go_at_call 143; refine (pack_calls neg r _ (by omega) (by omega) (by omega) _).mono ?_; rintro e w4 ⟨rfl, rfl⟩))
      go_ret2
      exact pf_ret hR.out rfl rfl HB3.out
    · obtain ⟨v, hv, hv56⟩ := low_or u u (by omega) (by omega)
      obtain ⟨r, hr, hr53⟩ := rnd_nat v (by omega)
      have hR : Hid (pfF T m p = packF r (-E)) := by
        rw [Hid, pfF, if_neg (by rw [hSp.out]; omega), hUp.out, if_neg (by omega), hv, hr, hEp.out]; rfl
      have hshi : decide ((36028797018963966 : Int) ≤ u) = false := decide_eq_false (by omega)
      have hor := sgn_or neg r (by omega)
      clear hSp hsh
      go_wp2_with (first
      | (go_at_call 138; refine (unmin_calls _).mono ?_; rintro e w4 ⟨rfl, rfl⟩)
      | (go_at_call 137; refine (bool2i_calls _ _).mono ?_; rintro e w4 ⟨rfl, rfl⟩)
      | (go_at_call 140; refine (round_calls _ (by omega) (by omega) _).mono ?_; rintro e w4 ⟨rfl, rfl⟩)
      | (go_at_call 143; refine (pack_calls neg r _ (by omega) (by omega) (by omega) _).mono ?_; rintro e w4 ⟨rfl, rfl⟩))
      go_ret2
      exact pf_ret hR.out rfl rfl HB3.out

theorem packF_fin {m : Nat} {e : Int} (hm : m ≤ 9007199254740992) (he : -1074 ≤ e) : (packF m e).1 ≤ 9218868437227405312 ∧ ((packF m e).2 = false → (packF m e).1 < 9218868437227405312) := by
  unfold packF
  split
  · exact ⟨by simp only; omega, fun _ => by simp only; omega⟩
  · split
    · exact ⟨Nat.le_refl _, fun h => absurd h (by simp)⟩
    · have hk : (1075 + e).toNat ≤ 2046 := by omega
      have h1 : (1075 + e).toNat * 4503599627370496 ≤ 2046 * 4503599627370496 := Nat.mul_le_mul_right _ hk
      exact ⟨by simp only; omega, fun _ => by simp only; omega⟩
theorem pfF_fin (T : Nat → Nat × Nat) (m : Nat) (p : Int) (hT : (T (p + 348).toNat).1 < 18446744073709551616) :
    (pfF T m p).1 ≤ 9218868437227405312 ∧ ((pfF T m p).2 = false → (pfF T m p).1 < 9218868437227405312) := by
  unfold pfF
  split
  · exact ⟨by simp, fun _ => by simp⟩
  · have hu : pfU T m p < 72057594037927936 := by
      obtain ⟨u, hu, hu56⟩ := usF_bound (mhi (pfX m) (T (p + 348).toNat).1) (mlo (pfX m) (T (p + 348).toNat).1) (mhi (pfX m) (T (p + 348).toNat).2) (pfS m p).toNat (mhi_lt _ _ (Nat.mod_lt _ (by decide)) hT) (by have := pfS_ge m p; omega)
      rw [pfU, hu]; omega
    have hE : pfE m p ≤ 1074 := by unfold pfE; omega
    split
    · obtain ⟨v, hv, hv56⟩ := low_or (pfU T m p / 2) (pfU T m p) (by omega) (by omega)
      obtain ⟨r, hr, hr53⟩ := rnd_nat v hv56
      rw [show ((pfU T m p : Int) / 2) = ((pfU T m p / 2 : Nat) : Int) from rfl, hv, hr]
      exact packF_fin (by omega) (by omega)
    · obtain ⟨v, hv, hv56⟩ := low_or (pfU T m p) (pfU T m p) (by omega) (by omega)
      obtain ⟨r, hr, hr53⟩ := rnd_nat v hv56
      rw [hv, hr]
      exact packF_fin (by omega) (by omega)
end Go.Proofs.YthplmbgdcfmkgaaGreatDoor
/- readFloat's result: bounds; what atof64 computes. -/
namespace Go.Proofs.YthplmbgdcfmkgaaGreatDoor
open Go.RowKit

def M64 (m : Int) : Prop := 0 ≤ m ∧ m < 18446744073709551616
theorem m64_wrap (x : Int) : M64 (IntKind.u64.wrap x) := by rw [IntKind.wrap_u64]; unfold M64; omega
theorem rfStep_m {c : Nat} {r r' : RF} (h : rfStep c r = some r') (hm : M64 r.m) : M64 r'.m := by
  unfold rfStep at h
  split at h
  · split at h
    · exact absurd h (by simp)
    · injection h with h; subst h; exact hm
  · split at h
    · split at h
      · injection h with h; subst h; exact hm
      · injection h with h; subst h
        unfold rfDigit
        split
        · exact m64_wrap _
        · exact hm
    · exact absurd h (by simp)
theorem rfRun_inv : ∀ (l : List UInt8) (r : RF), M64 r.m → M64 (rfRun l r).2.m ∧ (rfRun l r).1.length ≤ l.length ∧ ((rfRun l r).2.dig = true → r.dig = true ∨ (rfRun l r).1.length < l.length)
  | [], r, h => ⟨h, Nat.le_refl _, fun e => Or.inl e⟩
  | c :: l, r, h => by
    cases e : rfStep c.toNat r with
    | none => rw [rfRun_stop e]; exact ⟨h, Nat.le_refl _, fun e => Or.inl e⟩
    | some r' =>
      rw [rfRun_go e]
      have ih := rfRun_inv l r' (rfStep_m e h)
      exact ⟨ih.1, by rw [List.length_cons]; omega, fun _ => Or.inr (by rw [List.length_cons]; omega)⟩
theorem rfE_len : ∀ (l : List UInt8) (e : Int), (rfE l e).2.length ≤ l.length
  | [], e => Nat.le_refl _
  | c :: l, e => by
    rw [rfE]
    split
    · have := rfE_len l (if e < 10000 then e * 10 + c.toNat - 48 else e); rw [List.length_cons]; omega
    · exact Nat.le_refl _
/-- What is known of readFloat's result on L bytes. -/
structure RB (L : Nat) (r : RR) : Prop where
  m : M64 r.m
  n : r.n ≤ L
  pos : r.ok = true → 1 ≤ r.n
theorem rfFin_rb {m nm dp : Int} {tr : Bool} {n L : Nat} (h : M64 m) (h1 : 1 ≤ n) (h2 : n ≤ L) : RB L (rfFin m nm dp tr n) := ⟨h, h2, fun _ => h1⟩
theorem rfEx_rb {len : Nat} {r : RF} {dp es : Int} {l : List UInt8} (hm : M64 r.m) (hl : l.length < len) : RB len (rfEx len r dp es l) := by
  cases l with
  | nil => exact ⟨hm, Nat.le_refl _, fun h => absurd h (by simp [rfEx])⟩
  | cons c l =>
    show RB len (if isD c.toNat then rfFin r.m r.nm (dp + (rfE (c :: l) 0).1 * es) r.tr (len - (rfE (c :: l) 0).2.length) else ⟨r.m, 0, r.tr, len - (l.length + 1), false⟩)
    split
    · have := rfE_len (c :: l) 0
      rw [List.length_cons] at hl this
      exact rfFin_rb hm (by omega) (by omega)
    · exact ⟨hm, Nat.sub_le _ _, fun h => absurd h (by simp)⟩
theorem rfF_rb (l : List UInt8) : RB l.length (rfF l) := by
  obtain ⟨h1, h2, h3⟩ := rfRun_inv l rf0 ⟨by decide, by decide⟩
  unfold rfF
  obtain ⟨p, hp⟩ : ∃ p, p = rfRun l rf0 := ⟨_, rfl⟩
  rw [← hp] at h1 h2 h3
  simp only [← hp]
  split
  · rename_i hd
    have h4 : p.1.length < l.length := by
      rcases h3 hd with h | h
      · exact absurd h (by decide)
      · exact h
    split
    · rename_i e
      rw [e, List.length_nil] at h4
      exact rfFin_rb h1 (by omega) (Nat.le_refl _)
    · rename_i c l1 e
      rw [e, List.length_cons] at h4
      split
      · split
        · exact ⟨h1, Nat.le_refl _, fun h => absurd h (by simp)⟩
        · rename_i d l2 e2
          rw [List.length_cons] at h4
          split
          · exact rfEx_rb h1 (by omega)
          · split
            · exact rfEx_rb h1 (by omega)
            · exact rfEx_rb h1 (by rw [List.length_cons]; omega)
      · exact rfFin_rb h1 (by omega) (by omega)
  · exact ⟨h1, Nat.sub_le _ _, fun h => absurd h (by simp)⟩

/-- What the library's conversion of a decimal without its sign comes to: none: no number; a rung, and whether it is out of range. -/
def atF (T : Nat → Nat × Nat) (F : Nat → Nat) (l : List UInt8) : Option (Nat × Bool) :=
  if (rfF l).ok = false then none
  else if (rfF l).m = 0 then some (0, false)
  else if 310 < (rfF l).exp then some (9218868437227405312, true)
  else if (rfF l).exp < -345 then some (0, false)
  else if (rfF l).tr = false then
    (match exF F (rfF l).m.toNat (rfF l).exp with
      | some x => some (x, false)
      | none => some (pfF T (rfF l).m.toNat (rfF l).exp))
  else if eqR (pfF T (rfF l).m.toNat (rfF l).exp).1 (pfF T (IntKind.u64.wrap ((rfF l).m + 1)).toNat (rfF l).exp).1 = true then some (pfF T (rfF l).m.toNat (rfF l).exp)
  else (srF (l.take (rfF l).n)).map fbF

theorem exF_fin {F : Nat → Nat} {m : Nat} {p : Int} {x : Nat} (hF : ∀ j, j < 23 → 4607182418800017408 ≤ F j ∧ F j ≤ 4936209963552724370) (h : exF F m p = some x) : x < 9218868437227405312 := by
  unfold exF at h
  split at h
  · exact absurd h (by simp)
  · rename_i hm
    have hb := ofInt_bound m (by omega)
    split at h
    · injection h with h; subst h; omega
    · split at h
      · rename_i hp
        have h1 : ex1 F m p ≤ 1151 * 4503599627370496 := by
          unfold ex1
          split
          · have := mulR_bound (near m 0) (F (p - 22).toNat) 1076 1096 (by omega) (by have := (hF (p - 22).toNat (by omega)).2; omega) (by omega) (by omega) (by omega) (by omega) (by omega)
            exact this
          · omega
        split at h
        · exact absurd h (by simp)
        · injection h with h
          subst h
          have := mulR_bound (ex1 F m p) (F (min p 22).toNat) 1151 1096 (by omega) (by have := (hF (min p 22).toNat (by omega)).2; omega) (by omega) (by omega) (by omega) (by omega) (by omega)
          omega
      · split at h
        · rename_i hp
          injection h with h
          subst h
          have hj := hF (-p).toNat (by omega)
          have := divR_bound (near m 0) (F (-p).toNat) 1076 (by omega) (by omega) (by omega) hj.1 (by omega)
          omega
        · exact absurd h (by simp)
theorem atF_fin {T : Nat → Nat × Nat} {F : Nat → Nat} {l : List UInt8} {x : Nat} {b : Bool} (hT : ∀ i, i < 696 → (T i).1 < 18446744073709551616)
    (hF : ∀ j, j < 23 → 4607182418800017408 ≤ F j ∧ F j ≤ 4936209963552724370) (h : atF T F l = some (x, b)) : x ≤ 9218868437227405312 ∧ (b = false → x < 9218868437227405312) := by
  unfold atF at h
  split at h
  · exact absurd h (by simp)
  · split at h
    · injection h with h; injection h with h1 h2; subst h1 h2; exact ⟨by omega, fun _ => by omega⟩
    · split at h
      · injection h with h; injection h with h1 h2; subst h1 h2; exact ⟨Nat.le_refl _, fun h => absurd h (by decide)⟩
      · split at h
        · injection h with h; injection h with h1 h2; subst h1 h2; exact ⟨by omega, fun _ => by omega⟩
        · have hp := fun m => pfF_fin T m (rfF l).exp (hT _ (by omega))
          split at h
          · split at h
            · rename_i y hy
              injection h with h; injection h with h1 h2; subst h1 h2
              have := exF_fin hF hy
              exact ⟨by omega, fun _ => this⟩
            · injection h with h
              have := hp (rfF l).m.toNat
              rw [h] at this
              exact this
          · split at h
            · injection h with h
              have := hp (rfF l).m.toNat
              rw [h] at this
              exact this
            · rw [Option.map_eq_some_iff] at h
              obtain ⟨S, _, h⟩ := h
              have := fbF_fin S
              rw [h] at this
              exact this
end Go.Proofs.YthplmbgdcfmkgaaGreatDoor
