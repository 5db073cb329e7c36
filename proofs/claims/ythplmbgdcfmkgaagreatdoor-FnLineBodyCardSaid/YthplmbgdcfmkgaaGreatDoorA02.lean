/- Numbers with many digits: shifts, the table. -/
import Derived.Test.YthplmbgdcfmkgaaGreatDoorA01
import GoSem.PinnedTables
import Derived.Scope
import Derived.ScopeJumps
import Derived.WalkMore
set_option linter.unusedVariables false
set_option linter.unusedSimpArgs false
/- The library's decimal: rightShift. -/
namespace Go.Proofs.YthplmbgdcfmkgaaGreatDoor
open Go.RowKit

/-- A digit, 0 behind the last one. -/
def dz (D : Nat → Int) (n p : Nat) : Nat := if p < n then dg D p else 0
/-- The number of the first r digits. -/
def pre (D : Nat → Int) (n : Nat) : Nat → Nat
  | 0 => 0
  | r + 1 => pre D n r * 10 + dz D n r
/-- What is left when j digits of the quotient by 2^k are written. -/
def rsN (D : Nat → Int) (k n r : Nat) : Nat → Nat
  | 0 => pre D n r
  | j + 1 => rsN D k n r j % 2 ^ k * 10 + dz D n (r + j)
def rsD (D : Nat → Int) (k n r j : Nat) (p : Nat) : Int := if p < j then 48 + ((rsN D k n r p / 2 ^ k : Nat) : Int) else D p
def rsT (D : Nat → Int) (k n r : Nat) (tr : Bool) : Nat → Bool
  | 0 => tr
  | j + 1 => rsT D k n r tr j || (decide (800 ≤ j) && decide (0 < rsN D k n r j / 2 ^ k))

theorem dz_in {D : Nat → Int} {n p : Nat} (h : p < n) : dz D n p = dg D p := by rw [dz, if_pos h]
theorem dz_out {D : Nat → Int} {n p : Nat} (h : n ≤ p) : dz D n p = 0 := by rw [dz, if_neg (by omega)]
theorem dz_le {D : Nat → Int} {n p : Nat} (h : ∀ p, p < n → 48 ≤ D p ∧ D p ≤ 57) : dz D n p ≤ 9 := by
  unfold dz
  split
  · exact dg_le (h p (by assumption))
  · omega
theorem rsN_lt {D : Nat → Int} {k n r : Nat} (h : ∀ p, p < n → 48 ≤ D p ∧ D p ≤ 57) (h0 : pre D n r < 10 * 2 ^ k) : ∀ j, rsN D k n r j < 10 * 2 ^ k
  | 0 => h0
  | j + 1 => by
    have hd := dz_le (p := r + j) h
    have hm := Nat.mod_lt (rsN D k n r j) (Nat.two_pow_pos k)
    rw [rsN]
    omega
theorem rsD_zero (D k n r) (p : Nat) : rsD D k n r 0 p = D p := by
  unfold rsD
  rw [if_neg (by omega)]
theorem rsD_step (D k n r j) (p : Nat) : (if p = j then 48 + ((rsN D k n r j / 2 ^ k : Nat) : Int) else rsD D k n r j p) = rsD D k n r (j + 1) p := by
  unfold rsD
  by_cases e : p = j
  · subst e
    rw [if_pos rfl, if_pos (by omega)]
  · rw [if_neg e]
    by_cases h2 : p < j
    · rw [if_pos h2, if_pos (by omega)]
    · rw [if_neg h2, if_neg (by omega)]
theorem rsD_far (D k n r j) (p : Nat) (hp : p < 800) (hj : 800 ≤ j) : rsD D k n r j p = rsD D k n r (j + 1) p := by
  rw [← rsD_step, if_neg (by omega)]
theorem rsT_near (D k n r tr j) (hj : j < 800) : rsT D k n r tr j = rsT D k n r tr (j + 1) := by
  rw [rsT]
  have : decide (800 ≤ j) = false := by simp; omega
  rw [this]; simp
theorem rsT_far0 (D k n r tr j) (h0 : rsN D k n r j / 2 ^ k = 0) : rsT D k n r tr j = rsT D k n r tr (j + 1) := by
  rw [rsT, h0]
  simp
theorem rsT_far1 (D k n r tr j) (hj : 800 ≤ j) (h0 : 0 < rsN D k n r j / 2 ^ k) : true = rsT D k n r tr (j + 1) := by
  rw [rsT]
  simp [hj, h0]
theorem pre_lt {D : Nat → Int} {n r M : Nat} (h : ∀ p, p < n → 48 ≤ D p ∧ D p ≤ 57) (hr : 0 < r) (h2 : pre D n (r - 1) < M) : pre D n r < 10 * M := by
  obtain ⟨q, rfl⟩ : ∃ q, r = q + 1 := ⟨r - 1, by omega⟩
  have hd := dz_le (p := q) h
  rw [pre]
  simp only [Nat.add_sub_cancel] at h2
  omega

set_option maxHeartbeats 4000000 in
set_option maxRecDepth 100000 in
theorem rs_A (D : Nat → Int) (n : Nat) (tr neg : Bool) (dp : Int) (hn1 : 1 ≤ n) (hn : n ≤ 800) (k : Nat) (hk1 : 1 ≤ k) (hk2 : k ≤ 60) (w : World) (g : Nat) (h : Dec w g D n dp neg tr)
  (hD : ∀ p, p < n → 48 ≤ D p ∧ D p ≤ 57) (hD0 : 49 ≤ D 0) (r0 J : Nat) (hr0 : 0 < r0) (hr1 : 2 ^ k ≤ pre D n r0) (hr2 : ∀ r, r < r0 → pre D n r < 2 ^ k)
  (hJ1 : n - r0 ≤ J) (hJ2 : rsN D k n r0 J = 0) (hJ3 : ∀ j, n - r0 ≤ j → j < J → 0 < rsN D k n r0 j) (hJ4 : J ≤ 1000) (hr4 : r0 ≤ 100)
  (hdp1 : -1000000 ≤ dp) (hdp2 : dp ≤ 1000000) (hcase : r0 ≤ n) :
    Calls Tryz.prog 147 #[.pointer (some ⟨g, 0, none⟩), .int .u64 k] w fun e w' => e = .returned (.tuple #[]) ∧
      Dec w' g (rsD D k n r0 J) (trimN (rsD D k n r0 J) (min J 800)) (trimDp (rsD D k n r0 J) (min J 800) (dp - ((r0 : Int) - 1))) neg (rsT D k n r0 tr J) ∧ Only g w w' := by
  have H := Lib.hid h
  have HD := Lib.hid hD
  have HR1 := Lib.hid hr1
  have HR2 := Lib.hid hr2
  have HJ1 := Lib.hid hJ1
  have HJ2 := Lib.hid hJ2
  have HJ3 := Lib.hid hJ3
  have hp60 := pow60 hk2
  have HP : Hid (pre D n r0 < 10 * 2 ^ k) := pre_lt hD hr0 (hr2 (r0 - 1) (by omega))
  have HP60 : Hid (2 ^ k ≤ 1152921504606846976) := hp60
  have HC := Lib.hid hcase
  clear h hD hr1 hr2 hJ1 hJ2 hJ3 hp60 hcase
  go_enter Tryz.func147, Tryz.ntmps147
  go_wp2_with fail
  go_loopg [4, 6] r0 (fun q r x wr => ∃ i : Nat, i ≤ r0 ∧ q + i = r0 ∧ r = .int .i64 (i : Nat) ∧ x = .int .u64 (pre D n i : Nat) ∧ Hid (Drew w wr))
  case atStart => exact ⟨0, by omega, by omega, rfl, rfl, Drew.refl _⟩
  case round =>
    obtain ⟨i, hi, hq, rfl, rfl, hw⟩ := hrel
    have HQ := Lib.hid hq
    have hcase := HC.out
    clear hq
    obtain ⟨N, hN⟩ : ∃ N, N = pre D n i := ⟨_, rfl⟩
    rw [← hN]
    have HN := Lib.hid hN
    clear hN
    have c0 : wr.cell? ⟨g, 800, none⟩ = some (.int .i64 n) := (hw.out.cell _).trans H.out.nd
    have c1 : wr.cell? ⟨g, 801, none⟩ = some (.int .i64 dp) := (hw.out.cell _).trans H.out.dp
    have f1 : wr.frozen? ⟨g, 801, none⟩ = false := (hw.out.frozen _).trans (H.out.fr _)
    by_cases hlt : i < r0
    · have c2 : wr.cell? ⟨g, i, none⟩ = some (.int .u8 (D i)) := (hw.out.cell _).trans (H.out.d i (by omega))
      have hDi := HD.out i (by omega)
      obtain ⟨hDi1, hDi2⟩ := hDi
      have hNl : N < 2 ^ k := by rw [HN.out]; exact HR2.out i (by omega)
      have hp60 := HP60.out
      obtain ⟨T, hT⟩ : ∃ T, T = N * 10 := ⟨_, rfl⟩
      obtain ⟨U, hU⟩ : ∃ U : Nat, (U : Int) = (T : Int) + D i := ⟨(T + D i).toNat, by omega⟩
      obtain ⟨V, hV⟩ : ∃ V, V = N * 10 + dg D i := ⟨_, rfl⟩
      have hdg := dg_eq (D := D) (p := i) ⟨hDi1, hDi2⟩
      have e0 : (((N : Int) / 2 ^ k) == 0) = true := by
        have : (N : Int) / 2 ^ k = ((N / 2 ^ k : Nat) : Int) := by push_cast; rfl
        rw [this, Nat.div_eq_of_lt hNl]; rfl
      have e1 : IntKind.u64.wrap ((N : Int) * 10) = (T : Int) := by
        have : ((N : Int) * 10) = (T : Int) := by omega
        rw [this]; exact u64w _ (by omega) (by omega)
      have e2 : IntKind.u64.wrap ((T : Int) + D i) = (U : Int) := by
        rw [← hU]; exact u64w _ (by omega) (by omega)
      have e3 : IntKind.u64.wrap ((U : Int) - 48) = (V : Int) := by
        have : ((U : Int) - 48) = (V : Int) := by omega
        rw [this]; exact u64w _ (by omega) (by omega)
      have HV : Hid (pre D n (i + 1) = V) := by unfold Hid; rw [pre, dz_in (by omega), hV, ← HN.out]
      clear hT hU hV hdg hNl hp60
      go_wp2_with fail
      have hq := HQ.out
      go_roundg (gk - 1)
      case measure => omega
      case rel => exact ⟨i + 1, by omega, by omega, by go_num, by rw [HV.out], hw.out⟩
    · obtain rfl : i = r0 := by omega
      have HNe : Hid (N = pre D n i) := HN
      have hNge : 2 ^ k ≤ N := by rw [HN.out]; exact HR1.out
      have e0 : (((N : Int) / 2 ^ k) == 0) = false := by
        have : (N : Int) / 2 ^ k = ((N / 2 ^ k : Nat) : Int) := by push_cast; rfl
        have h2 : 0 < N / 2 ^ k := Nat.div_pos hNge (Nat.two_pow_pos k)
        rw [this, beq_eq_false_iff_ne]; omega
      clear hNge hcase
      go_wp2_with fail
      have hk1e : ∃ K1 : Nat, K1 = 2 ^ k - 1 := ⟨_, rfl⟩
      obtain ⟨K1, hK1⟩ := hk1e
      have hp60 := HP60.out
      have hp1 : 0 < 2 ^ k := Nat.two_pow_pos k
      have eK : IntKind.u64.wrap (IntKind.u64.wrap (2 ^ k) - 1) = (K1 : Int) := by
        have e : ((2 : Int) ^ k) = ((2 ^ k : Nat) : Int) := by push_cast; rfl
        rw [e]
        generalize 2 ^ k = Z at *
        rw [u64w (Z : Int) (by omega) (by omega), u64w _ (by omega) (by omega)]
        omega
      have HK1 := Lib.hid hK1
      clear hK1 hp60 hp1
      rw [eK]
      clear eK
      go_loopg [4, 5, 6] (n - i) (fun q r x m wr => ∃ j : Nat, j ≤ n - i ∧ q + j = n - i ∧ r = .int .i64 ((i + j : Nat) : Int) ∧ x = .int .i64 (j : Int) ∧ m = .int .u64 (rsN D k n i j : Nat) ∧
        Hid (Dec wr g (rsD D k n i j) n (dp - ((i : Int) - 1)) neg (rsT D k n i tr j)) ∧ Hid (Only g w wr))
      case atStart => exact ⟨0, by omega, by omega, by go_num, rfl, by rw [HN.out]; rfl, ((H.out.drewN' hw.out).setDp _).congr (fun p _ => (rsD_zero D k n i p).symm) rfl rfl, (hw.out.only g).setCell _ _⟩
      case round =>
        obtain ⟨j, hj, hq, rfl, rfl, rfl, hdw, how⟩ := hrel
        have HQ := Lib.hid hq
        clear hq
        obtain ⟨M, hM⟩ : ∃ M, M = rsN D k n i j := ⟨_, rfl⟩
        rw [← hM]
        have HM := Lib.hid hM
        clear hM
        have c0 : wr.cell? ⟨g, 800, none⟩ = some (.int .i64 n) := hdw.out.nd
        by_cases hjn : j < n - i
        · have hMl : M < 10 * 2 ^ k := by rw [HM.out]; exact rsN_lt HD.out HP.out j
          have hp60 := HP60.out
          have c2 : wr.cell? ⟨g, i + j, none⟩ = some (.int .u8 (D (i + j))) := by
            rw [hdw.out.d (i + j) (by omega)]
            unfold rsD
            rw [if_neg (by omega)]
          have c3 : wr.cell? ⟨g, j, none⟩ = some (.int .u8 (rsD D k n i j j)) := hdw.out.d j (by omega)
          have f3 : wr.frozen? ⟨g, j, none⟩ = false := hdw.out.fr j
          have hDi := HD.out (i + j) (by omega)
          obtain ⟨hDi1, hDi2⟩ := hDi
          obtain ⟨Qd, hQd⟩ : ∃ Qd, Qd = M / 2 ^ k := ⟨_, rfl⟩
          obtain ⟨Mm, hMm⟩ : ∃ Mm, Mm = M % 2 ^ k := ⟨_, rfl⟩
          have hQ9 : Qd ≤ 9 := by
            have : Qd < 10 := by rw [hQd, Nat.div_lt_iff_lt_mul (Nat.two_pow_pos k)]; omega
            omega
          have hMl2 : Mm < 2 ^ k := by rw [hMm]; exact Nat.mod_lt _ (Nat.two_pow_pos k)
          obtain ⟨T, hT⟩ : ∃ T, T = Mm * 10 := ⟨_, rfl⟩
          obtain ⟨U, hU⟩ : ∃ U : Nat, (U : Int) = (T : Int) + D (i + j) := ⟨(T + D (i + j)).toNat, by omega⟩
          obtain ⟨V, hV⟩ : ∃ V, V = Mm * 10 + dg D (i + j) := ⟨_, rfl⟩
          have hdg := dg_eq (D := D) (p := i + j) ⟨hDi1, hDi2⟩
          have e0 : (M : Int) / 2 ^ k = (Qd : Int) := by
            have : (M : Int) / 2 ^ k = ((M / 2 ^ k : Nat) : Int) := by push_cast; rfl
            rw [this, ← hQd]
          have eA : bits BinOp.and IntKind.u64 (M : Int) (K1 : Int) = (Mm : Int) := by
            rw [u64_and_nat M K1 (by omega) (by have := HK1.out; omega), HK1.out, Nat.and_two_pow_sub_one_eq_mod, ← hMm]
          have e1 : IntKind.u64.wrap ((Mm : Int) * 10) = (T : Int) := by
            have : ((Mm : Int) * 10) = (T : Int) := by omega
            rw [this]; exact u64w _ (by omega) (by omega)
          have e2 : IntKind.u64.wrap ((T : Int) + D (i + j)) = (U : Int) := by
            rw [← hU]; exact u64w _ (by omega) (by omega)
          have e3 : IntKind.u64.wrap ((U : Int) - 48) = (V : Int) := by
            have : ((U : Int) - 48) = (V : Int) := by omega
            rw [this]; exact u64w _ (by omega) (by omega)
          have HV : Hid (rsN D k n i (j + 1) = V) := by unfold Hid; rw [rsN, dz_in (by omega), hV, hMm, ← HM.out]
          have HQe : Hid (rsN D k n i j / 2 ^ k = Qd) := by unfold Hid; rw [← HM.out, hQd]
          clear hT hU hV hdg hp60 hMl hQd hMm hMl2
          go_wp2_with fail
          have hq := HQ.out
          go_roundg (gk - 1)
          case measure => omega
          case rel =>
            refine ⟨j + 1, by omega, by omega, by go_num, by go_num, by rw [HV.out], ?_, how.out.setCell _ _⟩
            refine (hdw.out.setD j (by omega) ((Qd : Int) + 48)).congr (fun p _ => ?_) rfl (rsT_near D k n i tr j (by omega))
            rw [← rsD_step D k n i j p, HQe.out]
            by_cases e : p = j
            · rw [if_pos e, if_pos e]; omega
            · rw [if_neg e, if_neg e]
        · have hjne : j = n - i := by omega
          have HW := hdw
          have HO := how
          have h800 : j ≤ 800 := by omega
          have HJN : Hid (n - i = j) := hjne.symm
          have HN2 : Hid (N = pre D n i) := HN
          have HM2 : Hid (M = rsN D k n i j) := HM
          have hnn : ¬ i + j < n := by omega
          clear hjne hjn HN HM
          go_wp2_with fail
          go_loopg [5, 6] (J - j) (fun q x m wr => ∃ t : Nat, j ≤ t ∧ t ≤ J ∧ q + t = J ∧ x = .int .i64 ((min t 800 : Nat) : Int) ∧ m = .int .u64 (rsN D k n i t : Nat) ∧
            Hid (Dec wr g (rsD D k n i t) n (dp - ((i : Int) - 1)) neg (rsT D k n i tr t)) ∧ Hid (Only g w wr))
          case atStart =>
            have h1 := HJ1.out
            have h2 := HJN.out
            exact ⟨j, by omega, by omega, by omega, by rw [show min j 800 = j by omega], by rw [HM2.out], HW, HO⟩
          case round =>
            obtain ⟨t, ht1, ht2, hq, rfl, rfl, hdw, how⟩ := hrel
            have HQ := Lib.hid hq
            clear hq
            obtain ⟨M2, hM⟩ : ∃ M2, M2 = rsN D k n i t := ⟨_, rfl⟩
            rw [← hM]
            have HM := Lib.hid hM
            clear hM
            by_cases htJ : t < J
            · have hMl : M2 < 10 * 2 ^ k := by rw [HM.out]; exact rsN_lt HD.out HP.out t
              have hMpos : 0 < M2 := by rw [HM.out]; exact HJ3.out t (by have := HJN.out; omega) htJ
              have hp60 := HP60.out
              obtain ⟨Qd, hQd⟩ : ∃ Qd, Qd = M2 / 2 ^ k := ⟨_, rfl⟩
              obtain ⟨Mm, hMm⟩ : ∃ Mm, Mm = M2 % 2 ^ k := ⟨_, rfl⟩
              have hQ9 : Qd ≤ 9 := by
                have : Qd < 10 := by rw [hQd, Nat.div_lt_iff_lt_mul (Nat.two_pow_pos k)]; omega
                omega
              have hMl2 : Mm < 2 ^ k := by rw [hMm]; exact Nat.mod_lt _ (Nat.two_pow_pos k)
              obtain ⟨T, hT⟩ : ∃ T, T = Mm * 10 := ⟨_, rfl⟩
              have e0 : (M2 : Int) / 2 ^ k = (Qd : Int) := by
                have : (M2 : Int) / 2 ^ k = ((M2 / 2 ^ k : Nat) : Int) := by push_cast; rfl
                rw [this, ← hQd]
              have eA : bits BinOp.and IntKind.u64 (M2 : Int) (K1 : Int) = (Mm : Int) := by
                rw [u64_and_nat M2 K1 (by omega) (by have := HK1.out; omega), HK1.out, Nat.and_two_pow_sub_one_eq_mod, ← hMm]
              have e1 : IntKind.u64.wrap ((Mm : Int) * 10) = (T : Int) := by
                have : ((Mm : Int) * 10) = (T : Int) := by omega
                rw [this]; exact u64w _ (by omega) (by omega)
              have HV : Hid (rsN D k n i (t + 1) = T) := by unfold Hid; rw [rsN, dz_out (by omega), hT, hMm, ← HM.out, Nat.add_zero]
              have HQe : Hid (rsN D k n i t / 2 ^ k = Qd) := by unfold Hid; rw [← HM.out, hQd]
              clear hT hp60 hMl hQd hMm hMl2
              by_cases hlow : t < 800
              · have c3 : wr.cell? ⟨g, t, none⟩ = some (.int .u8 (rsD D k n i t t)) := hdw.out.d t (by omega)
                have f3 : wr.frozen? ⟨g, t, none⟩ = false := hdw.out.fr t
                rw [show min t 800 = t by omega]
                go_wp2_with fail
                have hq := HQ.out
                go_roundg (gk - 1)
                case measure => omega
                case rel =>
                  refine ⟨t + 1, by omega, by omega, by omega, by rw [show min (t + 1) 800 = t + 1 by omega]; go_num, by rw [HV.out], ?_, how.out.setCell _ _⟩
                  refine (hdw.out.setD t (by omega) ((Qd : Int) + 48)).congr (fun p _ => ?_) rfl (rsT_near D k n i tr t (by omega))
                  rw [← rsD_step D k n i t p, HQe.out]
                  by_cases e : p = t
                  · rw [if_pos e, if_pos e]; omega
                  · rw [if_neg e, if_neg e]
              · rw [show min t 800 = 800 by omega]
                have c3 : wr.cell? ⟨g, 803, none⟩ = some (.bool (rsT D k n i tr t)) := hdw.out.tr
                have f3 : wr.frozen? ⟨g, 803, none⟩ = false := hdw.out.fr _
                by_cases hz : Qd = 0
                · have HZ := Lib.hid hz
                  subst hz
                  go_wp2_with fail
                  have hq := HQ.out
                  go_roundg (gk - 1)
                  case measure => omega
                  case rel =>
                    refine ⟨t + 1, by omega, by omega, by omega, by rw [show min (t + 1) 800 = 800 by omega]; first | done | rfl, by rw [HV.out], ?_, how.out⟩
                    exact hdw.out.congr (fun p hp => rsD_far D k n i t p hp (by omega)) rfl (rsT_far0 D k n i tr t HQe.out)
                · have hz2 : 0 < Qd := by omega
                  clear hz
                  go_wp2_with fail
                  have hq := HQ.out
                  go_roundg (gk - 1)
                  case measure => omega
                  case rel =>
                    refine ⟨t + 1, by omega, by omega, by omega, by rw [show min (t + 1) 800 = 800 by omega]; first | done | rfl, by rw [HV.out], ?_, how.out.setCell _ _⟩
                    exact (hdw.out.setTr true).congr (fun p hp => rsD_far D k n i t p hp (by omega)) rfl (rsT_far1 D k n i tr t (by omega) (by rw [HQe.out]; exact hz2))
            · have htJe : t = J := by omega
              subst htJe
              have hM0 : M2 = 0 := by rw [HM.out]; exact HJ2.out
              subst hM0
              have c4 : wr.cell? ⟨g, 800, none⟩ = some (.int .i64 n) := hdw.out.nd
              have f4 : wr.frozen? ⟨g, 800, none⟩ = false := hdw.out.fr _
              obtain ⟨mt, hmt⟩ : ∃ mt, mt = min t 800 := ⟨_, rfl⟩
              rw [← hmt]
              have hmt8 : mt ≤ 800 := by omega
              have HT := fun W (hW : Dec W g (rsD D k n i t) mt (dp - ((i : Int) - 1)) neg (rsT D k n i tr t)) => trim_calls g _ mt _ neg _ W hW hmt8
              have HT' := Lib.hid HT
              have HMT := Lib.hid hmt
              clear HT hmt
              go_wp2_with fail
              refine (HT'.out _ ?_).mono ?_
              · exact hdw.out.setN _
              · rintro e w' ⟨rfl, hd', ho'⟩
                go_wp2
                go_end0
                rw [← HMT.out]
                exact ⟨rfl, hd', (how.out.setCell _ _).trans ho'⟩
set_option maxHeartbeats 4000000 in
set_option maxRecDepth 100000 in
theorem rs_B (D : Nat → Int) (n : Nat) (tr neg : Bool) (dp : Int) (hn1 : 1 ≤ n) (hn : n ≤ 800) (k : Nat) (hk1 : 1 ≤ k) (hk2 : k ≤ 60) (w : World) (g : Nat) (h : Dec w g D n dp neg tr)
  (hD : ∀ p, p < n → 48 ≤ D p ∧ D p ≤ 57) (hD0 : 49 ≤ D 0) (r0 J : Nat) (hr0 : 0 < r0) (hr1 : 2 ^ k ≤ pre D n r0) (hr2 : ∀ r, r < r0 → pre D n r < 2 ^ k)
  (hJ1 : n - r0 ≤ J) (hJ2 : rsN D k n r0 J = 0) (hJ3 : ∀ j, n - r0 ≤ j → j < J → 0 < rsN D k n r0 j) (hJ4 : J ≤ 1000) (hr4 : r0 ≤ 100)
  (hdp1 : -1000000 ≤ dp) (hdp2 : dp ≤ 1000000) (hcase : n < r0) :
    Calls Tryz.prog 147 #[.pointer (some ⟨g, 0, none⟩), .int .u64 k] w fun e w' => e = .returned (.tuple #[]) ∧
      Dec w' g (rsD D k n r0 J) (trimN (rsD D k n r0 J) (min J 800)) (trimDp (rsD D k n r0 J) (min J 800) (dp - ((r0 : Int) - 1))) neg (rsT D k n r0 tr J) ∧ Only g w w' := by
  have H := Lib.hid h
  have HD := Lib.hid hD
  have HR1 := Lib.hid hr1
  have HR2 := Lib.hid hr2
  have HJ1 := Lib.hid hJ1
  have HJ2 := Lib.hid hJ2
  have HJ3 := Lib.hid hJ3
  have hp60 := pow60 hk2
  have HP : Hid (pre D n r0 < 10 * 2 ^ k) := pre_lt hD hr0 (hr2 (r0 - 1) (by omega))
  have HP60 : Hid (2 ^ k ≤ 1152921504606846976) := hp60
  have HC := Lib.hid hcase
  clear h hD hr1 hr2 hJ1 hJ2 hJ3 hp60 hcase
  go_enter Tryz.func147, Tryz.ntmps147
  go_wp2_with fail
  go_loopg [4, 6] r0 (fun q r x wr => ∃ i : Nat, i ≤ n ∧ q + i = r0 ∧ r = .int .i64 (i : Nat) ∧ x = .int .u64 (pre D n i : Nat) ∧ Hid (Drew w wr))
  case atStart => exact ⟨0, by omega, by omega, rfl, rfl, Drew.refl _⟩
  case round =>
    obtain ⟨i, hi, hq, rfl, rfl, hw⟩ := hrel
    have HQ := Lib.hid hq
    have hcase := HC.out
    clear hq
    obtain ⟨N, hN⟩ : ∃ N, N = pre D n i := ⟨_, rfl⟩
    rw [← hN]
    have HN := Lib.hid hN
    clear hN
    have c0 : wr.cell? ⟨g, 800, none⟩ = some (.int .i64 n) := (hw.out.cell _).trans H.out.nd
    have c1 : wr.cell? ⟨g, 801, none⟩ = some (.int .i64 dp) := (hw.out.cell _).trans H.out.dp
    have f1 : wr.frozen? ⟨g, 801, none⟩ = false := (hw.out.frozen _).trans (H.out.fr _)
    by_cases hlt : i < n
    · have c2 : wr.cell? ⟨g, i, none⟩ = some (.int .u8 (D i)) := (hw.out.cell _).trans (H.out.d i (by omega))
      have hDi := HD.out i (by omega)
      obtain ⟨hDi1, hDi2⟩ := hDi
      have hNl : N < 2 ^ k := by rw [HN.out]; exact HR2.out i (by omega)
      have hp60 := HP60.out
      obtain ⟨T, hT⟩ : ∃ T, T = N * 10 := ⟨_, rfl⟩
      obtain ⟨U, hU⟩ : ∃ U : Nat, (U : Int) = (T : Int) + D i := ⟨(T + D i).toNat, by omega⟩
      obtain ⟨V, hV⟩ : ∃ V, V = N * 10 + dg D i := ⟨_, rfl⟩
      have hdg := dg_eq (D := D) (p := i) ⟨hDi1, hDi2⟩
      have e0 : (((N : Int) / 2 ^ k) == 0) = true := by
        have : (N : Int) / 2 ^ k = ((N / 2 ^ k : Nat) : Int) := by push_cast; rfl
        rw [this, Nat.div_eq_of_lt hNl]; rfl
      have e1 : IntKind.u64.wrap ((N : Int) * 10) = (T : Int) := by
        have : ((N : Int) * 10) = (T : Int) := by omega
        rw [this]; exact u64w _ (by omega) (by omega)
      have e2 : IntKind.u64.wrap ((T : Int) + D i) = (U : Int) := by
        rw [← hU]; exact u64w _ (by omega) (by omega)
      have e3 : IntKind.u64.wrap ((U : Int) - 48) = (V : Int) := by
        have : ((U : Int) - 48) = (V : Int) := by omega
        rw [this]; exact u64w _ (by omega) (by omega)
      have HV : Hid (pre D n (i + 1) = V) := by unfold Hid; rw [pre, dz_in (by omega), hV, ← HN.out]
      clear hT hU hV hdg hNl hp60
      go_wp2_with fail
      have hq := HQ.out
      go_roundg (gk - 1)
      case measure => omega
      case rel => exact ⟨i + 1, by omega, by omega, by go_num, by rw [HV.out], hw.out⟩
    · obtain rfl : i = n := by omega
      have hNl : N < 2 ^ k := by rw [HN.out]; exact HR2.out i (by omega)
      have e0 : (((N : Int) / 2 ^ k) == 0) = true := by
        have : (N : Int) / 2 ^ k = ((N / 2 ^ k : Nat) : Int) := by push_cast; rfl
        rw [this, Nat.div_eq_of_lt hNl]; rfl
      have hN0 : N ≠ 0 := by
        have h1 := dg_eq (HD.out 0 (by omega))
        have h2 : dz D i 0 = dg D 0 := dz_in (by omega)
        have h3 : 1 ≤ pre D i i := by
          have : ∀ m, 1 ≤ pre D i (m + 1) := by
            intro m
            induction m with
            | zero => rw [pre, h2]; omega
            | succ m ih => rw [pre]; omega
          have h4 := this (i - 1)
          rwa [show i - 1 + 1 = i by omega] at h4
        rw [← HN.out] at h3
        omega
      have e4 : ((N : Int) == 0) = false := by rw [beq_eq_false_iff_ne]; omega
      have HW0 := hw
      clear hNl hN0
      go_wp2_with fail
      go_loopg [4, 6] (r0 - i) (fun q r x wr => ∃ t : Nat, i ≤ t ∧ t ≤ r0 ∧ q + t = r0 ∧ r = .int .i64 (t : Nat) ∧ x = .int .u64 (pre D i t : Nat) ∧ Hid (Drew w wr))
      case atStart => exact ⟨i, by omega, by omega, by omega, rfl, by rw [HN.out], HW0⟩
      case round =>
        obtain ⟨t, ht1, ht2, hqt, rfl, rfl, hw⟩ := hrel
        have HQT := Lib.hid hqt
        clear hqt HN
        obtain ⟨N, hN⟩ : ∃ N, N = pre D i t := ⟨_, rfl⟩
        rw [← hN]
        have HN := Lib.hid hN
        clear hN
        have c0 : wr.cell? ⟨g, 800, none⟩ = some (.int .i64 i) := (hw.out.cell _).trans H.out.nd
        have c1 : wr.cell? ⟨g, 801, none⟩ = some (.int .i64 dp) := (hw.out.cell _).trans H.out.dp
        have f1 : wr.frozen? ⟨g, 801, none⟩ = false := (hw.out.frozen _).trans (H.out.fr _)
        by_cases htr : t < r0
        · have hNl : N < 2 ^ k := by rw [HN.out]; exact HR2.out t htr
          have hp60 := HP60.out
          have e0 : (((N : Int) / 2 ^ k) == 0) = true := by
            have : (N : Int) / 2 ^ k = ((N / 2 ^ k : Nat) : Int) := by push_cast; rfl
            rw [this, Nat.div_eq_of_lt hNl]; rfl
          obtain ⟨T, hT⟩ : ∃ T, T = N * 10 := ⟨_, rfl⟩
          have e1 : IntKind.u64.wrap ((N : Int) * 10) = (T : Int) := by
            have : ((N : Int) * 10) = (T : Int) := by omega
            rw [this]; exact u64w _ (by omega) (by omega)
          have HV : Hid (pre D i (t + 1) = T) := by unfold Hid; rw [pre, dz_out (by omega), hT, ← HN.out, Nat.add_zero]
          clear hT hNl hp60
          go_wp2_with fail
          have hq := HQT.out
          go_roundg (gk - 1)
          case measure => omega
          case rel => exact ⟨t + 1, by omega, by omega, by omega, by go_num, by rw [HV.out], hw.out⟩
        · obtain rfl : t = r0 := by omega
          have hNge : 2 ^ k ≤ N := by rw [HN.out]; exact HR1.out
          have e0 : (((N : Int) / 2 ^ k) == 0) = false := by
            have : (N : Int) / 2 ^ k = ((N / 2 ^ k : Nat) : Int) := by push_cast; rfl
            have h2 : 0 < N / 2 ^ k := Nat.div_pos hNge (Nat.two_pow_pos k)
            rw [this, beq_eq_false_iff_ne]; omega
          clear hNge hcase
          go_wp2_with fail
          have hk1e : ∃ K1 : Nat, K1 = 2 ^ k - 1 := ⟨_, rfl⟩
          obtain ⟨K1, hK1⟩ := hk1e
          have hp60 := HP60.out
          have hp1 : 0 < 2 ^ k := Nat.two_pow_pos k
          have eK : IntKind.u64.wrap (IntKind.u64.wrap (2 ^ k) - 1) = (K1 : Int) := by
            have e : ((2 : Int) ^ k) = ((2 ^ k : Nat) : Int) := by push_cast; rfl
            rw [e]
            generalize 2 ^ k = Z at *
            rw [u64w (Z : Int) (by omega) (by omega), u64w _ (by omega) (by omega)]
            omega
          have HK1 := Lib.hid hK1
          clear hK1 hp60 hp1
          rw [eK]
          clear eK
          go_loopg [4, 5, 6] (i - t) (fun q r x m wr => ∃ j : Nat, j ≤ i - t ∧ q + j = i - t ∧ r = .int .i64 ((t + j : Nat) : Int) ∧ x = .int .i64 (j : Int) ∧ m = .int .u64 (rsN D k i t j : Nat) ∧
            Hid (Dec wr g (rsD D k i t j) i (dp - ((t : Int) - 1)) neg (rsT D k i t tr j)) ∧ Hid (Only g w wr))
          case atStart => exact ⟨0, by omega, by omega, by go_num, rfl, by rw [HN.out]; rfl, ((H.out.drewN' hw.out).setDp _).congr (fun p _ => (rsD_zero D k i t p).symm) rfl rfl, (hw.out.only g).setCell _ _⟩
          case round =>
            obtain ⟨j, hj, hq, rfl, rfl, rfl, hdw, how⟩ := hrel
            have HQ := Lib.hid hq
            clear hq
            obtain ⟨M, hM⟩ : ∃ M, M = rsN D k i t j := ⟨_, rfl⟩
            rw [← hM]
            have HM := Lib.hid hM
            clear hM
            have c0 : wr.cell? ⟨g, 800, none⟩ = some (.int .i64 i) := hdw.out.nd
            by_cases hjn : j < i - t
            · exfalso; have := HC.out; omega
            · have hjne : j = i - t := by omega
              have HW := hdw
              have HO := how
              have h800 : j ≤ 800 := by omega
              have HJN : Hid (i - t = j) := hjne.symm
              have HN2 : Hid (N = pre D i t) := HN
              have HM2 : Hid (M = rsN D k i t j) := HM
              have hnn : ¬ t + j < i := by omega
              clear hjne hjn HN HM
              go_wp2_with fail
              go_loopg [5, 6] (J - j) (fun q x m wr => ∃ tt : Nat, j ≤ tt ∧ tt ≤ J ∧ q + tt = J ∧ x = .int .i64 ((min tt 800 : Nat) : Int) ∧ m = .int .u64 (rsN D k i t tt : Nat) ∧
                Hid (Dec wr g (rsD D k i t tt) i (dp - ((t : Int) - 1)) neg (rsT D k i t tr tt)) ∧ Hid (Only g w wr))
              case atStart =>
                have h1 := HJ1.out
                have h2 := HJN.out
                exact ⟨j, by omega, by omega, by omega, by rw [show min j 800 = j by omega], by rw [HM2.out], HW, HO⟩
              case round =>
                obtain ⟨tt, ht1, ht2, hq, rfl, rfl, hdw, how⟩ := hrel
                have HQ := Lib.hid hq
                clear hq
                obtain ⟨M2, hM⟩ : ∃ M2, M2 = rsN D k i t tt := ⟨_, rfl⟩
                rw [← hM]
                have HM := Lib.hid hM
                clear hM
                by_cases htJ : tt < J
                · have hMl : M2 < 10 * 2 ^ k := by rw [HM.out]; exact rsN_lt HD.out HP.out tt
                  have hMpos : 0 < M2 := by rw [HM.out]; exact HJ3.out tt (by have := HJN.out; omega) htJ
                  have hp60 := HP60.out
                  obtain ⟨Qd, hQd⟩ : ∃ Qd, Qd = M2 / 2 ^ k := ⟨_, rfl⟩
                  obtain ⟨Mm, hMm⟩ : ∃ Mm, Mm = M2 % 2 ^ k := ⟨_, rfl⟩
                  have hQ9 : Qd ≤ 9 := by
                    have : Qd < 10 := by rw [hQd, Nat.div_lt_iff_lt_mul (Nat.two_pow_pos k)]; omega
                    omega
                  have hMl2 : Mm < 2 ^ k := by rw [hMm]; exact Nat.mod_lt _ (Nat.two_pow_pos k)
                  obtain ⟨T, hT⟩ : ∃ T, T = Mm * 10 := ⟨_, rfl⟩
                  have e0 : (M2 : Int) / 2 ^ k = (Qd : Int) := by
                    have : (M2 : Int) / 2 ^ k = ((M2 / 2 ^ k : Nat) : Int) := by push_cast; rfl
                    rw [this, ← hQd]
                  have eA : bits BinOp.and IntKind.u64 (M2 : Int) (K1 : Int) = (Mm : Int) := by
                    rw [u64_and_nat M2 K1 (by omega) (by have := HK1.out; omega), HK1.out, Nat.and_two_pow_sub_one_eq_mod, ← hMm]
                  have e1 : IntKind.u64.wrap ((Mm : Int) * 10) = (T : Int) := by
                    have : ((Mm : Int) * 10) = (T : Int) := by omega
                    rw [this]; exact u64w _ (by omega) (by omega)
                  have HV : Hid (rsN D k i t (tt + 1) = T) := by unfold Hid; rw [rsN, dz_out (by omega), hT, hMm, ← HM.out, Nat.add_zero]
                  have HQe : Hid (rsN D k i t tt / 2 ^ k = Qd) := by unfold Hid; rw [← HM.out, hQd]
                  clear hT hp60 hMl hQd hMm hMl2
                  by_cases hlow : tt < 800
                  · have c3 : wr.cell? ⟨g, tt, none⟩ = some (.int .u8 (rsD D k i t tt tt)) := hdw.out.d tt (by omega)
                    have f3 : wr.frozen? ⟨g, tt, none⟩ = false := hdw.out.fr tt
                    rw [show min tt 800 = tt by omega]
                    go_wp2_with fail
                    have hq := HQ.out
                    go_roundg (gk - 1)
                    case measure => omega
                    case rel =>
                      refine ⟨tt + 1, by omega, by omega, by omega, by rw [show min (tt + 1) 800 = tt + 1 by omega]; go_num, by rw [HV.out], ?_, how.out.setCell _ _⟩
                      refine (hdw.out.setD tt (by omega) ((Qd : Int) + 48)).congr (fun p _ => ?_) rfl (rsT_near D k i t tr tt (by omega))
                      rw [← rsD_step D k i t tt p, HQe.out]
                      by_cases e : p = tt
                      · rw [if_pos e, if_pos e]; omega
                      · rw [if_neg e, if_neg e]
                  · rw [show min tt 800 = 800 by omega]
                    have c3 : wr.cell? ⟨g, 803, none⟩ = some (.bool (rsT D k i t tr tt)) := hdw.out.tr
                    have f3 : wr.frozen? ⟨g, 803, none⟩ = false := hdw.out.fr _
                    by_cases hz : Qd = 0
                    · have HZ := Lib.hid hz
                      subst hz
                      go_wp2_with fail
                      have hq := HQ.out
                      go_roundg (gk - 1)
                      case measure => omega
                      case rel =>
                        refine ⟨tt + 1, by omega, by omega, by omega, by rw [show min (tt + 1) 800 = 800 by omega]; first | done | rfl, by rw [HV.out], ?_, how.out⟩
                        exact hdw.out.congr (fun p hp => rsD_far D k i t tt p hp (by omega)) rfl (rsT_far0 D k i t tr tt HQe.out)
                    · have hz2 : 0 < Qd := by omega
                      clear hz
                      go_wp2_with fail
                      have hq := HQ.out
                      go_roundg (gk - 1)
                      case measure => omega
                      case rel =>
                        refine ⟨tt + 1, by omega, by omega, by omega, by rw [show min (tt + 1) 800 = 800 by omega]; first | done | rfl, by rw [HV.out], ?_, how.out.setCell _ _⟩
                        exact (hdw.out.setTr true).congr (fun p hp => rsD_far D k i t tt p hp (by omega)) rfl (rsT_far1 D k i t tr tt (by omega) (by rw [HQe.out]; exact hz2))
                · have htJe : tt = J := by omega
                  subst htJe
                  have hM0 : M2 = 0 := by rw [HM.out]; exact HJ2.out
                  subst hM0
                  have c4 : wr.cell? ⟨g, 800, none⟩ = some (.int .i64 i) := hdw.out.nd
                  have f4 : wr.frozen? ⟨g, 800, none⟩ = false := hdw.out.fr _
                  obtain ⟨mt, hmt⟩ : ∃ mt, mt = min tt 800 := ⟨_, rfl⟩
                  rw [← hmt]
                  have hmt8 : mt ≤ 800 := by omega
                  have HT := fun W (hW : Dec W g (rsD D k i t tt) mt (dp - ((t : Int) - 1)) neg (rsT D k i t tr tt)) => trim_calls g _ mt _ neg _ W hW hmt8
                  have HT' := Lib.hid HT
                  have HMT := Lib.hid hmt
                  clear HT hmt
                  go_wp2_with fail
                  refine (HT'.out _ ?_).mono ?_
                  · exact hdw.out.setN _
                  · rintro e w' ⟨rfl, hd', ho'⟩
                    go_wp2
                    go_end0
                    rw [← HMT.out]
                    exact ⟨rfl, hd', (how.out.setCell _ _).trans ho'⟩
end Go.Proofs.YthplmbgdcfmkgaaGreatDoor
/- The library's decimal, as numbers: what is carried out of a left shift has as many digits as the table says. -/
namespace Go.Proofs.YthplmbgdcfmkgaaGreatDoor
open Go.RowKit

/-- The number of m digits from the i-th on. -/
def tl (D : Nat → Int) : Nat → Nat → Nat
  | _, 0 => 0
  | i, m + 1 => dg D i * 10 ^ m + tl D (i + 1) m

theorem tl_lt {D : Nat → Int} : ∀ m i, (∀ p, p < i + m → 48 ≤ D p ∧ D p ≤ 57) → tl D i m < 10 ^ m
  | 0, _, _ => by simp [tl]
  | m + 1, i, h => by
    have ih := tl_lt m (i + 1) (fun p hp => h p (by omega))
    have hd := dg_le (h i (by omega))
    have : dg D i * 10 ^ m ≤ 9 * 10 ^ m := Nat.mul_le_mul_right _ hd
    rw [tl, Nat.pow_succ]
    omega

theorem lsA_tl {D : Nat → Int} {k n : Nat} : ∀ j, j ≤ n → lsA D k n j = tl D (n - j) j * 2 ^ k / 10 ^ j
  | 0, _ => by simp [lsA, tl]
  | j + 1, hj => by
    have ih := lsA_tl (D := D) (k := k) (n := n) j (by omega)
    rw [lsA, ih, tl, show n - (j + 1) = n - 1 - j by omega, show n - 1 - j + 1 = n - j by omega, Nat.pow_succ, ← Nat.div_div_eq_div_mul]
    congr 1
    have : (dg D (n - 1 - j) * 10 ^ j + tl D (n - j) j) * 2 ^ k = tl D (n - j) j * 2 ^ k + dg D (n - 1 - j) * 2 ^ k * 10 ^ j := by
      rw [Nat.add_mul, Nat.add_comm]
      congr 1
      rw [Nat.mul_assoc, Nat.mul_assoc, Nat.mul_comm (10 ^ j)]
    rw [this, Nat.add_mul_div_right _ _ (Nat.pow_pos (by omega))]

/-- The number of a text of digits. -/
def sv : List UInt8 → Nat
  | [] => 0
  | c :: r => (c.toNat - 48) * 10 ^ r.length + sv r
def dtext (s : List UInt8) : Prop := ∀ c ∈ s, 48 ≤ c.toNat ∧ c.toNat ≤ 57
theorem sv_lt : ∀ s : List UInt8, dtext s → sv s < 10 ^ s.length
  | [], _ => by simp [sv]
  | c :: r, h => by
    have ih := sv_lt r (fun x hx => h x (by simp [hx]))
    have hc := h c (by simp)
    have : (c.toNat - 48) * 10 ^ r.length ≤ 9 * 10 ^ r.length := Nat.mul_le_mul_right _ (by omega)
    rw [sv, List.length_cons, Nat.pow_succ]
    omega

/-- The digits are less than a text of digits that does not end in 0, just if the number is. -/
theorem plt_spec {D : Nat → Int} : ∀ (s : List UInt8) (i m : Nat), (∀ p, p < i + m → 48 ≤ D p ∧ D p ≤ 57) → dtext s → (s ≠ [] → s.getLast? ≠ some 48) →
    (plt D (i + m) i s = true → tl D i m * 10 ^ s.length < sv s * 10 ^ m) ∧ (plt D (i + m) i s = false → sv s * 10 ^ m ≤ tl D i m * 10 ^ s.length)
  | [], i, m, _, _, _ => by
    refine ⟨fun h => ?_, fun _ => by simp [sv]⟩
    rw [plt_nil] at h
    cases h
  | c :: r, i, 0, _, hs, hz => by
    have hp : plt D (i + 0) i (c :: r) = true := plt_end (by omega)
    refine ⟨fun _ => ?_, fun h => by rw [hp] at h; cases h⟩
    have : 0 < sv (c :: r) := by
      have gen : ∀ s : List UInt8, dtext s → s ≠ [] → s.getLast? ≠ some 48 → 0 < sv s := by
        intro s
        induction s with
        | nil => intro _ h; exact absurd rfl h
        | cons a t ih =>
          intro ht _ hl
          cases t with
          | nil =>
            have ha := ht a (by simp)
            have : a ≠ 48 := by intro e; subst e; simp at hl
            have : a.toNat ≠ 48 := by intro e; exact this (by rw [← UInt8.toNat_inj]; simpa using e)
            simp [sv]; omega
          | cons b u =>
            have := ih (fun x hx => ht x (by simp [hx])) (by simp) (by simpa using hl)
            rw [sv]
            omega
      exact gen _ hs (by simp) (hz (by simp))
    simp [tl, this]
  | c :: r, i, m + 1, hD, hs, hz => by
    have hDi := hD i (by omega)
    have hc := hs c (by simp)
    have hlt := tl_lt m (i + 1) (fun p hp => hD p (by omega))
    have hsr : dtext r := fun x hx => hs x (by simp [hx])
    have hrl := sv_lt r hsr
    have hde := dg_eq hDi
    rw [tl, sv, List.length_cons]
    obtain ⟨a, ha⟩ : ∃ a, a = dg D i := ⟨_, rfl⟩
    obtain ⟨b, hb⟩ : ∃ b, b = c.toNat - 48 := ⟨_, rfl⟩
    obtain ⟨T, hT⟩ : ∃ T, T = tl D (i + 1) m := ⟨_, rfl⟩
    obtain ⟨S, hS⟩ : ∃ S, S = sv r := ⟨_, rfl⟩
    obtain ⟨X, hX⟩ : ∃ X, X = 10 ^ m := ⟨_, rfl⟩
    obtain ⟨Y, hY⟩ : ∃ Y, Y = 10 ^ r.length := ⟨_, rfl⟩
    rw [← ha, ← hb, ← hT, ← hS, ← hX, ← hY, Nat.pow_succ, Nat.pow_succ, ← hX, ← hY]
    rw [← hT, ← hX] at hlt
    rw [← hS, ← hY] at hrl
    rw [← ha] at hde
    have hXY : (a * X + T) * (Y * 10) = 10 * (a * (X * Y) + T * Y) := by
      rw [Nat.add_mul, Nat.mul_add, Nat.mul_comm (10 : Nat) (a * (X * Y)), Nat.mul_comm (10 : Nat) (T * Y)]
      congr 1
      · rw [← Nat.mul_assoc, Nat.mul_assoc a X Y]
      · rw [Nat.mul_assoc]
    have hYX : (b * Y + S) * (X * 10) = 10 * (b * (X * Y) + S * X) := by
      rw [Nat.add_mul, Nat.mul_add, Nat.mul_comm (10 : Nat) (b * (X * Y)), Nat.mul_comm (10 : Nat) (S * X)]
      congr 1
      · rw [← Nat.mul_assoc, Nat.mul_assoc b Y X, Nat.mul_comm Y X]
      · rw [Nat.mul_assoc]
    rw [hXY, hYX]
    have hTY : T * Y < X * Y := Nat.mul_lt_mul_of_pos_right hlt (by rw [hY]; exact Nat.pow_pos (by omega))
    have hSX : S * X < X * Y := by rw [Nat.mul_comm X Y]; exact Nat.mul_lt_mul_of_pos_right hrl (by rw [hX]; exact Nat.pow_pos (by omega))
    by_cases he : D i = (c.toNat : Int)
    · have hab : a = b := by omega
      rw [plt_eq (by omega) he, show i + (m + 1) = (i + 1) + m by omega]
      by_cases hr : r = []
      · subst hr
        refine ⟨fun h => (by rw [plt_nil] at h; cases h), fun _ => ?_⟩
        simp [sv] at hS
        subst hS; subst hab
        omega
      · have ih := plt_spec r (i + 1) m (fun p hp => hD p (by omega)) hsr (fun _ => by
          have := hz (by simp)
          intro h; apply this
          rw [List.getLast?_cons]
          rw [h]; rfl)
        rw [← hT, ← hS, ← hX, ← hY] at ih
        subst hab
        refine ⟨fun h => ?_, fun h => ?_⟩
        · have := ih.1 h; omega
        · have := ih.2 h; omega
    · rw [plt_ne (by omega) he]
      refine ⟨fun h => ?_, fun h => ?_⟩
      · have h1 : D i < (c.toNat : Int) := by simpa using h
        have h2 : a + 1 ≤ b := by omega
        have h3 : (a + 1) * (X * Y) ≤ b * (X * Y) := Nat.mul_le_mul_right _ h2
        rw [Nat.add_mul] at h3
        omega
      · have h1 : ¬ D i < (c.toNat : Int) := by simpa using h
        have h2 : b + 1 ≤ a := by omega
        have h3 : (b + 1) * (X * Y) ≤ a * (X * Y) := Nat.mul_le_mul_right _ h2
        rw [Nat.add_mul] at h3
        omega

/-- What the table says of a shift: how many digits come in at most, and from which digits on. -/
structure Cheat (k L : Nat) (s : List UInt8) : Prop where
  low : 10 ^ (L - 1) ≤ 2 ^ k
  high : 2 ^ k < 10 ^ L
  pos : 1 ≤ L
  val : sv s = 5 ^ k
  len : s.length = k + 1 - L
  le : L ≤ k
  digits : dtext s
  last : s.getLast? ≠ some 48

theorem pow_split {a b : Nat} (h : b ≤ a) : 10 ^ a = 10 ^ b * 10 ^ (a - b) := by rw [← Nat.pow_add]; congr 1; omega

theorem carry_spec {D : Nat → Int} {n k L : Nat} {s : List UInt8} (hc : Cheat k L s) (hn : 1 ≤ n) (hD : ∀ p, p < n → 48 ≤ D p ∧ D p ≤ 57) (hD0 : 49 ≤ D 0) :
    (plt D n 0 s = true → lsA D k n n < 10 ^ (L - 1) ∧ (L - 1 = 0 ∨ 10 ^ (L - 1 - 1) ≤ lsA D k n n)) ∧
    (plt D n 0 s = false → lsA D k n n < 10 ^ L ∧ 10 ^ (L - 1) ≤ lsA D k n n) := by
  have h1 := plt_spec s 0 n (by simpa using hD) hc.digits (fun _ => hc.last)
  rw [Nat.zero_add] at h1
  have h2 := lsA_tl (D := D) (k := k) (n := n) n (Nat.le_refl _)
  rw [Nat.sub_self] at h2
  have h3 := tl_lt (D := D) n 0 (by simpa using hD)
  have h4 : 10 ^ (n - 1) ≤ tl D 0 n := by
    obtain ⟨m, rfl⟩ : ∃ m, n = m + 1 := ⟨n - 1, by omega⟩
    have hd := dg_eq (hD 0 (by omega))
    have : 1 ≤ dg D 0 := by omega
    have : 1 * 10 ^ m ≤ dg D 0 * 10 ^ m := Nat.mul_le_mul_right _ this
    rw [tl, Nat.add_sub_cancel]
    omega
  obtain ⟨N, hN⟩ : ∃ N, N = tl D 0 n := ⟨_, rfl⟩
  rw [← hN] at h1 h2 h3 h4
  have hL := hc.pos
  have hlen := hc.len
  have hle := hc.le
  have hlow := hc.low
  have hhigh := hc.high
  rw [hc.val] at h1
  rw [h2]
  have pp : ∀ m, 0 < 10 ^ m := fun m => Nat.pow_pos (by omega)
  have e5 : 5 ^ k * 2 ^ k = 10 ^ k := by rw [← Nat.mul_pow]
  refine ⟨fun h => ?_, fun h => ?_⟩
  · have h5 := h1.1 h
    refine ⟨?_, ?_⟩
    · rw [Nat.div_lt_iff_lt_mul (pp n)]
      have h6 : N * 10 ^ s.length * 2 ^ k < 5 ^ k * 10 ^ n * 2 ^ k := Nat.mul_lt_mul_of_pos_right h5 (Nat.two_pow_pos k)
      have e6 : 5 ^ k * 10 ^ n * 2 ^ k = 10 ^ (L - 1) * 10 ^ n * 10 ^ s.length := by
        rw [Nat.mul_assoc, Nat.mul_comm (10 ^ n), ← Nat.mul_assoc, e5, hlen, pow_split (show L - 1 ≤ k by omega), show k - (L - 1) = k + 1 - L by omega]
        rw [Nat.mul_assoc, Nat.mul_assoc, Nat.mul_comm (10 ^ n)]
      have e7 : N * 10 ^ s.length * 2 ^ k = N * 2 ^ k * 10 ^ s.length := by rw [Nat.mul_assoc, Nat.mul_comm (10 ^ s.length), ← Nat.mul_assoc]
      rw [e6, e7] at h6
      exact Nat.lt_of_mul_lt_mul_right h6
    · by_cases hL1 : L - 1 = 0
      · exact .inl hL1
      · right
        rw [Nat.le_div_iff_mul_le (pp n)]
        have h6 : 10 ^ (n - 1) * 10 ^ (L - 1) ≤ N * 2 ^ k := Nat.mul_le_mul h4 hlow
        have : 10 ^ (n - 1) * 10 ^ (L - 1) = 10 ^ (L - 1 - 1) * 10 ^ n := by
          rw [← Nat.pow_add, ← Nat.pow_add]; congr 1; omega
        omega
  · have h5 := h1.2 h
    refine ⟨?_, ?_⟩
    · rw [Nat.div_lt_iff_lt_mul (pp n)]
      have := Nat.mul_lt_mul_of_lt_of_lt h3 hhigh
      rw [Nat.mul_comm (10 ^ L)]; exact this
    · rw [Nat.le_div_iff_mul_le (pp n)]
      have h6 : 5 ^ k * 10 ^ n * 2 ^ k ≤ N * 10 ^ s.length * 2 ^ k := Nat.mul_le_mul_right _ h5
      have e6 : 5 ^ k * 10 ^ n * 2 ^ k = 10 ^ (L - 1) * 10 ^ n * 10 ^ s.length := by
        rw [Nat.mul_assoc, Nat.mul_comm (10 ^ n), ← Nat.mul_assoc, e5, hlen, pow_split (show L - 1 ≤ k by omega), show k - (L - 1) = k + 1 - L by omega]
        rw [Nat.mul_assoc, Nat.mul_assoc, Nat.mul_comm (10 ^ n)]
      have e7 : N * 10 ^ s.length * 2 ^ k = N * 2 ^ k * 10 ^ s.length := by rw [Nat.mul_assoc, Nat.mul_comm (10 ^ s.length), ← Nat.mul_assoc]
      rw [e6, e7] at h6
      exact Nat.le_of_mul_le_mul_right h6 (pp _)
end Go.Proofs.YthplmbgdcfmkgaaGreatDoor
/- The library's decimal: the table of the shifts; shifts as functions; what they do to the first digit and the point. -/
namespace Go.Proofs.YthplmbgdcfmkgaaGreatDoor
open Go.RowKit

def cheatL (k : Nat) : Nat := (Go.Pinned.cheatRows.getD k (0, [])).1
def cheatS (k : Nat) : List UInt8 := (Go.Pinned.cheatRows.getD k (0, [])).2
def cheatB (k : Nat) : Bool :=
  decide (10 ^ (cheatL k - 1) ≤ 2 ^ k) && decide (2 ^ k < 10 ^ cheatL k) && decide (1 ≤ cheatL k) && decide (sv (cheatS k) = 5 ^ k) &&
  decide ((cheatS k).length = k + 1 - cheatL k) && decide (cheatL k ≤ k) && (cheatS k).all (fun c => decide (48 ≤ c.toNat) && decide (c.toNat ≤ 57)) &&
  decide ((cheatS k).getLast? ≠ some 48) && decide (cheatL k ≤ 19) && decide ((cheatS k).length ≤ 100)
theorem cheatB_all : (List.range 60).all (fun k => cheatB (k + 1)) = true := by decide +kernel
theorem cheat_at {k : Nat} (h1 : 1 ≤ k) (h2 : k ≤ 60) : cheatB k = true := by
  have := List.all_eq_true.1 cheatB_all (k - 1) (List.mem_range.2 (by omega))
  rwa [show k - 1 + 1 = k by omega] at this
theorem cheat_spec {k : Nat} (h1 : 1 ≤ k) (h2 : k ≤ 60) : Cheat k (cheatL k) (cheatS k) ∧ cheatL k ≤ 19 ∧ (cheatS k).length ≤ 100 := by
  have h := cheat_at h1 h2
  unfold cheatB at h
  simp only [Bool.and_eq_true, decide_eq_true_eq] at h
  obtain ⟨⟨⟨⟨⟨⟨⟨⟨⟨a1, a2⟩, a3⟩, a4⟩, a5⟩, a6⟩, a7⟩, a8⟩, a9⟩, a10⟩ := h
  refine ⟨⟨a1, a2, a3, a4, a5, a6, ?_, a8⟩, a9, a10⟩
  intro c hc
  have := List.all_eq_true.1 a7 c hc
  simpa using this

/-- The first number from i on, of at most f, that passes. -/
def search (p : Nat → Bool) : Nat → Nat → Nat
  | 0, i => i
  | f + 1, i => if p i then i else search p f (i + 1)
theorem search_spec (p : Nat → Bool) : ∀ f i j, i ≤ j → j ≤ i + f → p j = true → p (search p f i) = true ∧ i ≤ search p f i ∧ search p f i ≤ j ∧ ∀ q, i ≤ q → q < search p f i → p q = false
  | 0, i, j, h1, h2, h3 => by
    obtain rfl : j = i := by omega
    exact ⟨h3, Nat.le_refl _, Nat.le_refl _, fun q a b => by simp [search] at b; omega⟩
  | f + 1, i, j, h1, h2, h3 => by
    rw [search]
    by_cases h : p i = true
    · rw [if_pos h]
      exact ⟨h, Nat.le_refl _, h1, fun q a b => by omega⟩
    · rw [if_neg h]
      have hij : i ≠ j := fun e => h (by rw [e]; exact h3)
      obtain ⟨a, b, c, d⟩ := search_spec p f (i + 1) j (by omega) (by omega) h3
      refine ⟨a, by omega, c, fun q hq hq2 => ?_⟩
      by_cases e : q = i
      · subst e; simpa using h
      · exact d q (by omega) hq2

structure DS where
  D : Nat → Int
  n : Nat
  dp : Int
  tr : Bool
structure DS.Good (s : DS) : Prop where
  n1 : 1 ≤ s.n
  n8 : s.n ≤ 800
  dig : ∀ p, p < s.n → 48 ≤ s.D p ∧ s.D p ≤ 57
  top : 49 ≤ s.D 0

def rsR (k : Nat) (s : DS) : Nat := search (fun r => decide (2 ^ k ≤ pre s.D s.n r)) 90 1
def rsJ (k : Nat) (s : DS) : Nat := search (fun j => decide (rsN s.D k s.n (rsR k s) j = 0)) 90 (s.n - rsR k s)
def rsF (k : Nat) (s : DS) : DS :=
  { D := rsD s.D k s.n (rsR k s) (rsJ k s), n := trimN (rsD s.D k s.n (rsR k s) (rsJ k s)) (min (rsJ k s) 800),
    dp := s.dp - ((rsR k s : Int) - 1), tr := rsT s.D k s.n (rsR k s) s.tr (rsJ k s) }
def lsd (k : Nat) (s : DS) : Nat := if plt s.D s.n 0 (cheatS k) = true then cheatL k - 1 else cheatL k
def lsF (k : Nat) (s : DS) : DS :=
  { D := lsE s.D k s.n (lsd k s) (lsd k s), n := trimN (lsE s.D k s.n (lsd k s) (lsd k s)) (min (s.n + lsd k s) 800),
    dp := s.dp + lsd k s, tr := lsT s.D k s.n (lsd k s) s.tr s.n }

theorem trimN_pos {D : Nat → Int} (h : 49 ≤ D 0) : ∀ m, 1 ≤ m → 1 ≤ trimN D m
  | m + 1, _ => by
    rw [trimN]
    split
    · cases m with
      | zero => omega
      | succ m => exact trimN_pos h (m + 1) (by omega)
    · omega
theorem trimN_le (D : Nat → Int) : ∀ m, trimN D m ≤ m
  | 0 => Nat.le_refl _
  | m + 1 => by
    rw [trimN]
    have := trimN_le D m
    split <;> omega
theorem trimDp_same {D : Nat → Int} {m : Nat} {dp : Int} (h : 1 ≤ trimN D m) : trimDp D m dp = dp := by
  unfold trimDp
  rw [if_neg (by omega)]

theorem pre_ge {D : Nat → Int} {n : Nat} (hn : 1 ≤ n) (h0 : 48 ≤ D 0 ∧ D 0 ≤ 57) (h : 49 ≤ D 0) : ∀ r, 10 ^ r ≤ pre D n (r + 1)
  | 0 => by
    rw [pre, dz_in (by omega)]
    have := dg_eq h0
    simp [pre]; omega
  | r + 1 => by
    have ih := pre_ge hn h0 h r
    rw [pre, Nat.pow_succ]
    omega
theorem two_le_ten (k : Nat) : 2 ^ k ≤ 10 ^ k := Nat.pow_le_pow_left (by omega) k

theorem rsR_spec {k : Nat} {s : DS} (hs : s.Good) (hk : k ≤ 60) : 2 ^ k ≤ pre s.D s.n (rsR k s) ∧ 1 ≤ rsR k s ∧ rsR k s ≤ k + 1 ∧ ∀ r, r < rsR k s → pre s.D s.n r < 2 ^ k := by
  have h1 : 2 ^ k ≤ pre s.D s.n (k + 1) := Nat.le_trans (two_le_ten k) (pre_ge hs.n1 (hs.dig 0 (by have := hs.n1; omega)) hs.top k)
  obtain ⟨a, b, c, d⟩ := search_spec (fun r => decide (2 ^ k ≤ pre s.D s.n r)) 90 1 (k + 1) (by omega) (by omega) (by simpa using h1)
  refine ⟨of_decide_eq_true a, b, c, fun r hr => ?_⟩
  by_cases h0 : r = 0
  · subst h0
    exact Nat.two_pow_pos k
  · simpa using d r (by omega) hr

theorem rsN_end {D : Nat → Int} {k n r : Nat} : ∀ t, t ≤ k → 2 ^ t ∣ rsN D k n r (n - r + t)
  | 0, _ => Nat.one_dvd _
  | t + 1, h => by
    have ih := rsN_end (D := D) (k := k) (n := n) (r := r) t (by omega)
    rw [show n - r + (t + 1) = n - r + t + 1 by omega, rsN, dz_out (by omega), Nat.add_zero, Nat.pow_succ]
    have h1 : 2 ^ t ∣ rsN D k n r (n - r + t) % 2 ^ k := (Nat.dvd_mod_iff (Nat.pow_dvd_pow 2 (by omega))).2 ih
    exact Nat.mul_dvd_mul h1 (by decide)
theorem rsJ_spec {k : Nat} {s : DS} (hs : s.Good) (hk : k ≤ 60) : rsN s.D k s.n (rsR k s) (rsJ k s) = 0 ∧ s.n - rsR k s ≤ rsJ k s ∧ 1 ≤ rsJ k s ∧ rsJ k s ≤ 1000 ∧ ∀ j, s.n - rsR k s ≤ j → j < rsJ k s → 0 < rsN s.D k s.n (rsR k s) j := by
  have h0 : rsN s.D k s.n (rsR k s) (s.n - rsR k s + (k + 1)) = 0 := by
    have := rsN_end (D := s.D) (k := k) (n := s.n) (r := rsR k s) k (Nat.le_refl _)
    rw [show s.n - rsR k s + (k + 1) = s.n - rsR k s + k + 1 by omega, rsN, dz_out (by omega), Nat.mod_eq_zero_of_dvd this]
  obtain ⟨a, b, c, d⟩ := search_spec (fun j => decide (rsN s.D k s.n (rsR k s) j = 0)) 90 (s.n - rsR k s) (s.n - rsR k s + (k + 1)) (by omega) (by omega) (by simpa using h0)
  have h8 := hs.n8
  have a' : rsN s.D k s.n (rsR k s) (rsJ k s) = 0 := of_decide_eq_true a
  refine ⟨a', b, ?_, ?_, fun j h1 h2 => ?_⟩
  · have h1 := (rsR_spec hs hk).1
    by_cases e : rsJ k s = 0
    · rw [e] at a'
      have : rsN s.D k s.n (rsR k s) 0 = pre s.D s.n (rsR k s) := rfl
      have := Nat.two_pow_pos k
      omega
    · omega
  · unfold rsJ; omega
  · have := d j h1 h2
    simp at this
    omega

theorem rsF_good {k : Nat} {s : DS} (hs : s.Good) (hk : k ≤ 60) : (rsF k s).Good := by
  obtain ⟨r1, r2, r3, r4⟩ := rsR_spec hs hk
  obtain ⟨j1, j2, j3, j4, j5⟩ := rsJ_spec hs hk
  have hlt : pre s.D s.n (rsR k s) < 10 * 2 ^ k := pre_lt hs.dig (by omega) (r4 _ (by omega))
  have hq : ∀ p, rsN s.D k s.n (rsR k s) p / 2 ^ k ≤ 9 := fun p => by
    have := rsN_lt (k := k) hs.dig hlt p
    have : rsN s.D k s.n (rsR k s) p / 2 ^ k < 10 := by rw [Nat.div_lt_iff_lt_mul (Nat.two_pow_pos k)]; omega
    omega
  have htop : 49 ≤ rsD s.D k s.n (rsR k s) (rsJ k s) 0 := by
    unfold rsD
    rw [if_pos (by omega)]
    have : 1 ≤ rsN s.D k s.n (rsR k s) 0 / 2 ^ k := by
      rw [Nat.le_div_iff_mul_le (Nat.two_pow_pos k)]
      have : rsN s.D k s.n (rsR k s) 0 = pre s.D s.n (rsR k s) := rfl
      omega
    omega
  refine ⟨trimN_pos htop _ (by omega), Nat.le_trans (trimN_le _ _) (Nat.min_le_right _ _), fun p hp => ?_, htop⟩
  have hp' : p < rsJ k s := Nat.lt_of_lt_of_le hp (Nat.le_trans (trimN_le _ _) (Nat.min_le_left _ _))
  show 48 ≤ rsD _ _ _ _ _ p ∧ rsD _ _ _ _ _ p ≤ 57
  unfold rsD
  rw [if_pos hp']
  have := hq p
  generalize rsN s.D k s.n (rsR k s) p / 2 ^ k = q at *
  omega

theorem lsd_spec {k : Nat} {s : DS} (hs : s.Good) (h1 : 1 ≤ k) (h2 : k ≤ 60) : lsd k s ≤ 19 ∧ lsA s.D k s.n s.n < 10 ^ lsd k s ∧ (lsd k s = 0 ∨ 10 ^ (lsd k s - 1) ≤ lsA s.D k s.n s.n) := by
  obtain ⟨c, c1, c2⟩ := cheat_spec h1 h2
  obtain ⟨a, b⟩ := carry_spec c hs.n1 hs.dig hs.top
  unfold lsd
  cases hp : plt s.D s.n 0 (cheatS k) with
  | true => rw [if_pos rfl]; exact ⟨by omega, a hp⟩
  | false => rw [if_neg (by decide)]; exact ⟨c1, (b hp).1, .inr (b hp).2⟩

theorem lsE_top0 {D : Nat → Int} {k n : Nat} (hn : 1 ≤ n) (hc : lsA D k n n < 10 ^ 0) : lsE D k n 0 0 0 = 48 + (lsM D k n (n - 1) : Nat) ∧ lsM D k n (n - 1) ≤ 9 := by
  obtain ⟨m, rfl⟩ : ∃ m, n = m + 1 := ⟨n - 1, by omega⟩
  rw [lsA_succ] at hc
  have h1 : lsM D k (m + 1) m ≤ 9 := by simp at hc; omega
  refine ⟨?_, h1⟩
  unfold lsE
  rw [if_neg (by omega)]
  unfold lsD
  rw [if_pos (by omega)]
  simp only [Nat.add_zero, Nat.add_sub_cancel, Nat.sub_zero]
  rw [Nat.mod_eq_of_lt (by omega)]
theorem lsE_top {D : Nat → Int} {k n d : Nat} (hd : 0 < d) (h1 : lsA D k n n < 10 ^ d) (h2 : 10 ^ (d - 1) ≤ lsA D k n n) : 49 ≤ lsE D k n d d 0 := by
  unfold lsE
  rw [if_pos (by omega), Nat.sub_zero]
  have a : 1 ≤ lsA D k n n / 10 ^ (d - 1) := by rw [Nat.le_div_iff_mul_le (Nat.pow_pos (by omega))]; omega
  have b : lsA D k n n / 10 ^ (d - 1) < 10 := by
    rw [Nat.div_lt_iff_lt_mul (Nat.pow_pos (by omega))]
    have : 10 * 10 ^ (d - 1) = 10 ^ d := by rw [Nat.mul_comm, ← Nat.pow_succ]; congr 1; omega
    omega
  rw [Nat.mod_eq_of_lt b]
  omega
theorem lsF_good {k : Nat} {s : DS} (hs : s.Good) (h1 : 1 ≤ k) (h2 : k ≤ 60) : (lsF k s).Good ∧ (lsd k s = 0 → (s.D 0 - 48) * 2 ^ k ≤ (lsF k s).D 0 - 48) := by
  obtain ⟨d1, d2, d3⟩ := lsd_spec hs h1 h2
  have hn1 := hs.n1
  have h0 : lsd k s = 0 → (s.D 0 - 48) * 2 ^ k ≤ (lsF k s).D 0 - 48 := fun e => by
    rw [e] at d2
    have ht := lsE_top0 hn1 d2
    show _ ≤ lsE _ _ _ _ _ 0 - 48
    rw [e, ht.1]
    have : lsM s.D k s.n (s.n - 1) = lsA s.D k s.n (s.n - 1) + dg s.D 0 * 2 ^ k := by rw [lsM, show s.n - 1 - (s.n - 1) = 0 by omega]
    rw [this, dg_eq (hs.dig 0 (by omega))]
    push_cast
    omega
  have htop : 49 ≤ lsE s.D k s.n (lsd k s) (lsd k s) 0 := by
    rcases d3 with e | h
    · have h3 := h0 e
      have ht := hs.top
      have h4 : (1 : Int) * 2 ^ k ≤ (s.D 0 - 48) * 2 ^ k := Int.mul_le_mul_of_nonneg_right (by omega) (Int.pow_nonneg (by omega))
      have h5 : (1 : Int) ≤ 2 ^ k := by
        have := Nat.two_pow_pos k
        have e : ((2 : Int) ^ k) = ((2 ^ k : Nat) : Int) := by push_cast; rfl
        omega
      have h6 : (lsF k s).D 0 = lsE s.D k s.n (lsd k s) (lsd k s) 0 := rfl
      omega
    · by_cases e : lsd k s = 0
      · have h3 := h0 e
        have ht := hs.top
        have h4 : (1 : Int) * 2 ^ k ≤ (s.D 0 - 48) * 2 ^ k := Int.mul_le_mul_of_nonneg_right (by omega) (Int.pow_nonneg (by omega))
        have h5 : (1 : Int) ≤ 2 ^ k := by
          have := Nat.two_pow_pos k
          have e : ((2 : Int) ^ k) = ((2 ^ k : Nat) : Int) := by push_cast; rfl
          omega
        have h6 : (lsF k s).D 0 = lsE s.D k s.n (lsd k s) (lsd k s) 0 := rfl
        omega
      · exact lsE_top (by omega) d2 h
  refine ⟨⟨trimN_pos htop _ (by omega), Nat.le_trans (trimN_le _ _) (Nat.min_le_right _ _), fun p hp => ?_, htop⟩, h0⟩
  have hp' : p < s.n + lsd k s := Nat.lt_of_lt_of_le hp (Nat.le_trans (trimN_le _ _) (Nat.min_le_left _ _))
  show 48 ≤ lsE _ _ _ _ _ p ∧ lsE _ _ _ _ _ p ≤ 57
  unfold lsE
  split
  · have := Nat.mod_lt (lsA s.D k s.n s.n / 10 ^ (lsd k s - 1 - p)) (show 10 > 0 by omega)
    omega
  · unfold lsD
    rw [if_pos (by omega)]
    have := Nat.mod_lt (lsM s.D k s.n (s.n + lsd k s - 1 - p)) (show 10 > 0 by omega)
    omega
end Go.Proofs.YthplmbgdcfmkgaaGreatDoor
/- The library's decimal: Shift, by any number of places. -/
namespace Go.Proofs.YthplmbgdcfmkgaaGreatDoor
open Go.RowKit

/-- The table of the shifts lies below block B. -/
def Cheats (B : Nat) (w : World) : Prop := ∃ lc lo, lc < B ∧ 15 < B ∧ w.cell? ⟨15, 0, none⟩ = some (.slice (some ⟨lc, lo, none⟩) 61 61) ∧
  ∀ k, k ≤ 60 → w.cell? ⟨lc, lo + k * 2, none⟩ = some (.int .i64 (cheatL k : Nat)) ∧ w.cell? ⟨lc, lo + k * 2 + 1, none⟩ = some (.string ⟨(cheatS k).toArray⟩)
theorem Cheats.below {B : Nat} {w w' : World} (h : Cheats B w) (k : Below B w w') : Cheats B w' := by
  obtain ⟨lc, lo, h1, h2, h3, h4⟩ := h
  exact ⟨lc, lo, h1, h2, by rw [k.cell (by exact h2)]; exact h3, fun j hj => ⟨by rw [k.cell (by exact h1)]; exact (h4 j hj).1, by rw [k.cell (by exact h1)]; exact (h4 j hj).2⟩⟩

def DecS (w : World) (g : Nat) (s : DS) (neg : Bool) : Prop := Dec w g s.D s.n s.dp neg s.tr

theorem rsF_calls {k : Nat} {s : DS} (hs : s.Good) (hk1 : 1 ≤ k) (hk2 : k ≤ 60) (h1 : -1000000 ≤ s.dp) (h2 : s.dp ≤ 1000000) (w : World) (g : Nat) (neg : Bool) (h : DecS w g s neg) :
    Calls Tryz.prog 147 #[.pointer (some ⟨g, 0, none⟩), .int .u64 k] w fun e w' => e = .returned (.tuple #[]) ∧ DecS w' g (rsF k s) neg ∧ Only g w w' := by
  obtain ⟨r1, r2, r3, r4⟩ := rsR_spec hs hk2
  obtain ⟨j1, j2, j3, j4, j5⟩ := rsJ_spec hs hk2
  have hg := rsF_good hs hk2
  have hn' : 1 ≤ trimN (rsD s.D k s.n (rsR k s) (rsJ k s)) (min (rsJ k s) 800) := hg.n1
  have key : Calls Tryz.prog 147 #[.pointer (some ⟨g, 0, none⟩), .int .u64 k] w fun e w' => e = .returned (.tuple #[]) ∧
      Dec w' g (rsD s.D k s.n (rsR k s) (rsJ k s)) (trimN (rsD s.D k s.n (rsR k s) (rsJ k s)) (min (rsJ k s) 800)) (trimDp (rsD s.D k s.n (rsR k s) (rsJ k s)) (min (rsJ k s) 800) (s.dp - ((rsR k s : Int) - 1))) neg (rsT s.D k s.n (rsR k s) s.tr (rsJ k s)) ∧ Only g w w' := by
    by_cases hc : rsR k s ≤ s.n
    · exact rs_A s.D s.n s.tr neg s.dp hs.n1 hs.n8 k hk1 hk2 w g h hs.dig hs.top (rsR k s) (rsJ k s) (by omega) r1 r4 j2 j1 j5 j4 (by omega) h1 h2 hc
    · exact rs_B s.D s.n s.tr neg s.dp hs.n1 hs.n8 k hk1 hk2 w g h hs.dig hs.top (rsR k s) (rsJ k s) (by omega) r1 r4 j2 j1 j5 j4 (by omega) h1 h2 (by omega)
  rw [trimDp_same hn'] at key
  exact key

theorem lsF_calls {k : Nat} {s : DS} (hs : s.Good) (hk1 : 1 ≤ k) (hk2 : k ≤ 60) (h1 : -1000000 ≤ s.dp) (h2 : s.dp ≤ 1000000) (w : World) (g : Nat) (neg : Bool) (h : DecS w g s neg) (B : Nat) (hc : Cheats B w) :
    Calls Tryz.prog 146 #[.pointer (some ⟨g, 0, none⟩), .int .u64 k] w fun e w' => e = .returned (.tuple #[]) ∧ DecS w' g (lsF k s) neg ∧ Only g w w' := by
  obtain ⟨d1, d2, d3⟩ := lsd_spec hs hk1 hk2
  obtain ⟨lc, lo, l1, l2, l3, l4⟩ := hc
  obtain ⟨c, c1, c2⟩ := cheat_spec hk1 hk2
  have hg := (lsF_good hs hk1 hk2).1
  have hn' : 1 ≤ trimN (lsE s.D k s.n (lsd k s) (lsd k s)) (min (s.n + lsd k s) 800) := hg.n1
  have hpos := c.pos
  have e1 : lsd k s + (plt s.D s.n 0 (cheatS k)).toNat = cheatL k := by
    unfold lsd
    cases plt s.D s.n 0 (cheatS k) with
    | true => simp; omega
    | false => simp
  have key := ls_any (plt s.D s.n 0 (cheatS k)) s.D s.n s.tr neg s.dp hs.n8 k hk1 hk2 w g h lc lo (lsd k s) ⟨(cheatS k).toArray⟩ hs.dig d1 (by simp) l3
    (by rw [e1]; exact (l4 k hk2).1) (l4 k hk2).2 (by show (cheatS k).toArray.size ≤ 100; simpa using c2) ⟨h1, h2⟩ d2 d3
  rw [trimDp_same hn'] at key
  exact key

/-- A shift to the right by any number of places. -/
def shR (k : Nat) (s : DS) : DS := if h : 60 < k then shR (k - 60) (rsF 60 s) else rsF k s
termination_by k
theorem shR_big {k : Nat} (h : 60 < k) (s : DS) : shR k s = shR (k - 60) (rsF 60 s) := by rw [shR, dif_pos h]
theorem shR_small {k : Nat} (h : ¬ 60 < k) (s : DS) : shR k s = rsF k s := by rw [shR, dif_neg h]
theorem rsF_dp {k : Nat} {s : DS} (hs : s.Good) (hk : k ≤ 60) : s.dp - 60 ≤ (rsF k s).dp ∧ (rsF k s).dp ≤ s.dp := by
  obtain ⟨r1, r2, r3, r4⟩ := rsR_spec hs hk
  show s.dp - 60 ≤ s.dp - ((rsR k s : Int) - 1) ∧ s.dp - ((rsR k s : Int) - 1) ≤ s.dp
  omega
theorem shR_good : ∀ (k : Nat) (s : DS), s.Good → (shR k s).Good
  | k, s, hs => by
    by_cases h : 60 < k
    · rw [shR_big h]
      have := shR_good (k - 60) (rsF 60 s) (rsF_good hs (by omega))
      exact this
    · rw [shR_small h]
      exact rsF_good hs (by omega)
  termination_by k => k

set_option maxHeartbeats 1000000 in
theorem shR_calls (k : Nat) (s : DS) (hs : s.Good) (hk1 : 1 ≤ k) (hk2 : k ≤ 100000) (h1 : -300000 ≤ s.dp) (h2 : s.dp ≤ 1000000) (w : World) (g : Nat) (neg : Bool) (h : DecS w g s neg) :
    Calls Tryz.prog 141 #[.pointer (some ⟨g, 0, none⟩), .int .i64 (-(k : Int))] w fun e w' => e = .returned (.tuple #[]) ∧ DecS w' g (shR k s) neg ∧ Only g w w' := by
  have H := Lib.hid h
  have HS := Lib.hid hs
  have hn1 := hs.n1
  have c0 : w.cell? ⟨g, 800, none⟩ = some (.int .i64 s.n) := h.nd
  have hz : ((s.n : Int) == 0) = false := by rw [beq_eq_false_iff_ne]; omega
  have hk0 : decide (0 < -(k : Int)) = false := by simp
  have hk3 : decide (-(k : Int) < 0) = true := by simp; omega
  have hk3' : decide (0 < k) = true := by simp; omega
  have hk0' : decide ((k : Int) < 0) = false := by simp
  clear h hs hn1
  go_enter Tryz.func141, Tryz.ntmps141
  go_wp2_with fail
  go_loopg [1] k (fun q x wr => ∃ (j : Nat) (t : DS), q = j ∧ 1 ≤ j ∧ j ≤ k ∧ x = .int .i64 (-(j : Int)) ∧ Hid (t.Good) ∧ Hid (shR k s = shR j t) ∧ Hid (s.dp - (k - j : Nat) ≤ t.dp ∧ t.dp ≤ s.dp) ∧ Hid (DecS wr g t neg) ∧ Hid (Only g w wr))
  case atStart => exact ⟨k, s, rfl, hk1, Nat.le_refl _, rfl, HS, rfl, by unfold Hid; omega, H, Only.refl _ _⟩
  case round =>
    obtain ⟨j, t, rfl, hj1, hj2, rfl, ht, he, hdp, hd, ho⟩ := hrel
    have hdp' := hdp.out
    by_cases hb : 60 < gk
    · have hbb : decide (-(gk : Int) < -60) = true := by simp; omega
      have hcall := rsF_calls (k := 60) ht.out (by omega) (by omega) (by omega) (by omega) wr g neg hd.out
      have HC := Lib.hid hcall
      have hdp2 := rsF_dp (k := 60) ht.out (by omega)
      have HDP := Lib.hid hdp2
      clear hcall hdp' hdp2
      go_wp2_with fail
      refine HC.out.mono ?_
      rintro e w' ⟨rfl, hd', ho'⟩
      have HD' := Lib.hid hd'
      have HO' := Lib.hid ho'
      clear hd' ho'
      go_wp2_with fail
      go_roundg (gk - 60)
      case measure => omega
      case rel =>
        refine ⟨gk - 60, rsF 60 t, rfl, by omega, by omega, by rw [show (-((gk - 60 : Nat) : Int)) = -(gk : Int) + 60 by omega], rsF_good ht.out (by omega), he.out.trans (shR_big hb t), ?_, HD', ho.out.trans HO'.out⟩
        have h1 := hdp.out
        have h2 := HDP.out
        unfold Hid
        omega
    · have hbb : decide (-(gk : Int) < -60) = false := by simp; omega
      have hcall := rsF_calls (k := gk) ht.out (by omega) (by omega) (by omega) (by omega) wr g neg hd.out
      have HC := Lib.hid hcall
      clear hcall hdp'
      go_wp2_with fail
      refine HC.out.mono ?_
      rintro e w' ⟨rfl, hd', ho'⟩
      have HD' := Lib.hid hd'
      have HO' := Lib.hid ho'
      clear hd' ho'
      go_wp2_with fail
      go_end0
      refine ⟨rfl, ?_, ho.out.trans HO'.out⟩
      rw [he.out, shR_small hb]
      exact HD'.out

set_option maxHeartbeats 1000000 in
theorem shL_calls (k : Nat) (s : DS) (hs : s.Good) (hk1 : 1 ≤ k) (hk2 : k ≤ 60) (h1 : -1000000 ≤ s.dp) (h2 : s.dp ≤ 1000000) (w : World) (g : Nat) (neg : Bool) (h : DecS w g s neg) (B : Nat) (hc : Cheats B w) :
    Calls Tryz.prog 141 #[.pointer (some ⟨g, 0, none⟩), .int .i64 (k : Int)] w fun e w' => e = .returned (.tuple #[]) ∧ DecS w' g (lsF k s) neg ∧ Only g w w' := by
  have HC := Lib.hid (lsF_calls hs hk1 hk2 h1 h2 w g neg h B hc)
  have hn1 := hs.n1
  have c0 : w.cell? ⟨g, 800, none⟩ = some (.int .i64 s.n) := h.nd
  have hz : ((s.n : Int) == 0) = false := by rw [beq_eq_false_iff_ne]; omega
  have hk0 : decide (0 < (k : Int)) = true := by simp; omega
  have hk3 : decide (60 < k) = false := by simp; omega
  have hk4 : decide ((60 : Int) < (k : Int)) = false := by simp; omega
  clear h hs hn1 hc
  go_enter Tryz.func141, Tryz.ntmps141
  go_wp2_with fail
  refine wp_loop_rounds 1 ?_
  rw [rounds_succ]
  go_wp2_with fail
  refine HC.out.mono ?_
  rintro e w' ⟨rfl, hd', ho'⟩
  go_wp2_with fail
  go_end0
  exact ⟨rfl, hd', ho'⟩
end Go.Proofs.YthplmbgdcfmkgaaGreatDoor
/- A scope whose gotos all lead forward. -/
namespace Go.Proofs.YthplmbgdcfmkgaaGreatDoor
open Go.RowKit

/-- As Q; by a goto to a label: what stands behind it, from which nothing jumps. -/
def Jumps (P : Program) (c : Code) (Q : Exit → Act → World → Prop) : Exit → Act → World → Prop
  | .goto l, a, w => ∃ rest, findLabel c l = some rest ∧ rest.wp P (Exit.noGoto Q) a w
  | e, a, w => Q e a w
theorem Jumps.ret {P c Q a w} : Jumps P c Q .ret a w = Q .ret a w := rfl
theorem Jumps.normal {P c Q a w} : Jumps P c Q .normal a w = Q .normal a w := rfl
theorem Jumps.exit {P c Q a w id} : Jumps P c Q (.exit id) a w = Q (.exit id) a w := rfl
theorem Jumps.goto {P c Q a w l rest} (h : findLabel c l = some rest) (k : rest.wp P (Exit.noGoto Q) a w) : Jumps P c Q (.goto l) a w := ⟨rest, h, k⟩

theorem wp_scope_fwd {P : Program} {a : Act} {w : World} {Q : Exit → Act → World → Prop} {c : Code} (first : c.wp P (Jumps P c Q) a w) : (Code.scope c).wp P Q a w := by
  intro b k cs
  obtain ⟨e, a₁, w₁, hq, harr⟩ := first b (.inScope c :: k) cs
  cases e with
  | normal => exact ⟨.normal, a₁, w₁, hq, .head step_scope (Steps.trans harr (.one step_inScope))⟩
  | exit id => exact ⟨.exit id, a₁, w₁, hq, fun k' hk => .head step_scope (harr k' (by simp [exitTo, hk]))⟩
  | goto l' =>
    obtain ⟨rest, hf, hJ⟩ := hq
    have hg : gotoIn l' (.inScope c :: k) = some (.code rest :: .inScope c :: k) := by simp [gotoIn, hf]
    obtain ⟨e₂, a₂, w₂, hq₂, harr₂⟩ := hJ b (.inScope c :: k) cs
    have h0 := harr _ hg
    cases e₂ with
    | normal => exact ⟨.normal, a₂, w₂, hq₂, .head step_scope (Steps.trans h0 (Steps.trans harr₂ (.one step_inScope)))⟩
    | exit id => exact ⟨.exit id, a₂, w₂, hq₂, fun k' hk => .head step_scope (Steps.trans h0 (harr₂ k' (by simp [exitTo, hk])))⟩
    | goto l => exact hq₂.elim
    | ret => exact ⟨_, a₂, w₂, hq₂, .of_steps (.head step_scope h0) harr₂⟩
    | panic ch => exact ⟨_, a₂, w₂, hq₂, .of_steps (.head step_scope h0) harr₂⟩
    | outgrown => exact ⟨_, a₂, w₂, hq₂, .of_steps (.head step_scope h0) harr₂⟩
  | ret => exact ⟨_, a₁, w₁, hq, .of_steps (.one step_scope) harr⟩
  | panic ch => exact ⟨_, a₁, w₁, hq, .of_steps (.one step_scope) harr⟩
  | outgrown => exact ⟨_, a₁, w₁, hq, .of_steps (.one step_scope) harr⟩

structure Info (B : Nat) (w : World) : Prop where
  b : 16 ≤ B
  c0 : w.cell? ⟨10, 0, none⟩ = some (.int .u64 52)
  c1 : w.cell? ⟨10, 1, none⟩ = some (.int .u64 11)
  c2 : w.cell? ⟨10, 2, none⟩ = some (.int .i64 (-1023))
theorem Info.below {B : Nat} {w w' : World} (h : Info B w) (k : Below B w w') : Info B w' :=
  ⟨h.b, by rw [k.cell (by have := h.b; show 10 < B; omega)]; exact h.c0, by rw [k.cell (by have := h.b; show 10 < B; omega)]; exact h.c1, by rw [k.cell (by have := h.b; show 10 < B; omega)]; exact h.c2⟩

def ptab (i : Nat) : Nat := [1, 3, 6, 9, 13, 16, 19, 23, 26].getD i 0
def Powtab (B : Nat) (w : World) : Prop := ∃ pb po, pb < B ∧ 12 < B ∧ w.cell? ⟨12, 0, none⟩ = some (.slice (some ⟨pb, po, none⟩) 9 9) ∧ ∀ i, i < 9 → w.cell? ⟨pb, po + i, none⟩ = some (.int .i64 (ptab i : Nat))
theorem Powtab.below {B : Nat} {w w' : World} (h : Powtab B w) (k : Below B w w') : Powtab B w' := by
  obtain ⟨pb, po, h1, h2, h3, h4⟩ := h
  exact ⟨pb, po, h1, h2, by rw [k.cell (by exact h2)]; exact h3, fun j hj => by rw [k.cell (by exact h1)]; exact h4 j hj⟩

def pw (j : Nat) : Nat := if 9 ≤ j then 27 else ptab j
theorem pw_spec (j : Nat) : 1 ≤ pw j ∧ pw j ≤ 27 := by
  unfold pw
  split
  · omega
  · have : j = 0 ∨ j = 1 ∨ j = 2 ∨ j = 3 ∨ j = 4 ∨ j = 5 ∨ j = 6 ∨ j = 7 ∨ j = 8 := by omega
    rcases this with rfl | rfl | rfl | rfl | rfl | rfl | rfl | rfl | rfl <;> decide
theorem pw_two (j : Nat) (h : 2 ≤ j) : 6 ≤ pw j := by
  unfold pw
  split
  · omega
  · have : j = 2 ∨ j = 3 ∨ j = 4 ∨ j = 5 ∨ j = 6 ∨ j = 7 ∨ j = 8 := by omega
    rcases this with rfl | rfl | rfl | rfl | rfl | rfl | rfl <;> decide

/-- Down till the point stands ahead of the digits. -/
def fb1 : Nat → DS → Int → DS × Int
  | 0, s, e => (s, e)
  | f + 1, s, e => if 0 < s.dp then fb1 f (rsF (pw s.dp.toNat) s) (e + pw s.dp.toNat) else (s, e)
def fb2 : Nat → DS → Int → DS × Int
  | 0, s, e => (s, e)
  | f + 1, s, e => if s.dp < 0 ∨ (s.dp = 0 ∧ s.D 0 < 53) then fb2 f (lsF (pw (-s.dp).toNat) s) (e - pw (-s.dp).toNat) else (s, e)
def mu1 (s : DS) : Nat := if s.dp ≤ 0 then 0 else 2 * s.dp.toNat + (if 56 ≤ s.D 0 then 1 else 0)
def mu2 (s : DS) : Nat := if s.dp < 0 then 20 + 2 * (-s.dp).toNat + (if 56 ≤ s.D 0 then 0 else 1) else if s.D 0 < 53 then (53 - s.D 0).toNat else 0

theorem mu1_down {s : DS} (hs : s.Good) (h : 0 < s.dp) : mu1 (rsF (pw s.dp.toNat) s) < mu1 s ∧ s.dp - 27 ≤ (rsF (pw s.dp.toNat) s).dp ∧ (rsF (pw s.dp.toNat) s).dp ≤ s.dp := by
  obtain ⟨k1, k2⟩ := pw_spec s.dp.toNat
  obtain ⟨r1, r2, r3, r4⟩ := rsR_spec hs (show pw s.dp.toNat ≤ 60 by omega)
  have hdp : (rsF (pw s.dp.toNat) s).dp = s.dp - ((rsR (pw s.dp.toNat) s : Int) - 1) := rfl
  refine ⟨?_, by omega, by omega⟩
  have h0 := hs.dig 0 (by have := hs.n1; omega)
  by_cases h1 : s.dp = 1
  · have e3 : pw s.dp.toNat = 3 := by rw [h1]; rfl
    rw [e3] at r1 r2 r3 r4 hdp ⊢
    by_cases hr : rsR 3 s = 1
    · rw [hr] at r1 hdp
      have hp : pre s.D s.n 1 = dg s.D 0 := by simp [pre, dz_in (show 0 < s.n by have := hs.n1; omega)]
      have hde := dg_eq h0
      rw [hp] at r1
      have hD' : (rsF 3 s).D 0 = 49 := by
        obtain ⟨j1, j2, j3, j4, j5⟩ := rsJ_spec hs (show (3 : Nat) ≤ 60 by omega)
        show rsD s.D 3 s.n (rsR 3 s) (rsJ 3 s) 0 = 49
        unfold rsD
        rw [if_pos (by omega), hr]
        have : rsN s.D 3 s.n 1 0 = dg s.D 0 := hp
        rw [this]
        have : dg s.D 0 / 2 ^ 3 = 1 := by
          have := dg_le h0
          simp at r1 ⊢
          omega
        rw [this]; rfl
      unfold mu1
      rw [hD', if_neg (show ¬ (rsF 3 s).dp ≤ 0 by omega), if_neg (show ¬ (56 : Int) ≤ 49 by omega), if_neg (show ¬ s.dp ≤ 0 by omega), if_pos (show (56 : Int) ≤ s.D 0 by simp at r1; omega)]
      omega
    · unfold mu1
      rw [if_pos (by omega), if_neg (by omega)]
      omega
  · have h6 := pw_two s.dp.toNat (by omega)
    have h2 : 2 ≤ rsR (pw s.dp.toNat) s := by
      by_cases e : rsR (pw s.dp.toNat) s = 1
      · rw [e] at r1
        have hp : pre s.D s.n 1 = dg s.D 0 := by simp [pre, dz_in (show 0 < s.n by have := hs.n1; omega)]
        have := dg_le h0
        have h64 : 2 ^ 6 ≤ 2 ^ pw s.dp.toNat := Nat.pow_le_pow_right (by omega) h6
        omega
      · omega
    unfold mu1
    rw [if_neg (show ¬ s.dp ≤ 0 by omega)]
    split
    · omega
    · split <;> split <;> omega

theorem plt_first {D : Nat → Int} {n : Nat} {c : UInt8} {r : List UInt8} (hn : 1 ≤ n) (h : D 0 ≠ (c.toNat : Int)) : plt D n 0 (c :: r) = decide (D 0 < (c.toNat : Int)) := plt_ne (by omega) h
theorem cheatL_at : ∀ j, 2 ≤ j → j ≤ 8 → 2 ≤ cheatL (pw j) ∧ cheatL (pw j) ≤ j := by
  intro j h1 h2
  have : j = 2 ∨ j = 3 ∨ j = 4 ∨ j = 5 ∨ j = 6 ∨ j = 7 ∨ j = 8 := by omega
  rcases this with rfl | rfl | rfl | rfl | rfl | rfl | rfl <;> decide
theorem lsd_le (k : Nat) (s : DS) : lsd k s ≤ cheatL k ∧ cheatL k - 1 ≤ lsd k s := by
  unfold lsd
  split <;> omega
theorem mu2_down {s : DS} (hs : s.Good) (h : s.dp < 0 ∨ (s.dp = 0 ∧ s.D 0 < 53)) : mu2 (lsF (pw (-s.dp).toNat) s) < mu2 s ∧ s.dp ≤ (lsF (pw (-s.dp).toNat) s).dp ∧ (lsF (pw (-s.dp).toNat) s).dp ≤ 0 := by
  obtain ⟨k1, k2⟩ := pw_spec (-s.dp).toNat
  obtain ⟨g1, g2⟩ := lsF_good hs k1 (show pw (-s.dp).toNat ≤ 60 by omega)
  have hdp : (lsF (pw (-s.dp).toNat) s).dp = s.dp + lsd (pw (-s.dp).toNat) s := rfl
  have h0 := hs.dig 0 (by have := hs.n1; omega)
  have ht := hs.top
  have hg0 := g1.dig 0 (by have := g1.n1; omega)
  have hn1 := hs.n1
  rcases h with h | ⟨h, h5⟩
  · by_cases h1 : s.dp = -1
    · have e3 : pw (-s.dp).toNat = 3 := by rw [h1]; rfl
      rw [e3] at g1 g2 hdp hg0 ⊢
      have hl := lsd_le 3 s
      have hc : cheatL 3 = 1 := by decide
      rw [hc] at hl
      by_cases h56 : 56 ≤ s.D 0
      · have hp : plt s.D s.n 0 (cheatS 3) = false := by
          have e : cheatS 3 = [49, 50, 53] := by decide
          have h49 : ((49 : UInt8).toNat : Int) = 49 := by decide
          rw [e, plt_first hn1 (by rw [h49]; omega), h49]
          simp; omega
        have hd : lsd 3 s = 1 := by unfold lsd; rw [hp, if_neg (by decide), hc]
        refine ⟨?_, by omega, by omega⟩
        unfold mu2
        rw [if_neg (by omega), if_pos h, if_pos h56]
        split <;> omega
      · by_cases hd : lsd 3 s = 0
        · have h8 := g2 hd
          refine ⟨?_, by omega, by omega⟩
          unfold mu2
          rw [if_pos (by omega), if_pos h, if_pos (by omega), if_neg h56]
          omega
        · refine ⟨?_, by omega, by omega⟩
          unfold mu2
          rw [if_neg (show ¬ (lsF 3 s).dp < 0 by omega), if_pos h, if_neg h56]
          split <;> omega
    · have hl := lsd_le (pw (-s.dp).toNat) s
      have hj : 1 ≤ lsd (pw (-s.dp).toNat) s ∧ (lsd (pw (-s.dp).toNat) s : Int) ≤ -s.dp := by
        by_cases h9 : 9 ≤ (-s.dp).toNat
        · have e : pw (-s.dp).toNat = 27 := by unfold pw; rw [if_pos h9]
          rw [e] at hl ⊢
          have hc : cheatL 27 = 9 := by decide
          omega
        · have := cheatL_at (-s.dp).toNat (by omega) (by omega)
          omega
      refine ⟨?_, by omega, by omega⟩
      unfold mu2
      rw [if_pos h]
      split
      · split <;> split <;> omega
      · split <;> split <;> omega
  · have e1 : pw (-s.dp).toNat = 1 := by rw [h]; rfl
    rw [e1] at g1 g2 hdp hg0 ⊢
    have hp : plt s.D s.n 0 (cheatS 1) = true := by
      have e : cheatS 1 = [53] := by decide
      have h49 : ((53 : UInt8).toNat : Int) = 53 := by decide
      rw [e, plt_first hn1 (by rw [h49]; omega), h49]
      simp; omega
    have hc : cheatL 1 = 1 := by decide
    have hd : lsd 1 s = 0 := by unfold lsd; rw [hp, if_pos rfl, hc]
    have h8 := g2 hd
    refine ⟨?_, by omega, by omega⟩
    unfold mu2
    rw [if_neg (show ¬ (lsF 1 s).dp < 0 by omega), if_neg (show ¬ s.dp < 0 by omega), if_pos h5]
    split <;> omega
theorem mu1_le (s : DS) (h : s.dp ≤ 310) : mu1 s ≤ 621 := by
  unfold mu1
  split
  · omega
  · split <;> omega
theorem mu2_le (s : DS) (h : -330 ≤ s.dp) (h48 : 48 ≤ s.D 0) : mu2 s ≤ 700 := by
  unfold mu2
  split
  · split <;> omega
  · split <;> omega
theorem mu1_zero {s : DS} (h : mu1 s = 0) : s.dp ≤ 0 := by
  unfold mu1 at h
  split at h
  · assumption
  · split at h <;> omega
theorem mu2_zero {s : DS} (h : mu2 s = 0) : ¬ (s.dp < 0 ∨ (s.dp = 0 ∧ s.D 0 < 53)) := by
  unfold mu2 at h
  split at h
  · split at h <;> omega
  · split at h <;> omega
end Go.Proofs.YthplmbgdcfmkgaaGreatDoor
