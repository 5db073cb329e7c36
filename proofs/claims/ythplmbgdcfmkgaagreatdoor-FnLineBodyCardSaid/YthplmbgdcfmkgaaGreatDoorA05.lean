/- decimal.set; doubles. -/
import Derived.Test.YthplmbgdcfmkgaaGreatDoorA04
import Derived.Test.YthplmbgdcfmkgaaGreatDoorA02
import Derived.Deep.CutBlock
import Derived.Deep.CutRange
import Derived.Test.YthplmbgdcfmkgaaGreatDoorA01
import Derived.Laws.Externs
import Ieee.Word
import Derived.Laws.FloatArith
set_option linter.unusedVariables false
set_option linter.unusedSimpArgs false
/- The library's decimal: set, what it computes. -/
namespace Go.Proofs.YthplmbgdcfmkgaaGreatDoor
open Go.RowKit

structure SR where
  D : Nat → Int
  n : Nat
  dp : Int
  tr : Bool
  dot : Bool
  dig : Bool
def sr0 : SR := ⟨fun _ => 0, 0, 0, false, false, false⟩
def srDot (r : SR) : SR := ⟨r.D, r.n, r.n, r.tr, true, r.dig⟩
def srZero (r : SR) : SR := ⟨r.D, r.n, r.dp - 1, r.tr, r.dot, true⟩
def srDigit (c : Nat) (r : SR) : SR :=
  if r.n < 800 then ⟨fun p => if p = r.n then (c : Int) else r.D p, r.n + 1, r.dp, r.tr, r.dot, true⟩
  else ⟨r.D, r.n, r.dp, r.tr || decide (c ≠ 48), r.dot, true⟩
def srRun : List UInt8 → SR → Option (List UInt8 × SR)
  | [], r => some ([], r)
  | c :: l, r =>
    if c.toNat = 46 then (if r.dot = true then none else srRun l (srDot r))
    else if isD c.toNat then (if c.toNat = 48 ∧ r.n = 0 then srRun l (srZero r) else srRun l (srDigit c.toNat r))
    else some (c :: l, r)
def srDp (r : SR) : Int := if r.dot = true then r.dp else r.n
def srOut (r : SR) (dp : Int) (l : List UInt8) : Option DS := match l with | [] => some ⟨r.D, r.n, dp, r.tr⟩ | _ => none
def srEx (r : SR) (dp es : Int) (l : List UInt8) : Option DS :=
  match l with
  | [] => none
  | c :: l' => if isD c.toNat then srOut r (dp + (rfE (c :: l') 0).1 * es) (rfE (c :: l') 0).2 else none
def srTail (r : SR) (dp : Int) (l : List UInt8) : Option DS :=
  match l with
  | [] => srOut r dp []
  | c :: l1 => if lw c.toNat = 101 then
      (match l1 with
        | [] => none
        | d :: l2 => if d.toNat = 43 then srEx r dp 1 l2 else if d.toNat = 45 then srEx r dp (-1) l2 else srEx r dp 1 (d :: l2))
    else none
def srF (l : List UInt8) : Option DS :=
  match srRun l sr0 with
  | none => none
  | some (l1, r) => if r.dig = true then srTail r (srDp r) l1 else none

theorem srEx_cons (r : SR) (dp es : Int) (c : UInt8) (l : List UInt8) : srEx r dp es (c :: l) = if isD c.toNat then srOut r (dp + (rfE (c :: l) 0).1 * es) (rfE (c :: l) 0).2 else none := rfl
theorem srTail_nil (r : SR) (dp : Int) : srTail r dp [] = srOut r dp [] := rfl
theorem srTail_cons (r : SR) (dp : Int) (c : UInt8) (l : List UInt8) : srTail r dp (c :: l) = if lw c.toNat = 101 then
      (match l with
        | [] => none
        | d :: l2 => if d.toNat = 43 then srEx r dp 1 l2 else if d.toNat = 45 then srEx r dp (-1) l2 else srEx r dp 1 (d :: l2))
    else none := rfl
theorem srRun_nil (r) : srRun [] r = some ([], r) := rfl
theorem srRun_dot {c : UInt8} {l r} (h : c.toNat = 46) (hd : r.dot = false) : srRun (c :: l) r = srRun l (srDot r) := by rw [srRun, if_pos h, if_neg (by rw [hd]; decide)]
theorem srRun_dot2 {c : UInt8} {l r} (h : c.toNat = 46) (hd : r.dot = true) : srRun (c :: l) r = none := by rw [srRun, if_pos h, if_pos hd]
theorem srRun_zero {c : UInt8} {l} {r : SR} (h : c.toNat = 48) (hd : r.n = 0) : srRun (c :: l) r = srRun l (srZero r) := by rw [srRun, if_neg (by omega), if_pos (by unfold isD; omega), if_pos ⟨h, hd⟩]
theorem srRun_digit {c : UInt8} {l} {r : SR} (h : isD c.toNat) (hd : ¬ (c.toNat = 48 ∧ r.n = 0)) : srRun (c :: l) r = srRun l (srDigit c.toNat r) := by unfold isD at h; rw [srRun, if_neg (by omega), if_pos (by unfold isD; omega), if_neg hd]
theorem srRun_stop {c : UInt8} {l r} (h : ¬ isD c.toNat) (hd : c.toNat ≠ 46) : srRun (c :: l) r = some (c :: l, r) := by rw [srRun, if_neg hd, if_neg h]
theorem srDigit_few {c : Nat} {r : SR} (h : r.n < 800) : srDigit c r = ⟨fun p => if p = r.n then (c : Int) else r.D p, r.n + 1, r.dp, r.tr, r.dot, true⟩ := by rw [srDigit, if_pos h]
theorem srDigit_many {c : Nat} {r : SR} (h : ¬ r.n < 800) : srDigit c r = ⟨r.D, r.n, r.dp, r.tr || decide (c ≠ 48), r.dot, true⟩ := by rw [srDigit, if_neg h]

theorem srEx_yes {s : ByteArray} {q q' : Nat} {r : SR} {dp es e : Int} (hq : q < s.size) (h : isD (s[q]'hq).toNat) (he : rfE (s.data.toList.drop q) 0 = (e, s.data.toList.drop q')) :
    srEx r dp es (s.data.toList.drop q) = srOut r (dp + e * es) (s.data.toList.drop q') := by
  have he' := he
  rw [drop_cons s q hq] at he' ⊢
  rw [srEx_cons, if_pos h]
  simp only [he']
/-- What the digits are, and where the point may stand behind j bytes. -/
structure SI (j : Nat) (r : SR) : Prop where
  n8 : r.n ≤ 800
  nj : r.n ≤ j
  dp0 : -(j : Int) ≤ r.dp
  dp1 : r.dp ≤ j
  dig : ∀ p, p < r.n → 48 ≤ r.D p ∧ r.D p ≤ 57
  top : 1 ≤ r.n → 49 ≤ r.D 0
theorem SI.start (o : Nat) : SI o sr0 := ⟨by simp [sr0], by simp [sr0], by simp [sr0], by simp [sr0], fun p hp => by simp [sr0] at hp, fun h => by simp [sr0] at h⟩
theorem SI.dot {j r} (h : SI j r) : SI (j + 1) (srDot r) := by
  have h1 := h.n8; have h2 := h.nj; have h3 := h.dp0; have h4 := h.dp1
  exact ⟨h1, by simp only [srDot]; omega, by simp only [srDot]; omega, by simp only [srDot]; omega, h.dig, h.top⟩
theorem SI.zero {j r} (h : SI j r) : SI (j + 1) (srZero r) := by
  have h1 := h.n8; have h2 := h.nj; have h3 := h.dp0; have h4 := h.dp1
  exact ⟨h1, by simp only [srZero]; omega, by simp only [srZero]; omega, by simp only [srZero]; omega, h.dig, h.top⟩
theorem SI.digit {j r} (h : SI j r) {c : Nat} (hc : isD c) (hz : ¬ (c = 48 ∧ r.n = 0)) : SI (j + 1) (srDigit c r) := by
  have h1 := h.n8; have h2 := h.nj; have h3 := h.dp0; have h4 := h.dp1
  unfold isD at hc
  by_cases hn : r.n < 800
  · rw [srDigit_few hn]
    refine ⟨by simp only; omega, by simp only; omega, by simp only; omega, by simp only; omega, fun p hp => ?_, fun _ => ?_⟩
    · simp only at hp ⊢
      by_cases e : p = r.n
      · rw [if_pos e]; omega
      · rw [if_neg e]; exact h.dig p (by omega)
    · simp only
      by_cases e : 0 = r.n
      · rw [if_pos e]; omega
      · rw [if_neg e]; exact h.top (by omega)
  · rw [srDigit_many hn]
    exact ⟨by simp only; omega, by simp only; omega, by simp only; omega, by simp only; omega, h.dig, h.top⟩
theorem srDp_bound {j r} (h : SI j r) : -(j : Int) ≤ srDp r ∧ srDp r ≤ j := by
  have h1 := h.n8; have h2 := h.nj; have h3 := h.dp0; have h4 := h.dp1
  unfold srDp
  split <;> omega
theorem srRun_inv : ∀ (l : List UInt8) (j : Nat) (r : SR) (l1 : List UInt8) (r1 : SR), SI j r → srRun l r = some (l1, r1) → SI (j + l.length) r1
  | [], j, r, l1, r1, h, e => by
    rw [srRun_nil] at e
    injection e with e
    injection e with e1 e2
    subst e2
    exact h
  | c :: l, j, r, l1, r1, h, e => by
    have hl : j + (c :: l).length = j + 1 + l.length := by rw [List.length_cons]; omega
    rw [hl]
    by_cases h46 : c.toNat = 46
    · cases hd : r.dot with
      | true => rw [srRun_dot2 h46 hd] at e; exact absurd e (by simp)
      | false => rw [srRun_dot h46 hd] at e; exact srRun_inv l _ _ _ _ h.dot e
    · by_cases hD : isD c.toNat
      · by_cases hz : c.toNat = 48 ∧ r.n = 0
        · rw [srRun_zero hz.1 hz.2] at e; exact srRun_inv l _ _ _ _ h.zero e
        · rw [srRun_digit hD hz] at e; exact srRun_inv l _ _ _ _ (h.digit hD hz) e
      · rw [srRun_stop hD h46] at e
        injection e with e
        injection e with e1 e2
        subst e2
        have h1 := h.n8; have h2 := h.nj; have h3 := h.dp0; have h4 := h.dp1
        exact ⟨h1, by omega, by omega, by omega, h.dig, h.top⟩
theorem rfE_bound : ∀ (l : List UInt8) (e : Int), 0 ≤ e → e ≤ 100008 → 0 ≤ (rfE l e).1 ∧ (rfE l e).1 ≤ 100008
  | [], e, h0, h1 => ⟨h0, h1⟩
  | c :: l, e, h0, h1 => by
    by_cases hD : isD c.toNat
    · have hD' := hD
      unfold isD at hD'
      by_cases hs : e < 10000
      · rw [rfE_small hD hs]; exact rfE_bound l _ (by omega) (by omega)
      · rw [rfE_big hD hs]; exact rfE_bound l _ h0 h1
    · rw [rfE_stop hD]; exact ⟨h0, h1⟩
theorem srOut_some {r : SR} {dp : Int} {l : List UInt8} {S : DS} (e : srOut r dp l = some S) : S = ⟨r.D, r.n, dp, r.tr⟩ := by
  cases l with
  | nil => rw [srOut] at e; injection e with e; exact e.symm
  | cons c l => simp [srOut] at e
theorem srEx_some {r : SR} {dp es : Int} (hes : es = 1 ∨ es = -1) {l : List UInt8} {S : DS} (e : srEx r dp es l = some S) : ∃ x : Int, -100008 ≤ x ∧ x ≤ 100008 ∧ S = ⟨r.D, r.n, dp + x, r.tr⟩ := by
  cases l with
  | nil => simp [srEx] at e
  | cons c l =>
    rw [srEx_cons] at e
    split at e
    · have := rfE_bound (c :: l) 0 (by omega) (by omega)
      refine ⟨(rfE (c :: l) 0).1 * es, ?_, ?_, srOut_some e⟩ <;> rcases hes with rfl | rfl <;> omega
    · exact absurd e (by simp)
theorem srTail_some {r : SR} {dp : Int} {l : List UInt8} {S : DS} (e : srTail r dp l = some S) : ∃ x : Int, -100008 ≤ x ∧ x ≤ 100008 ∧ S = ⟨r.D, r.n, dp + x, r.tr⟩ := by
  cases l with
  | nil => exact ⟨0, by omega, by omega, by rw [Int.add_zero]; exact srOut_some (l := []) e⟩
  | cons c l =>
    rw [srTail_cons] at e
    split at e
    · split at e
      · exact absurd e (by simp)
      · split at e
        · exact srEx_some (Or.inl rfl) e
        · split at e
          · exact srEx_some (Or.inr rfl) e
          · exact srEx_some (Or.inl rfl) e
    · exact absurd e (by simp)
theorem srF_some {l : List UInt8} {S : DS} (e : srF l = some S) : S.n ≤ 800 ∧ (1 ≤ S.n → S.Good) ∧ -((l.length : Int) + 100008) ≤ S.dp ∧ S.dp ≤ (l.length : Int) + 100008 := by
  unfold srF at e
  split at e
  · exact absurd e (by simp)
  · rename_i l1 r hr
    have hi := srRun_inv l 0 sr0 l1 r (SI.start 0) hr
    split at e
    · obtain ⟨x, hx0, hx1, rfl⟩ := srTail_some e
      have hb := srDp_bound hi
      simp only
      exact ⟨hi.n8, fun h => ⟨h, hi.n8, hi.dig, hi.top h⟩, by omega, by omega⟩
    · exact absurd e (by simp)
end Go.Proofs.YthplmbgdcfmkgaaGreatDoor
/- The library's decimal: set, the walk. -/
namespace Go.Proofs.YthplmbgdcfmkgaaGreatDoor
open Go.RowKit

def SetPost (g : Nat) (neg : Bool) (X : Option DS) (w : World) (e : Ending) (w' : World) : Prop :=
  Only g w w' ∧ match X with
  | none => e = .returned (.bool false)
  | some S => e = .returned (.bool true) ∧ Dec w' g S.D S.n S.dp neg S.tr

theorem set_no {g neg X w w'} (hX : X = none) (ho : Only g w w') : SetPost g neg X w (.returned (.bool false)) w' := by subst hX; exact ⟨ho, rfl⟩
theorem set_yes {g neg X w w' S} (hX : X = some S) (ho : Only g w w') (hd : Dec w' g S.D S.n S.dp neg S.tr) : SetPost g neg X w (.returned (.bool true)) w' := by subst hX; exact ⟨ho, rfl, hd⟩

set_option maxHeartbeats 8000000 in
set_option maxRecDepth 100000 in
theorem set_walk (s : ByteArray) (w : World) (g : Nat) (neg n0 t0 : Bool) (o : Nat) (hs : s.size ≤ 3000) (hg : Sign s neg o)
    (hu : ∀ j (h : j < s.size), (s[j]'h).toNat ≠ 95) (hd0 : Dec w g (fun _ => 0) 0 0 n0 t0) :
    Calls Tryz.prog 121 #[.pointer (some ⟨g, 0, none⟩), .string s] w (SetPost g neg (srF (s.data.toList.drop o)) w) := by
  obtain ⟨X, hX⟩ : ∃ X, X = srF (s.data.toList.drop o) := ⟨_, rfl⟩
  rw [← hX]
  have HX := Lib.hid hX
  have HU := Lib.hid hu
  have HG := Lib.hid hg
  have HD0 := Lib.hid hd0
  have hne : 0 < s.size := by cases hg <;> assumption
  have hem : ¬ s = ByteArray.empty := by
    intro h
    rw [h] at hne
    exact absurd hne (by decide)
  have f0 : ∀ p, w.frozen? ⟨g, p, none⟩ = false := hd0.fr
  have f1 := f0 802
  have f2 := f0 803
  have k1 : w.cell? ⟨g, 802, none⟩ = some (.bool n0) := hd0.neg
  have k2 : w.cell? ⟨g, 803, none⟩ = some (.bool t0) := hd0.tr
  clear hX hu hg hd0 f0
  go_enter Tryz.func121, Tryz.ntmps121
  go_upto_block 0 with fail
  have HD1 := (HD0.out.setNeg false).setTr false
  have HO1 : Only g w ((w.setCell ⟨g, 802, none⟩ (.bool false)).setCell ⟨g, 803, none⟩ (.bool false)) := ((Only.refl g w).setCell _ _).setCell _ _
  go_cut [5] from 23 to 33 (fun i wx => i = .int .i64 (o : Int) ∧ Hid (Dec wx g (fun _ => 0) 0 0 neg false) ∧ Hid (Only g w wx))
  case first =>
    obtain ⟨w1, hw1⟩ : ∃ w1, w1 = (w.setCell ⟨g, 802, none⟩ (.bool false)).setCell ⟨g, 803, none⟩ (.bool false) := ⟨_, rfl⟩
    have e1 : (Value.bool false) = .bool false := rfl
    have HD1 : Dec w1 g (fun _ => 0) 0 0 false false := by rw [hw1]; exact HD1
    have HO1 : Only g w w1 := by rw [hw1]; exact HO1
    rw [← hw1]
    have f3 : w1.frozen? ⟨g, 802, none⟩ = false := HD1.fr 802
    have c3 : w1.cell? ⟨g, 802, none⟩ = some (.bool false) := HD1.neg
    clear hw1 f1 f2 k1 k2 e1
    cases HG.out with
    | none h a b =>
      have a' : (((s[0]'h).toNat : Int) == 43) = false := by rw [beq_eq_false_iff_ne]; omega
      have b' : (((s[0]'h).toNat : Int) == 45) = false := by rw [beq_eq_false_iff_ne]; omega
      have H1 := Lib.hid HD1
      have H2 := Lib.hid HO1
      clear a b HD1 HO1
      go_wp2_with fail
      go_meet
      case rel => exact ⟨rfl, H1, H2⟩
    | minus h a =>
      have a' : (((s[0]'h).toNat : Int) == 43) = false := by rw [beq_eq_false_iff_ne]; omega
      have b' : (((s[0]'h).toNat : Int) == 45) = true := by rw [beq_iff_eq]; omega
      have H1 := Lib.hid (HD1.setNeg true)
      have H2 := Lib.hid (HO1.setCell 802 (.bool true))
      clear a HD1 HO1
      go_wp2_with fail
      go_meet
      case rel => exact ⟨rfl, H1, H2⟩
  case rest =>
  obtain ⟨rfl, HD2, HO2⟩ := hcut
  clear HD1 HO1 f1 f2 k1 k2 HD0
  have ho : o ≤ 1 := by cases HG.out <;> omega
  have hos : o ≤ s.size := by omega
  obtain ⟨P, hP⟩ : ∃ P, P = srRun (s.data.toList.drop o) sr0 := ⟨_, rfl⟩
  have HP := Lib.hid hP
  clear hP
  go_upto_block 1 with fail
  go_cut [5, 6, 7] from 34 to 116 (fun i dot dig wx => ∃ (j : Nat) (r : SR), o ≤ j ∧ j ≤ s.size ∧ Hid (SI j r) ∧ Hid (P = some (s.data.toList.drop j, r)) ∧ i = .int .i64 (j : Int) ∧ dot = .bool r.dot ∧ dig = .bool r.dig ∧ Hid (Dec wx g r.D r.n r.dp neg r.tr) ∧ Hid (Only g w wx))
  case first =>
    go_wp2_with fail
    go_loopg [5, 6, 7] (s.size - o) (fun k i dot dig wr => ∃ (j : Nat) (r : SR), k + j = s.size ∧ o ≤ j ∧ Hid (SI j r) ∧ Hid (srRun (s.data.toList.drop j) r = P) ∧ i = .int .i64 (j : Int) ∧ dot = .bool r.dot ∧ dig = .bool r.dig ∧ Hid (Dec wr g r.D r.n r.dp neg r.tr) ∧ Hid (Only g w wr))
    case atStart => exact ⟨o, sr0, by omega, Nat.le_refl _, SI.start o, HP.out.symm, rfl, rfl, rfl, HD2, HO2⟩
    case round =>
      clear HD2 HO2
      obtain ⟨j, r, hk, hoj, hri, hrun, rfl, rfl, rfl, hD, hO⟩ := hrel
      have hjl : j ≤ s.size := by omega
      have hn8 := hri.out.n8
      have hnj := hri.out.nj
      have hd0 := hri.out.dp0
      have hd1 := hri.out.dp1
      have fr0 : wr.frozen? ⟨g, 800, none⟩ = false := hD.out.fr 800
      have fr1 : wr.frozen? ⟨g, 801, none⟩ = false := hD.out.fr 801
      have fr3 : wr.frozen? ⟨g, 803, none⟩ = false := hD.out.fr 803
      have cn : wr.cell? ⟨g, 800, none⟩ = some (.int .i64 r.n) := hD.out.nd
      have cd : wr.cell? ⟨g, 801, none⟩ = some (.int .i64 r.dp) := hD.out.dp
      have ct : wr.cell? ⟨g, 803, none⟩ = some (.bool r.tr) := hD.out.tr
      cases gk with
      | zero =>
        have hje : j = s.size := by omega
        have HF : Hid (P = some (s.data.toList.drop j, r)) := by rw [Hid, ← hrun.out, drop_end s j (by omega)]; rfl
        have hlt : ¬ ((j : Int) < (s.size : Int)) := by omega
        have HJ := Lib.hid hje
        clear hje hk
        go_wp2_with fail
        go_meet
        case rel => exact ⟨j, r, hoj, hjl, hri, HF, rfl, rfl, rfl, hD, hO⟩
      | succ gk =>
        have hj : j < s.size := by omega
        have hlt : ((j : Int) < (s.size : Int)) := by omega
        obtain ⟨C, hC⟩ : ∃ C, C = (s[j]'hj).toNat := ⟨_, rfl⟩
        have hc255 : C < 256 := by rw [hC]; exact (s[j]'hj).toNat_lt
        have h95 : ((C : Int) == 95) = false := by rw [beq_eq_false_iff_ne, hC]; have := HU.out j hj; omega
        have HC := Lib.hid hC
        have hC' : (s[j]'hj).toNat = C := hC.symm
        have hrun' : Hid (srRun (s[j] :: s.data.toList.drop (j + 1)) r = P) := by rw [Hid, ← drop_cons s j hj]; exact hrun.out
        clear hC hrun
        by_cases c46 : C = 46
        · have t46 : ((C : Int) == 46) = true := by rw [beq_iff_eq]; omega
          cases hdot : r.dot with
          | true =>
            have HF : Hid (P = none) := hrun'.out.symm.trans (srRun_dot2 (hC'.trans c46) hdot)
            have HX' : Hid (X = none) := by rw [Hid, HX.out, srF, ← HP.out, HF.out]
            clear c46
            go_wp2_with fail
            go_ret
            exact set_no HX'.out hO.out
          | false =>
            have HN : Hid (srRun (s.data.toList.drop (j + 1)) (srDot r) = P) := (srRun_dot (hC'.trans c46) hdot).symm.trans hrun'.out
            clear c46
            go_wp2_with fail
            go_roundg gk
            case measure => omega
            case rel => exact ⟨j + 1, srDot r, by omega, by omega, hri.out.dot, HN, by go_num, rfl, rfl, hD.out.setDp _, hO.out.setCell _ _⟩
        · have t46 : ((C : Int) == 46) = false := by rw [beq_eq_false_iff_ne]; omega
          by_cases hd : isD C
          · have hd' := hd
            unfold isD at hd'
            obtain ⟨l48, l57⟩ := hd'
            by_cases hz : C = 48 ∧ r.n = 0
            · have t48 : ((C : Int) == 48) = true := by rw [beq_iff_eq]; omega
              have tnd : ((r.n : Int) == 0) = true := by rw [beq_iff_eq]; omega
              have HN : Hid (srRun (s.data.toList.drop (j + 1)) (srZero r) = P) := (srRun_zero (hC'.trans hz.1) hz.2).symm.trans hrun'.out
              clear hz c46 hd
              go_wp2_with fail
              go_roundg gk
              case measure => omega
              case rel => exact ⟨j + 1, srZero r, by omega, by omega, hri.out.zero, HN, by go_num, rfl, rfl, hD.out.setDp _, hO.out.setCell _ _⟩
            · have HN : Hid (srRun (s.data.toList.drop (j + 1)) (srDigit C r) = P) := by have := srRun_digit (c := s[j]) (l := s.data.toList.drop (j + 1)) (r := r) (by rw [hC']; exact hd) (by rw [hC']; exact hz); rw [hC'] at this; exact this.symm.trans hrun'.out
              have HI : Hid (SI (j + 1) (srDigit C r)) := hri.out.digit hd hz
              by_cases hm : r.n < 800
              · have hmi : ((r.n : Int) < 800) := by omega
                rw [srDigit_few hm] at HN HI
                have fr4 : wr.frozen? ⟨g, r.n, none⟩ = false := hD.out.fr r.n
                have c4 : wr.cell? ⟨g, r.n, none⟩ = some (.int .u8 (r.D r.n)) := hD.out.d r.n hm
                have HDD := Lib.hid ((hD.out.setD r.n hm C).setN (r.n + 1))
                by_cases h48 : C = 48
                · have t48 : ((C : Int) == 48) = true := by rw [beq_iff_eq]; omega
                  have tnd : ((r.n : Int) == 0) = false := by rw [beq_eq_false_iff_ne]; have := fun h => hz ⟨h48, h⟩; omega
                  clear hz c46 hd h48
                  go_wp2_with fail
                  go_region
                  all_goals go_wp2_with fail
                  go_roundg gk
                  case measure => omega
                  case rel => exact ⟨j + 1, _, by omega, by omega, HI, HN, by go_num, rfl, rfl, HDD.out.drew, ((hO.out.setCell _ _).setCell _ _).drew⟩
                · have t48 : ((C : Int) == 48) = false := by rw [beq_eq_false_iff_ne]; omega
                  clear hz c46 hd h48
                  go_wp2_with fail
                  go_region
                  all_goals go_wp2_with fail
                  go_roundg gk
                  case measure => omega
                  case rel => exact ⟨j + 1, _, by omega, by omega, HI, HN, by go_num, rfl, rfl, HDD.out.drew, ((hO.out.setCell _ _).setCell _ _).drew⟩
              · have hmi : ¬ ((r.n : Int) < 800) := by omega
                rw [srDigit_many hm] at HN HI
                by_cases h48 : C = 48
                · have t48 : ((C : Int) == 48) = true := by rw [beq_iff_eq]; omega
                  have t48n : ((C : Int) != 48) = false := by simp [h48]
                  have tnd : ((r.n : Int) == 0) = false := by rw [beq_eq_false_iff_ne]; have := fun h => hz ⟨h48, h⟩; omega
                  have e : (r.tr || decide (C ≠ 48)) = r.tr := by simp [h48]
                  rw [e] at HN HI
                  clear hz c46 hd h48 e
                  go_wp2_with fail
                  go_roundg gk
                  case measure => omega
                  case rel => exact ⟨j + 1, _, by omega, by omega, HI, HN, by go_num, rfl, rfl, hD, hO⟩
                · have t48 : ((C : Int) == 48) = false := by rw [beq_eq_false_iff_ne]; omega
                  have t48n : ((C : Int) != 48) = true := by rw [bne_iff_ne]; omega
                  have e : (r.tr || decide (C ≠ 48)) = true := by simp [h48]
                  rw [e] at HN HI
                  clear hz c46 hd h48 e
                  go_wp2_with fail
                  go_roundg gk
                  case measure => omega
                  case rel => exact ⟨j + 1, _, by omega, by omega, HI, HN, by go_num, rfl, rfl, hD.out.setTr _, hO.out.setCell _ _⟩
          · have HF : Hid (P = some (s.data.toList.drop j, r)) := by rw [Hid, ← hrun'.out, srRun_stop (by rw [hC']; exact hd) (by rw [hC']; exact c46), drop_cons s j hj]
            unfold isD at hd
            by_cases l48 : 48 ≤ C
            · have l57 : ¬ C ≤ 57 := fun h => hd ⟨l48, h⟩
              clear c46 hd
              go_wp2_with fail
              go_meet
              case rel => exact ⟨j, r, hoj, hjl, hri, HF, rfl, rfl, rfl, hD, hO⟩
            · clear c46 hd
              go_wp2_with fail
              go_meet
              case rel => exact ⟨j, r, hoj, hjl, hri, HF, rfl, rfl, rfl, hD, hO⟩
  case rest =>
  clear HD2 HO2
  obtain ⟨j, r, hoj, hjl, hri, hF, rfl, rfl, rfl, hD, hO⟩ := hcut
  have hn8 := hri.out.n8
  have hnj := hri.out.nj
  have hd0 := hri.out.dp0
  have hd1 := hri.out.dp1
  have HXP : Hid (X = if r.dig = true then srTail r (srDp r) (s.data.toList.drop j) else none) := by rw [Hid, HX.out, srF, ← HP.out, hF.out]
  clear hF HP HX
  cases hdig : r.dig with
  | false =>
    have HX' : Hid (X = none) := by rw [Hid, HXP.out, if_neg (by rw [hdig]; decide)]
    clear HXP
    go_wp2_with (go_at_call 131; refine (lower_calls8 _ _).mono ?_; rintro e0 w0 ⟨rfl, rfl⟩)
    go_ret
    exact set_no HX'.out hO.out
  | true =>
    have HXT : Hid (X = srTail r (srDp r) (s.data.toList.drop j)) := by rw [Hid, HXP.out, if_pos hdig]
    have hE01 := srDp_bound hri.out
    obtain ⟨E, hE⟩ : ∃ E, E = srDp r := ⟨_, rfl⟩
    rw [← hE] at hE01
    obtain ⟨hE0, hE1⟩ := hE01
    have HE := Lib.hid hE
    have HX2 : Hid (X = srTail r E (s.data.toList.drop j)) := by rw [hE]; exact HXT
    clear hE HXP HXT
    go_upto_if 120 with fail
    go_cut [6] from 119 to 127 (fun dot wx => dot = .bool r.dot ∧ Hid (Dec wx g r.D r.n E neg r.tr) ∧ Hid (Only g w wx))
    case first =>
      have fr1 : wc.frozen? ⟨g, 801, none⟩ = false := hD.out.fr 801
      have cn : wc.cell? ⟨g, 800, none⟩ = some (.int .i64 r.n) := hD.out.nd
      have cd : wc.cell? ⟨g, 801, none⟩ = some (.int .i64 r.dp) := hD.out.dp
      cases hdot : r.dot with
      | true =>
        have e : r.dp = E := by rw [HE.out, srDp, if_pos hdot]
        have HDD : Hid (Dec wc g r.D r.n E neg r.tr) := by rw [← e]; exact hD
        clear e
        go_wp2_with fail
        go_meet
        case rel => exact ⟨by rw [hdot], HDD, hO⟩
      | false =>
        have e : (r.n : Int) = E := by rw [HE.out, srDp, if_neg (by rw [hdot]; decide)]
        have HDD : Hid (Dec (wc.setCell ⟨g, 801, none⟩ (.int .i64 r.n)) g r.D r.n E neg r.tr) := by rw [← e]; exact hD.out.setDp _
        clear e
        go_wp2_with fail
        go_meet
        case rel => exact ⟨by rw [hdot], HDD, hO.out.setCell _ _⟩
    case rest =>
    clear hD hO
    obtain ⟨rfl, hD, hO⟩ := hcut
    have fr1 : wc.frozen? ⟨g, 801, none⟩ = false := hD.out.fr 801
    have cd : wc.cell? ⟨g, 801, none⟩ = some (.int .i64 E) := hD.out.dp
    by_cases hje : j = s.size
    · have HX' : Hid (X = some ⟨r.D, r.n, E, r.tr⟩) := by rw [Hid, HX2.out, drop_end s j (by omega)]; rfl
      have hlt : ¬ ((j : Int) < (s.size : Int)) := by omega
      have hnb : ((j : Int) != (s.size : Int)) = false := by simp [hje]
      have HJ := Lib.hid hje
      clear hje HX2
      go_wp2_with (go_at_call 131; refine (lower_calls8 _ _).mono ?_; rintro e0 w0 ⟨rfl, rfl⟩)
      go_ret
      exact set_yes HX'.out hO.out hD.out
    · have hj : j < s.size := by omega
      have hlt : ((j : Int) < (s.size : Int)) := by omega
      have hnb : ((j : Int) != (s.size : Int)) = true := by rw [bne_iff_ne]; omega
      obtain ⟨C, hC⟩ : ∃ C, C = (s[j]'hj).toNat := ⟨_, rfl⟩
      have hc255 : C < 256 := by rw [hC]; exact (s[j]'hj).toNat_lt
      have HC := Lib.hid hC
      have hC' : (s[j]'hj).toNat = C := hC.symm
      have HX3 : Hid (X = srTail r E (s[j] :: s.data.toList.drop (j + 1))) := by rw [Hid, HX2.out, drop_cons s j hj]
      clear hC HX2
      by_cases hl : lw C = 101
      · have hlb : (lw C == 101) = true := by rw [beq_iff_eq]; exact hl
        have HL := Lib.hid hl
        unfold lw at hlb
        clear hl
        by_cases hj1 : j + 1 = s.size
        · have HX' : Hid (X = none) := by rw [Hid, HX3.out, srTail_cons, if_pos (by rw [hC']; exact HL.out), drop_end s (j + 1) (by omega)]
          have hge : ((s.size : Int) ≤ (j : Int) + 1) := by omega
          have HJ1 := Lib.hid hj1
          clear hj1 HX3
          go_wp2_with (go_at_call 131; refine (lower_calls8 _ _).mono ?_; rintro e0 w0 ⟨rfl, rfl⟩)
          go_ret
          exact set_no HX'.out hO.out
        · have hj1 : j + 1 < s.size := by omega
          have hge : ¬ ((s.size : Int) ≤ (j : Int) + 1) := by omega
          obtain ⟨D, hDD⟩ : ∃ D, D = (s[j + 1]'hj1).toNat := ⟨_, rfl⟩
          have hDD' : (s[j + 1]'hj1).toNat = D := hDD.symm
          have HDD := Lib.hid hDD
          have HX4 : Hid (X = if D = 43 then srEx r E 1 (s.data.toList.drop (j + 2)) else if D = 45 then srEx r E (-1) (s.data.toList.drop (j + 2)) else srEx r E 1 (s.data.toList.drop (j + 1))) := by
            rw [Hid, HX3.out, srTail_cons, if_pos (by rw [hC']; exact HL.out), drop_cons s (j + 1) hj1]
            simp only [hDD']
          clear hDD HX3
          go_upto_block 4 with (go_at_call 131; refine (lower_calls8 _ _).mono ?_; rintro e0 w0 ⟨rfl, rfl⟩)
          go_cut [5, 8] from 148 to 155 (fun i es wx => ∃ (q : Nat) (es' : Int), i = .int .i64 (q : Int) ∧ es = .int .i64 es' ∧ (es' = 1 ∨ es' = -1) ∧ o ≤ q ∧ q ≤ s.size ∧ wc = wx ∧ Hid (X = srEx r E es' (s.data.toList.drop q)))
          case first =>
            by_cases d43 : D = 43
            · have t43 : ((D : Int) == 43) = true := by rw [beq_iff_eq]; omega
              have HX' : Hid (X = srEx r E 1 (s.data.toList.drop (j + 2))) := by rw [Hid, HX4.out, if_pos d43]
              clear d43 HX4
              go_wp2_with fail
              go_meet
              case rel => exact ⟨j + 2, 1, by go_num, rfl, Or.inl rfl, by omega, by omega, rfl, HX'⟩
            · have t43 : ((D : Int) == 43) = false := by rw [beq_eq_false_iff_ne]; omega
              by_cases d45 : D = 45
              · have t45 : ((D : Int) == 45) = true := by rw [beq_iff_eq]; omega
                have HX' : Hid (X = srEx r E (-1) (s.data.toList.drop (j + 2))) := by rw [Hid, HX4.out, if_neg d43, if_pos d45]
                clear d43 d45 HX4
                go_wp2_with fail
                go_meet
                case rel => exact ⟨j + 2, -1, by go_num, rfl, Or.inr rfl, by omega, by omega, rfl, HX'⟩
              · have t45 : ((D : Int) == 45) = false := by rw [beq_eq_false_iff_ne]; omega
                have HX' : Hid (X = srEx r E 1 (s.data.toList.drop (j + 1))) := by rw [Hid, HX4.out, if_neg d43, if_neg d45]
                clear d43 d45 HX4
                go_wp2_with fail
                go_meet
                case rel => exact ⟨j + 1, 1, by go_num, rfl, Or.inl rfl, by omega, by omega, rfl, HX'⟩
          case rest =>
          obtain ⟨q, es, rfl, rfl, hes, hoq, hqs, rfl, HXX⟩ := hcut
          clear HX4 hlb hlt hge hDD' HDD hC' HC HL hnb
          by_cases hqe : q = s.size
          · have HX' : Hid (X = none) := by rw [Hid, HXX.out, drop_end s q (by omega)]; rfl
            have hge : ((s.size : Int) ≤ (q : Int)) := by omega
            have HQ := Lib.hid hqe
            clear hqe HXX
            go_wp2_with (go_at_call 131; refine (lower_calls8 _ _).mono ?_; rintro e0 w0 ⟨rfl, rfl⟩)
            go_ret
            exact set_no HX'.out hO.out
          · have hq : q < s.size := by omega
            have hge : ¬ ((s.size : Int) ≤ (q : Int)) := by omega
            have hlt : ((q : Int) < (s.size : Int)) := by omega
            obtain ⟨F, hF⟩ : ∃ F, F = (s[q]'hq).toNat := ⟨_, rfl⟩
            have hF' : (s[q]'hq).toNat = F := hF.symm
            have HF := Lib.hid hF
            clear hF
            by_cases hd : isD F
            · have hd' := hd
              unfold isD at hd'
              obtain ⟨l48, l57⟩ := hd'
              have HFD : Hid (isD F) := hd
              obtain ⟨Y, hY⟩ : ∃ Y, Y = rfE (s.data.toList.drop q) 0 := ⟨_, rfl⟩
              have HX1 := Lib.hid hY
              clear hd hY
              go_wp2_with (go_at_call 131; refine (lower_calls8 _ _).mono ?_; rintro e0 w0 ⟨rfl, rfl⟩)
              go_loopg [5, 9] (s.size - q) (fun k i ev wr => ∃ (p : Nat) (e : Int), k + p = s.size ∧ q ≤ p ∧ i = .int .i64 (p : Int) ∧ ev = .int .i64 e ∧ 0 ≤ e ∧ e ≤ 100008 ∧ Hid (rfE (s.data.toList.drop p) e = Y) ∧ wc = wr)
              case atStart => exact ⟨q, 0, by omega, by omega, rfl, rfl, by omega, by omega, HX1.out.symm, rfl⟩
              case round =>
                obtain ⟨p, e, hk, hqp, rfl, rfl, he0, he1, hx, rfl⟩ := hrel
                cases gk with
                | zero =>
                  have hpe : p = s.size := by omega
                  have HXE : Hid (Y = (e, s.data.toList.drop p)) := by have := hx.out; rw [drop_end s p (by omega)] at this ⊢; exact this.symm
                  have hlt : ¬ ((p : Int) < (s.size : Int)) := by omega
                  have hnb : ((p : Int) != (s.size : Int)) = false := by simp [hpe]
                  have HJ := Lib.hid hpe
                  clear hpe hx
                  have HXo : Hid (X = srOut r (E + e * es) (s.data.toList.drop p)) := HXX.out.trans (srEx_yes hq (by rw [hF']; exact HFD.out) (HX1.out.symm.trans HXE.out))
                  obtain ⟨Z, hZ⟩ : ∃ Z, Z = e * es := ⟨_, rfl⟩
                  have hZ0 : -100010 ≤ Z := by rcases hes with rfl | rfl <;> omega
                  have hZ1 : Z ≤ 100010 := by rcases hes with rfl | rfl <;> omega
                  have hZ' : e * es = Z := hZ.symm
                  rw [hZ'] at HXo
                  clear hZ hes HXX HXE HX1
                  have HX' : Hid (X = some ⟨r.D, r.n, E + Z, r.tr⟩) := by rw [Hid, HXo.out, drop_end s p (by have := HJ.out; omega)]; rfl
                  clear HXo
                  go_wp2_with (go_at_call 131; refine (lower_calls8 _ _).mono ?_; rintro e0 w0 ⟨rfl, rfl⟩)
                  go_ret
                  exact set_yes HX'.out (hO.out.setCell _ _) (hD.out.setDp _)
                | succ gk =>
                  have hp : p < s.size := by omega
                  have hlt : ((p : Int) < (s.size : Int)) := by omega
                  obtain ⟨G, hG⟩ : ∃ G, G = (s[p]'hp).toNat := ⟨_, rfl⟩
                  have hc255 : G < 256 := by rw [hG]; exact (s[p]'hp).toNat_lt
                  have h95 : ((G : Int) == 95) = false := by rw [beq_eq_false_iff_ne, hG]; have := HU.out p hp; omega
                  have HG1 := Lib.hid hG
                  have hG' : (s[p]'hp).toNat = G := hG.symm
                  clear hG
                  by_cases hd : isD G
                  · have hd' := hd
                    unfold isD at hd'
                    obtain ⟨m48, m57⟩ := hd'
                    by_cases hs1 : e < 10000
                    · have HN : Hid (rfE (s.data.toList.drop (p + 1)) (e * 10 + G - 48) = Y) := by have := hx.out; rw [drop_cons s p hp, rfE_small (by rw [hG']; exact hd) hs1, hG'] at this; exact this
                      clear hd hx
                      go_wp2_with (go_at_call 131; refine (lower_calls8 _ _).mono ?_; rintro e0 w0 ⟨rfl, rfl⟩)
                      go_roundg gk
                      case measure => omega
                      case rel => exact ⟨p + 1, _, by omega, by omega, by go_num, rfl, by omega, by omega, HN, rfl⟩
                    · have HN : Hid (rfE (s.data.toList.drop (p + 1)) e = Y) := by have := hx.out; rw [drop_cons s p hp, rfE_big (by rw [hG']; exact hd) hs1] at this; exact this
                      clear hd hx
                      go_wp2_with (go_at_call 131; refine (lower_calls8 _ _).mono ?_; rintro e0 w0 ⟨rfl, rfl⟩)
                      go_roundg gk
                      case measure => omega
                      case rel => exact ⟨p + 1, _, by omega, by omega, by go_num, rfl, by omega, by omega, HN, rfl⟩
                  · have HXE : Hid (Y = (e, s.data.toList.drop p)) := by have := hx.out; rw [drop_cons s p hp, rfE_stop (by rw [hG']; exact hd)] at this; rw [drop_cons s p hp]; exact this.symm
                    have hnb : ((p : Int) != (s.size : Int)) = true := by rw [bne_iff_ne]; omega
                    unfold isD at hd
                    by_cases m48 : 48 ≤ G
                    · have m57 : ¬ G ≤ 57 := fun h => hd ⟨m48, h⟩
                      clear hd hx
                      have HXo : Hid (X = srOut r (E + e * es) (s.data.toList.drop p)) := HXX.out.trans (srEx_yes hq (by rw [hF']; exact HFD.out) (HX1.out.symm.trans HXE.out))
                      obtain ⟨Z, hZ⟩ : ∃ Z, Z = e * es := ⟨_, rfl⟩
                      have hZ0 : -100010 ≤ Z := by rcases hes with rfl | rfl <;> omega
                      have hZ1 : Z ≤ 100010 := by rcases hes with rfl | rfl <;> omega
                      have hZ' : e * es = Z := hZ.symm
                      rw [hZ'] at HXo
                      clear hZ hes HXX HXE HX1
                      have HX' : Hid (X = none) := by rw [Hid, HXo.out, drop_cons s p hp]; rfl
                      clear HXo
                      go_wp2_with (go_at_call 131; refine (lower_calls8 _ _).mono ?_; rintro e0 w0 ⟨rfl, rfl⟩)
                      go_ret
                      exact set_no HX'.out (hO.out.setCell _ _)
                    · clear hd hx
                      have HXo : Hid (X = srOut r (E + e * es) (s.data.toList.drop p)) := HXX.out.trans (srEx_yes hq (by rw [hF']; exact HFD.out) (HX1.out.symm.trans HXE.out))
                      obtain ⟨Z, hZ⟩ : ∃ Z, Z = e * es := ⟨_, rfl⟩
                      have hZ0 : -100010 ≤ Z := by rcases hes with rfl | rfl <;> omega
                      have hZ1 : Z ≤ 100010 := by rcases hes with rfl | rfl <;> omega
                      have hZ' : e * es = Z := hZ.symm
                      rw [hZ'] at HXo
                      clear hZ hes HXX HXE HX1
                      have HX' : Hid (X = none) := by rw [Hid, HXo.out, drop_cons s p hp]; rfl
                      clear HXo
                      go_wp2_with (go_at_call 131; refine (lower_calls8 _ _).mono ?_; rintro e0 w0 ⟨rfl, rfl⟩)
                      go_ret
                      exact set_no HX'.out (hO.out.setCell _ _)
            · have HX' : Hid (X = none) := by rw [Hid, HXX.out, drop_cons s q hq, srEx_cons, if_neg (by rw [hF']; exact hd)]
              unfold isD at hd
              by_cases l48 : 48 ≤ F
              · have l57 : ¬ F ≤ 57 := fun h => hd ⟨l48, h⟩
                clear hd HXX
                go_wp2_with (go_at_call 131; refine (lower_calls8 _ _).mono ?_; rintro e0 w0 ⟨rfl, rfl⟩)
                go_ret
                exact set_no HX'.out hO.out
              · clear hd HXX
                go_wp2_with (go_at_call 131; refine (lower_calls8 _ _).mono ?_; rintro e0 w0 ⟨rfl, rfl⟩)
                go_ret
                exact set_no HX'.out hO.out
      · have hlb : (lw C == 101) = false := by rw [beq_eq_false_iff_ne]; exact hl
        have HX' : Hid (X = none) := by rw [Hid, HX3.out, srTail_cons, if_neg (by rw [hC']; exact hl)]
        unfold lw at hlb
        clear hl HX3
        go_wp2_with (go_at_call 131; refine (lower_calls8 _ _).mono ?_; rintro e0 w0 ⟨rfl, rfl⟩)
        go_ret
        exact set_no HX'.out hO.out
end Go.Proofs.YthplmbgdcfmkgaaGreatDoor
/- The library's scaling: small parts. -/
namespace Go.Proofs.YthplmbgdcfmkgaaGreatDoor
open Go.RowKit

theorem bool2u_calls (b : Bool) (w : World) : Calls Tryz.prog 123 #[.bool b] w fun e w' => e = .returned (.int .u64 (if b then 1 else 0)) ∧ w = w' := by
  go_enter Tryz.func123, Tryz.ntmps123
  cases b <;> (go_wp2; go_ret; exact ⟨rfl, rfl⟩)
theorem bool2i_calls (b : Bool) (w : World) : Calls Tryz.prog 137 #[.bool b] w fun e w' => e = .returned (.int .i64 (if b then 1 else 0)) ∧ w = w' := by
  go_enter Tryz.func137, Tryz.ntmps137
  cases b <;> (go_wp2; go_ret; exact ⟨rfl, rfl⟩)
set_option maxRecDepth 100000 in
theorem frombits_run (x : Int) (w : World) : (callFunc 124 #[.int .u64 x]).run Tryz.prog w = .ok (.value (.float .f64 x.toNat)) w := by
  rw [run_callFunc_extern (fn := Tryz.f124) (e := Extern.MathFloatBits.float64frombits) rfl (by kernel_rfl) rfl (by kernel_rfl) (by kernel_rfl)]
  rfl
theorem log2_calls (p : Int) (h0 : -400 ≤ p) (h1 : p ≤ 400) (w : World) : Calls Tryz.prog 134 #[.int .i64 p] w fun e w' => e = .returned (.int .i64 (p * 108853 / 32768)) ∧ w = w' := by
  go_enter Tryz.func134, Tryz.ntmps134
  go_wp2
  go_ret
  exact ⟨rfl, rfl⟩
theorem unmin_calls (w : World) : Calls Tryz.prog 138 #[.int .u64 9007199254740992] w fun e w' => e = .returned (.int .u64 36028797018963966) ∧ w = w' := by
  go_enter Tryz.func138, Tryz.ntmps138
  go_wp2
  go_ret
  exact ⟨rfl, rfl⟩
def rndF (u : Int) : Int := IntKind.u64.wrap (IntKind.u64.wrap (u + 1) + bits BinOp.and IntKind.u64 (u / 4) 1) / 4
theorem round_calls (u : Int) (h0 : 0 ≤ u) (h1 : u < 18446744073709551616) (w : World) : Calls Tryz.prog 140 #[.int .u64 u] w fun e w' => e = .returned (.int .u64 (rndF u)) ∧ w = w' := by
  go_enter Tryz.func140, Tryz.ntmps140
  go_wp2
  go_ret
  exact ⟨rfl, rfl⟩
theorem rndF_bound (u : Nat) (h : u < 72057594037927936) : 0 ≤ rndF u ∧ rndF (u : Int) ≤ ((u + 2) / 4 : Nat) := by
  have e : bits .and .u64 ((u : Int) / 4) 1 = ((u / 4 % 2 : Nat) : Int) := by
    have := u64_and_nat (u / 4) 1 (by omega) (by omega)
    rw [nat_mask1] at this
    exact this
  unfold rndF
  have e2 : IntKind.u64.wrap ((u : Int) + 1) = (u : Int) + 1 := u64w _ (by omega) (by omega)
  rw [e, e2, u64w _ (by omega) (by omega)]
  omega

def sgn (neg : Bool) : Nat := if neg then 9223372036854775808 else 0
theorem sgn_eq (neg : Bool) : sgn neg = 9223372036854775808 * neg.toNat := by cases neg <;> rfl
theorem and_split (i a b c d : Nat) (hb : b < 2 ^ i) (hd : d < 2 ^ i) : (2 ^ i * a + b) &&& (2 ^ i * c + d) = 2 ^ i * (a &&& c) + (b &&& d) := by
  apply Nat.eq_of_testBit_eq
  intro j
  rw [Nat.testBit_and, Nat.testBit_two_pow_mul_add _ hb, Nat.testBit_two_pow_mul_add _ hd, Nat.testBit_two_pow_mul_add _ (Nat.and_lt_two_pow _ hd)]
  split <;> rw [Nat.testBit_and]
theorem or_split (i a b c d : Nat) (hb : b < 2 ^ i) (hd : d < 2 ^ i) : (2 ^ i * a + b) ||| (2 ^ i * c + d) = 2 ^ i * (a ||| c) + (b ||| d) := by
  apply Nat.eq_of_testBit_eq
  intro j
  rw [Nat.testBit_or, Nat.testBit_two_pow_mul_add _ hb, Nat.testBit_two_pow_mul_add _ hd, Nat.testBit_two_pow_mul_add _ (Nat.or_lt_two_pow hb hd)]
  split <;> rw [Nat.testBit_or]
theorem sgn_or (neg : Bool) (m : Nat) (hm : m < 9223372036854775808) : bits .or .u64 (sgn neg : Nat) (m : Nat) = ((sgn neg + m : Nat) : Int) := by
  have h1 : sgn neg < 18446744073709551616 := by cases neg <;> decide
  rw [u64_or_nat _ _ h1 (by omega), nat_join 63 (sgn neg) m (by cases neg <;> decide) (by omega)]
theorem sgn_or0 (neg : Bool) : bits .or .u64 (sgn neg : Nat) 0 = ((sgn neg : Nat) : Int) := sgn_or neg 0 (by decide)
theorem sgn_num (neg : Bool) : ∃ N, N ≤ 1 ∧ sgn neg = 9223372036854775808 * N := by
  cases neg
  · exact ⟨0, by decide, rfl⟩
  · exact ⟨1, by decide, rfl⟩
theorem pack_bit (neg : Bool) (m : Nat) (hm : m ≤ 9007199254740992) : bits .and .u64 ((sgn neg + m : Nat) : Int) 4503599627370496 = if m < 4503599627370496 ∨ m = 9007199254740992 then 0 else 4503599627370496 := by
  obtain ⟨N, hN, e⟩ := sgn_num neg
  rw [e]
  have h := u64_and_nat (9223372036854775808 * N + m) 4503599627370496 (by omega) (by omega)
  have hb := nat_bit 52 (9223372036854775808 * N + m)
  rw [show (2 ^ 52 : Nat) = 4503599627370496 from rfl] at hb
  rw [hb] at h
  refine (h.trans ?_)
  split <;> omega
theorem pack_inf (neg : Bool) (m : Nat) (hm : m ≤ 9007199254740992) : bits .or .u64 (bits .and .u64 ((sgn neg + m : Nat) : Int) 9223372036854775808) 9218868437227405312 = ((sgn neg + 9218868437227405312 : Nat) : Int) := by
  have key : bits .and .u64 ((sgn neg + m : Nat) : Int) 9223372036854775808 = ((sgn neg : Nat) : Int) := by
    obtain ⟨N, hN, e⟩ := sgn_num neg
    rw [e]
    have h := u64_and_nat (9223372036854775808 * N + m) 9223372036854775808 (by omega) (by omega)
    have hb := nat_bit 63 (9223372036854775808 * N + m)
    rw [show (2 ^ 63 : Nat) = 9223372036854775808 from rfl] at hb
    rw [hb] at h
    refine (h.trans ?_)
    refine congrArg (fun x : Nat => (x : Int)) ?_
    omega
  rw [key]
  exact sgn_or neg 9218868437227405312 (by decide)
theorem pack_out (neg : Bool) (m k : Nat) (h1 : 4503599627370496 ≤ m) (h2 : m < 9007199254740992) (hk : k < 2048) :
    bits .or .u64 (bits .andNot .u64 ((sgn neg + m : Nat) : Int) 4503599627370496) ((k * 4503599627370496 : Nat) : Int) = ((sgn neg + (m - 4503599627370496 + k * 4503599627370496) : Nat) : Int) := by
  have key : bits .andNot .u64 ((sgn neg + m : Nat) : Int) 4503599627370496 = ((sgn neg + (m - 4503599627370496) : Nat) : Int) := by
    obtain ⟨N, hN, e⟩ := sgn_num neg
    rw [e]
    have h := u64_andNot_nat (9223372036854775808 * N + m) 4503599627370496 (by omega) (by omega)
    have e1 : 9223372036854775808 * N + m = 2 ^ 53 * (1024 * N) + m := by omega
    have e2 : 18446744073709551615 - 4503599627370496 = 2 ^ 53 * 2047 + (2 ^ 52 - 1) := by decide
    have e3 : 1024 * N &&& 2047 = 1024 * N := by
      have : N = 0 ∨ N = 1 := by omega
      rcases this with rfl | rfl <;> decide
    have e4 : m &&& (2 ^ 52 - 1) = m - 4503599627370496 := by rw [Nat.and_two_pow_sub_one_eq_mod]; omega
    have e5 : (9223372036854775808 * N + m) &&& (18446744073709551615 - 4503599627370496) = 2 ^ 53 * (1024 * N) + (m - 4503599627370496) := by
      rw [e1, e2, and_split 53 _ _ _ _ (by omega) (by decide), e3, e4]
    refine (h.trans ?_)
    rw [e5]
    refine congrArg (fun x : Nat => (x : Int)) ?_
    omega
  rw [key]
  have h1' : sgn neg + (m - 4503599627370496) < 18446744073709551616 := by
    obtain ⟨N, hN, e⟩ := sgn_num neg
    rw [e]; omega
  rw [u64_or_nat _ _ h1' (by omega)]
  refine congrArg (fun x : Nat => (x : Int)) ?_
  obtain ⟨N, hN, e⟩ := sgn_num neg
  rw [e]
  have e5 : 9223372036854775808 * N + (m - 4503599627370496) = 2 ^ 63 * N + (m - 4503599627370496) := by omega
  have e6 : k * 4503599627370496 = 2 ^ 63 * (k / 2048) + k * 4503599627370496 := by omega
  have e7 : (m - 4503599627370496) ||| k * 4503599627370496 = k * 4503599627370496 + (m - 4503599627370496) := by
    rw [Nat.or_comm, nat_join 52 _ _ (by omega) (by omega)]
  rw [e5, e6, or_split 63 _ _ _ _ (by omega) (by omega), e7, show k / 2048 = 0 by omega, Nat.or_zero]
  omega
def packF (m : Nat) (e : Int) : Nat × Bool :=
  if m < 4503599627370496 ∨ m = 9007199254740992 then (m, false) else if 972 ≤ e then (9218868437227405312, true)
  else (m - 4503599627370496 + (1075 + e).toNat * 4503599627370496, false)

def errv (b : Bool) : Value := if b then .iface 160 (.int .i64 1) else .nilIface
theorem pack_ret {neg : Bool} {m x : Nat} {e : Int} {b : Bool} {v : Value} (h : packF m e = (x, b)) {y : Nat} (hy : y = sgn neg + x) (hv : v = errv b) {w : World} :
    Ending.returned (.tuple #[.float .f64 y, v]) = .returned (.tuple #[.float .f64 (sgn neg + (packF m e).1), errv (packF m e).2]) ∧ w = w := by
  subst hy hv; rw [h]; exact ⟨rfl, rfl⟩

set_option maxRecDepth 100000 in
theorem pack_calls (neg : Bool) (m : Nat) (e : Int) (hm : m ≤ 9007199254740992) (h0 : -1074 ≤ e) (h1 : e ≤ 5000) (w : World) :
    Calls Tryz.prog 143 #[.int .u64 ((sgn neg + m : Nat) : Int), .int .i64 e] w fun x w' => x = .returned (.tuple #[.float .f64 (sgn neg + (packF m e).1), errv (packF m e).2]) ∧ w = w' := by
  obtain ⟨a, ha⟩ : ∃ a, a = ((sgn neg + m : Nat) : Int) := ⟨_, rfl⟩
  have hf := frombits_run
  by_cases hc : m < 4503599627370496 ∨ m = 9007199254740992
  · have hb : (bits .and .u64 a 4503599627370496 == 0) = true := by rw [ha, pack_bit neg m hm, if_pos hc]; rfl
    rw [← ha]
    have HA := Lib.hid ha
    clear ha
    go_enter Tryz.func143, Tryz.ntmps143
    go_wp2
    go_ret2
    exact pack_ret (neg := neg) (m := m) (e := e) (x := m) (b := false) (by rw [packF, if_pos hc]) (by have := HA.out; omega) rfl
  · have hb : (bits .and .u64 a 4503599627370496 == 0) = false := by rw [ha, pack_bit neg m hm, if_neg hc]; rfl
    rw [← ha]
    by_cases he : 972 ≤ e
    · have hi : bits .or .u64 (bits .and .u64 a 9223372036854775808) 9218868437227405312 = ((sgn neg + 9218868437227405312 : Nat) : Int) := by rw [ha]; exact pack_inf neg m hm
      have HA := Lib.hid ha
      clear ha
      go_enter Tryz.func143, Tryz.ntmps143
      go_wp2
      go_ret2
      exact pack_ret (neg := neg) (m := m) (e := e) (by rw [packF, if_neg hc, if_pos he]) rfl rfl
    · have HA := Lib.hid ha
      clear ha
      go_enter Tryz.func143, Tryz.ntmps143
      go_wp2
      go_ret2
      refine pack_ret (neg := neg) (m := m) (e := e) (x := m - 4503599627370496 + (1075 + e).toNat * 4503599627370496) (b := false) (by rw [packF, if_neg hc, if_neg (by omega)]) ?_ rfl
      have hk := pack_out neg m (1075 + e).toNat (by omega) (by omega) (by omega)
      rw [HA.out, show ((1075 + e) * 4503599627370496 : Int) = (((1075 + e).toNat * 4503599627370496 : Nat) : Int) by omega, hk]
      omega
end Go.Proofs.YthplmbgdcfmkgaaGreatDoor
/- Doubles as a sign and a rung. -/
namespace Go.Proofs.YthplmbgdcfmkgaaGreatDoor
open Go.RowKit

theorem dbl_sw : Ieee.double.signWeight = 9223372036854775808 := by decide
theorem dbl_bin : Ieee.double.binade = 4503599627370496 := by decide
theorem dbl_inf : Ieee.double.infRung = 9218868437227405312 := by decide
theorem dbl_lp : Ieee.double.leastPlace = -1074 := by decide
theorem dbl_fb : Ieee.double.fractionBits = 52 := rfl

def mg (r : Nat) : Nat := if r < 4503599627370496 then r else 4503599627370496 + r % 4503599627370496
def pl (r : Nat) : Int := if r < 4503599627370496 then -1074 else -1074 + ((r / 4503599627370496 - 1 : Nat) : Int)
def near (mag : Nat) (place : Int) : Nat :=
  if mag = 0 then 0 else
  min ((max (place + mag.log2 - 52) (-1074) + 1074).toNat * 4503599627370496 + Ieee.Toward.even.cut false (mag <<< (place - max (place + mag.log2 - 52) (-1074)).toNat) (max (place + mag.log2 - 52) (-1074) - place).toNat) 9218868437227405312

theorem word_sgn (neg : Bool) (r : Nat) : Ieee.double.word neg r = sgn neg + r := by
  unfold Ieee.Format.word
  rw [dbl_sw]
  cases neg <;> simp [sgn]
theorem nearest_sgn (neg : Bool) (mag : Nat) (place : Int) : Ieee.double.nearest neg mag place = sgn neg + near mag place := by
  unfold Ieee.Format.nearest near
  rw [dbl_lp, dbl_fb, dbl_bin, dbl_inf, word_sgn, word_sgn]
  split
  · rfl
  · simp only [Int.sub_neg]
    rfl
theorem read_sgn (neg : Bool) (r : Nat) (h : r < 9218868437227405312) : Ieee.double.read (sgn neg + r) = .number neg (mg r) (pl r) := by
  obtain ⟨N, hN, e⟩ := sgn_num neg
  have h1 : (sgn neg + r) / 9223372036854775808 % 2 = N := by rw [e]; omega
  have h2 : (sgn neg + r) % 9223372036854775808 = r := by rw [e]; omega
  have h3 : (N == 1) = neg := by
    cases neg
    · have : N = 0 := by simp [sgn] at e; omega
      subst this; rfl
    · have : N = 1 := by simp [sgn] at e; omega
      subst this; rfl
  unfold Ieee.Format.read
  rw [dbl_sw, dbl_bin, dbl_inf, dbl_lp]
  simp only [h1, h2, h3]
  unfold mg pl
  by_cases hb : r < 4503599627370496
  · rw [if_pos hb, if_pos hb, if_pos hb]
  · rw [if_neg hb, if_neg hb, if_neg hb, if_pos h]
theorem near_le (mag : Nat) (place : Int) : near mag place ≤ 9218868437227405312 := by
  unfold near
  split
  · omega
  · exact Nat.min_le_right _ _
def mulR (a b : Nat) : Nat := near (mg a * mg b) (pl a + pl b)
theorem mul_sgn (s t : Bool) (a b : Nat) (ha : a < 9218868437227405312) (hb : b < 9218868437227405312) :
    floatBits .mul .f64 (sgn s + a) (sgn t + b) = some (sgn (s ^^ t) + mulR a b) := by
  show (((Ieee.double.read (sgn s + a)).product (Ieee.double.read (sgn t + b))).map Ieee.double.write) = _
  rw [read_sgn s a ha, read_sgn t b hb]
  show some (Ieee.double.nearest (s ^^ t) (mg a * mg b) (pl a + pl b)) = _
  rw [nearest_sgn]
  rfl
def divM (a b : Nat) : Nat := 54 + (mg b).log2 - (mg a).log2
def divR (a b : Nat) : Nat := near (2 * (mg a <<< divM a b / mg b) + (mg a <<< divM a b % mg b != 0).toNat) (pl a - pl b - divM a b - 1)
theorem div_sgn (s t : Bool) (a b : Nat) (ha : a < 9218868437227405312) (hb : b < 9218868437227405312) (hn : mg b ≠ 0) :
    floatBits .quo .f64 (sgn s + a) (sgn t + b) = some (sgn (s ^^ t) + divR a b) := by
  show (((Ieee.double.read (sgn s + a)).quotient 54 (Ieee.double.read (sgn t + b))).map Ieee.double.write) = _
  rw [read_sgn s a ha, read_sgn t b hb]
  show Option.map Ieee.double.write (if mg b = 0 then _ else _) = _
  rw [if_neg hn]
  show some (Ieee.double.nearest (s ^^ t) _ _) = _
  rw [nearest_sgn]
  rfl
theorem ofInt_sgn (m : Nat) : floatOfInt .f64 (m : Int) = sgn false + near m 0 := by
  show Ieee.double.nearest (decide ((m : Int) < 0)) (m : Int).natAbs 0 = _
  rw [show decide ((m : Int) < 0) = false by simp, nearest_sgn]
  rfl
theorem neg_sgn (r : Nat) (h : r < 9223372036854775808) : Op.negFloat .f64 (sgn false + r) = sgn true + r := by
  show (sgn false + r) ^^^ 9223372036854775808 = _
  have : sgn false + r = r := by simp [sgn]
  rw [this]
  show r ^^^ 9223372036854775808 = 9223372036854775808 + r
  apply Nat.eq_of_testBit_eq
  intro j
  have e : 9223372036854775808 + r = 2 ^ 63 * 1 + r := by omega
  rw [Nat.testBit_xor, e, Nat.testBit_two_pow_mul_add _ (by omega), show (9223372036854775808 : Nat) = 2 ^ 63 from rfl, Nat.testBit_two_pow]
  by_cases hj : j < 63
  · have e2 : decide (63 = j) = false := decide_eq_false (by omega)
    rw [if_pos hj, e2, Bool.xor_false]
  · rw [if_neg hj]
    have hr : r.testBit j = false := Nat.testBit_lt_two_pow (Nat.lt_of_lt_of_le (show r < 2 ^ 63 from h) (Nat.pow_le_pow_right (by decide) (by omega)))
    rw [hr]
    by_cases e : j = 63
    · subst e; rfl
    · have e2 : decide (63 = j) = false := decide_eq_false (by omega)
      have : (1 : Nat).testBit (j - 63) = false := Nat.testBit_lt_two_pow (Nat.lt_of_lt_of_le (show 1 < 2 ^ 1 by decide) (Nat.pow_le_pow_right (by decide) (by omega)))
      rw [this, e2]; rfl

theorem log_lt (m : Nat) : m < 2 ^ (m.log2 + 1) := by
  by_cases h : m = 0
  · subst h; exact Nat.two_pow_pos _
  · exact Nat.lt_log2_self
theorem log_le_of_lt {m k : Nat} (h : m < 2 ^ (k + 1)) : m.log2 ≤ k := by
  by_cases hm : m = 0
  · subst hm; simp
  · have := (Nat.log2_lt hm).2 h
    omega
theorem cut_le (n drop k : Nat) (h : n < 2 ^ (drop + k)) (hk : 1 ≤ k) : Ieee.Toward.even.cut false n drop ≤ 2 ^ k := by
  have hm : ∀ b : Bool, b.toNat ≤ 1 := Bool.toNat_le
  have key : n / 1 <<< min drop (n.log2 + 2) < 2 ^ k := by
    rw [Nat.one_shiftLeft]
    by_cases hd : drop ≤ n.log2 + 2
    · rw [Nat.min_eq_left hd]
      apply Nat.div_lt_of_lt_mul
      rw [← Nat.pow_add]
      exact h
    · rw [Nat.min_eq_right (by omega)]
      have h2 : n < 2 ^ (n.log2 + 2) := Nat.lt_of_lt_of_le (log_lt n) (Nat.pow_le_pow_right (by decide) (by omega))
      rw [Nat.div_eq_of_lt h2]
      exact Nat.two_pow_pos _
  unfold Ieee.Toward.cut
  have := hm (decide (1 <<< min drop (n.log2 + 2) < 2 * (n % 1 <<< min drop (n.log2 + 2))) || 1 <<< min drop (n.log2 + 2) == 2 * (n % 1 <<< min drop (n.log2 + 2)) && n / 1 <<< min drop (n.log2 + 2) % 2 == 1)
  simp only
  omega
theorem near_bound (mag : Nat) (place X : Int) (h : place + mag.log2 ≤ X) (h0 : -1022 ≤ X) (h1 : X ≤ 1000) : near mag place ≤ (X + 1024).toNat * 4503599627370496 := by
  unfold near
  split
  · omega
  · obtain ⟨last, hl⟩ : ∃ last, last = max (place + mag.log2 - 52) (-1074) := ⟨_, rfl⟩
    rw [← hl]
    have hc : Ieee.Toward.even.cut false (mag <<< (place - last).toNat) (last - place).toNat ≤ 2 ^ 53 := by
      apply cut_le _ _ _ _ (by decide)
      rw [Nat.shiftLeft_eq]
      have h2 := log_lt mag
      have h3 : mag * 2 ^ (place - last).toNat < 2 ^ (mag.log2 + 1) * 2 ^ (place - last).toNat := Nat.mul_lt_mul_of_pos_right h2 (Nat.two_pow_pos _)
      rw [← Nat.pow_add] at h3
      exact Nat.lt_of_lt_of_le h3 (Nat.pow_le_pow_right (by decide) (by omega))
    have h4 : (last + 1074).toNat + 2 ≤ (X + 1024).toNat := by omega
    have h5 := Nat.mul_le_mul_right 4503599627370496 h4
    refine Nat.le_trans (Nat.min_le_left _ _) ?_
    omega
/-- How great the exponent of a rung is at most. -/
theorem mg_log {r : Nat} (h : r < 9218868437227405312) : pl r + (mg r).log2 ≤ ((r / 4503599627370496 : Nat) : Int) - 1023 := by
  unfold pl mg
  by_cases hb : r < 4503599627370496
  · rw [if_pos hb, if_pos hb]
    have := log_le_of_lt (m := r) (k := 51) (by omega)
    omega
  · rw [if_neg hb, if_neg hb]
    have := log_le_of_lt (m := 4503599627370496 + r % 4503599627370496) (k := 52) (by omega)
    omega
theorem mg_log_low {r : Nat} (h0 : 4607182418800017408 ≤ r) (h : r < 9218868437227405312) : 0 ≤ pl r + (mg r).log2 ∧ mg r ≠ 0 := by
  unfold pl mg
  rw [if_neg (by omega), if_neg (by omega)]
  have h1 : 2 ^ 52 ≤ 4503599627370496 + r % 4503599627370496 := by omega
  have := (Nat.le_log2 (show 4503599627370496 + r % 4503599627370496 ≠ 0 by omega)).2 h1
  exact ⟨by omega, by omega⟩
theorem ofInt_bound (m : Nat) (h : m < 9007199254740992) : near m 0 ≤ 1076 * 4503599627370496 := by
  have := log_le_of_lt (m := m) (k := 52) (by omega)
  exact near_bound m 0 52 (by omega) (by omega) (by omega)
theorem mul_log (a b : Nat) : (a * b).log2 ≤ a.log2 + b.log2 + 1 := by
  apply log_le_of_lt
  have h1 := log_lt a
  have h2 := log_lt b
  have := Nat.mul_lt_mul'' h1 h2
  rw [← Nat.pow_add] at this
  exact Nat.lt_of_lt_of_le this (Nat.pow_le_pow_right (by decide) (by omega))
theorem mulR_bound (a b : Nat) (A B : Nat) (ha : a ≤ A * 4503599627370496 + 4503599627370495) (hb : b ≤ B * 4503599627370496 + 4503599627370495) (hA : 1023 ≤ A) (hA1 : A ≤ 1500) (hB : 1023 ≤ B) (hB1 : B ≤ 1500) (hAB : A + B ≤ 3040) :
    mulR a b ≤ (A + B - 1021) * 4503599627370496 := by
  have h1 := mg_log (r := a) (by omega)
  have h2 := mg_log (r := b) (by omega)
  have h3 := mul_log (mg a) (mg b)
  have := near_bound (mg a * mg b) (pl a + pl b) (A + B - 2045) (by omega) (by omega) (by omega)
  have e : ((A : Int) + B - 2045 + 1024).toNat = A + B - 1021 := by omega
  rw [e] at this
  exact this
theorem divR_bound (a b : Nat) (A : Nat) (ha : a ≤ A * 4503599627370496 + 4503599627370495) (hA : 1023 ≤ A) (hA1 : A ≤ 1500) (hb0 : 4607182418800017408 ≤ b) (hb : b < 9218868437227405312) :
    divR a b ≤ (A + 1) * 4503599627370496 := by
  have h1 := mg_log (r := a) (by omega)
  obtain ⟨h2, h3⟩ := mg_log_low hb0 hb
  unfold divR
  obtain ⟨mo, hmo⟩ : ∃ mo, mo = divM a b := ⟨_, rfl⟩
  rw [← hmo]
  have hmo1 : (mg b).log2 ≤ mo + (mg a).log2 := by rw [hmo]; unfold divM; omega
  have hq : mg a <<< mo / mg b < 2 ^ ((mg a).log2 + 1 + mo - (mg b).log2) := by
    apply Nat.div_lt_of_lt_mul
    rw [Nat.shiftLeft_eq]
    have l1 := log_lt (mg a)
    have l2 : mg a * 2 ^ mo < 2 ^ ((mg a).log2 + 1) * 2 ^ mo := Nat.mul_lt_mul_of_pos_right l1 (Nat.two_pow_pos _)
    have l3 : 2 ^ (mg b).log2 ≤ mg b := Nat.log2_self_le h3
    have l4 := Nat.mul_le_mul_right (2 ^ ((mg a).log2 + 1 + mo - (mg b).log2)) l3
    rw [← Nat.pow_add] at l2 l4
    rw [show (mg b).log2 + ((mg a).log2 + 1 + mo - (mg b).log2) = (mg a).log2 + 1 + mo by omega] at l4
    exact Nat.lt_of_lt_of_le l2 l4
  have hm : 2 * (mg a <<< mo / mg b) + (mg a <<< mo % mg b != 0).toNat < 2 ^ ((mg a).log2 + 1 + mo - (mg b).log2 + 1) := by
    have := Bool.toNat_le (mg a <<< mo % mg b != 0)
    rw [Nat.pow_succ]
    omega
  have hlog := log_le_of_lt hm
  have := near_bound _ (pl a - pl b - mo - 1) (A - 1023) (Int.le_trans (Int.add_le_add_left (Int.ofNat_le.2 hlog) _) (by omega)) (by omega) (by omega)
  have e : ((A : Int) - 1023 + 1024).toNat = A + 1 := by omega
  rw [e] at this
  exact this
end Go.Proofs.YthplmbgdcfmkgaaGreatDoor
