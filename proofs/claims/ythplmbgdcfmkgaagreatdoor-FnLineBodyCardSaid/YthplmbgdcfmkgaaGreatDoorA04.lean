/- readFloat. -/
import Derived.Test.YthplmbgdcfmkgaaGreatDoorA02
import Derived.Deep.CutBlock
import Derived.Deep.CutRange
set_option linter.unusedVariables false
set_option linter.unusedSimpArgs false
/- The library's readFloat. -/
namespace Go.Proofs.YthplmbgdcfmkgaaGreatDoor
open Go.RowKit

structure RF where
  m : Int
  tr : Bool
  dot : Bool
  dig : Bool
  nd : Int
  nm : Int
  dp : Int
def rf0 : RF := ⟨0, false, false, false, 0, 0, 0⟩
def rfDot (r : RF) : RF := ⟨r.m, r.tr, true, r.dig, r.nd, r.nm, r.nd⟩
def rfZero (r : RF) : RF := ⟨r.m, r.tr, r.dot, true, r.nd, r.nm, r.dp - 1⟩
def rfDigit (c : Nat) (r : RF) : RF :=
  if r.nm < 19 then ⟨IntKind.u64.wrap (IntKind.u64.wrap (r.m * 10) + ((c : Int) - 48)), r.tr, r.dot, true, r.nd + 1, r.nm + 1, r.dp⟩
  else ⟨r.m, r.tr || decide (c ≠ 48), r.dot, true, r.nd + 1, r.nm, r.dp⟩
def isD (c : Nat) : Prop := 48 ≤ c ∧ c ≤ 57
instance (c : Nat) : Decidable (isD c) := by unfold isD; infer_instance
def rfStep (c : Nat) (r : RF) : Option RF :=
  if c = 46 then (if r.dot = true then none else some (rfDot r))
  else if isD c then (if c = 48 ∧ r.nd = 0 then some (rfZero r) else some (rfDigit c r)) else none
def rfRun : List UInt8 → RF → List UInt8 × RF
  | [], r => ([], r)
  | c :: l, r => match rfStep c.toNat r with
    | none => (c :: l, r)
    | some r' => rfRun l r'
def rfE : List UInt8 → Int → Int × List UInt8
  | [], e => (e, [])
  | c :: l, e => if isD c.toNat then rfE l (if e < 10000 then e * 10 + c.toNat - 48 else e) else (e, c :: l)
def lw (c : Nat) : Int := bits .or .u8 (c : Int) 32
/-- What readFloat tells of a text without a sign: mantissa, exponent, whether digits were left away, how many bytes are taken, whether it is a number. -/
structure RR where
  m : Int
  exp : Int
  tr : Bool
  n : Nat
  ok : Bool
def rfFin (m nm dp : Int) (tr : Bool) (n : Nat) : RR := ⟨m, if m ≠ 0 then dp - nm else 0, tr, n, true⟩
def rfEx (len : Nat) (r : RF) (dp es : Int) (l : List UInt8) : RR :=
  match l with
  | [] => ⟨r.m, 0, r.tr, len, false⟩
  | c :: l' => if isD c.toNat then rfFin r.m r.nm (dp + (rfE (c :: l') 0).1 * es) r.tr (len - (rfE (c :: l') 0).2.length) else ⟨r.m, 0, r.tr, len - (l'.length + 1), false⟩
def rfF (l : List UInt8) : RR :=
  let p := rfRun l rf0
  let len := l.length
  if p.2.dig = true then
    let dp := if p.2.dot = true then p.2.dp else p.2.nd
    match p.1 with
    | [] => rfFin p.2.m p.2.nm dp p.2.tr len
    | c :: l1 => if lw c.toNat = 101 then
        (match l1 with
          | [] => ⟨p.2.m, 0, p.2.tr, len, false⟩
          | d :: l2 => if d.toNat = 43 then rfEx len p.2 dp 1 l2 else if d.toNat = 45 then rfEx len p.2 dp (-1) l2 else rfEx len p.2 dp 1 (d :: l2))
      else rfFin p.2.m p.2.nm dp p.2.tr (len - (l1.length + 1))
  else ⟨p.2.m, 0, p.2.tr, len - p.1.length, false⟩

theorem lower_calls8 (c : Int) (w : World) :
    Calls Tryz.prog 131 #[.int .u8 c] w fun e w' => e = .returned (.int .u8 (bits .or .u8 c 32)) ∧ w = w' := by
  go_enter Tryz.func131, Tryz.ntmps131
  go_wp2
  go_ret
  exact ⟨rfl, rfl⟩

theorem rfRun_nil (r) : rfRun [] r = ([], r) := rfl
theorem rfRun_stop {c l r} (h : rfStep c.toNat r = none) : rfRun (c :: l) r = (c :: l, r) := by rw [rfRun, h]
theorem rfRun_go {c l r r'} (h : rfStep c.toNat r = some r') : rfRun (c :: l) r = rfRun l r' := by rw [rfRun, h]
theorem step_dot {c : Nat} {r : RF} (h : c = 46) (hd : r.dot = false) : rfStep c r = some (rfDot r) := by rw [rfStep, if_pos h, if_neg (by rw [hd]; decide)]
theorem step_dot2 {c : Nat} {r : RF} (h : c = 46) (hd : r.dot = true) : rfStep c r = none := by rw [rfStep, if_pos h, if_pos hd]
theorem step_zero {c : Nat} {r : RF} (h : c = 48) (hd : r.nd = 0) : rfStep c r = some (rfZero r) := by rw [rfStep, if_neg (by omega), if_pos (by unfold isD; omega), if_pos ⟨h, hd⟩]
theorem step_digit {c : Nat} {r : RF} (h : isD c) (hd : ¬ (c = 48 ∧ r.nd = 0)) : rfStep c r = some (rfDigit c r) := by unfold isD at h; rw [rfStep, if_neg (by omega), if_pos (by unfold isD; omega), if_neg hd]
theorem step_other {c : Nat} {r : RF} (h : ¬ isD c) (hd : c ≠ 46) : rfStep c r = none := by rw [rfStep, if_neg hd, if_neg h]
theorem rfDigit_few {c : Nat} {r : RF} (h : r.nm < 19) : rfDigit c r = ⟨IntKind.u64.wrap (IntKind.u64.wrap (r.m * 10) + ((c : Int) - 48)), r.tr, r.dot, true, r.nd + 1, r.nm + 1, r.dp⟩ := by rw [rfDigit, if_pos h]
theorem rfDigit_many {c : Nat} {r : RF} (h : ¬ r.nm < 19) : rfDigit c r = ⟨r.m, r.tr || decide (c ≠ 48), r.dot, true, r.nd + 1, r.nm, r.dp⟩ := by rw [rfDigit, if_neg h]

def RfPost (neg : Bool) (o : Nat) (r : RR) (w : World) (e : Ending) (w' : World) : Prop :=
  e = .returned (.tuple #[.int .u64 r.m, .int .i64 r.exp, .bool neg, .bool r.tr, .bool false, .int .i64 ((o + r.n : Nat) : Int), .bool r.ok]) ∧ Drew w w'

/-- What readFloat's first loop keeps. -/
structure RI (s : ByteArray) (P : List UInt8 × RF) (j : Nat) (r : RF) : Prop where
  run : rfRun (s.data.toList.drop j) r = P
  nd0 : 0 ≤ r.nd
  nd1 : r.nd ≤ j
  nm0 : 0 ≤ r.nm
  nm1 : r.nm ≤ 19
  dp0 : -(j : Int) ≤ r.dp
  dp1 : r.dp ≤ j
theorem RI.next {s : ByteArray} {P : List UInt8 × RF} {j : Nat} {r r' : RF} (h : RI s P j r) (hj : j < s.size) (e : rfStep (s[j]'hj).toNat r = some r') : RI s P (j + 1) r' := by
  have hr := h.run
  rw [drop_cons s j hj, rfRun_go e] at hr
  have h1 := h.nd0; have h2 := h.nd1; have h3 := h.nm0; have h4 := h.nm1; have h5 := h.dp0; have h6 := h.dp1
  unfold rfStep at e
  split at e
  · split at e
    · exact absurd e (by simp)
    · injection e with e; subst e; exact ⟨hr, h1, by simp only [rfDot]; omega, h3, h4, by simp only [rfDot]; omega, by simp only [rfDot]; omega⟩
  · split at e
    · split at e
      · injection e with e; subst e; exact ⟨hr, h1, by simp only [rfZero]; omega, h3, h4, by simp only [rfZero]; omega, by simp only [rfZero]; omega⟩
      · injection e with e
        subst e
        unfold rfDigit at hr ⊢
        split
        · rename_i hl; rw [if_pos hl] at hr; exact ⟨hr, by simp only; omega, by simp only; omega, by simp only; omega, by simp only; omega, by simp only; omega, by simp only; omega⟩
        · rename_i hl; rw [if_neg hl] at hr; exact ⟨hr, by simp only; omega, by simp only; omega, h3, h4, by simp only; omega, by simp only; omega⟩
    · exact absurd e (by simp)
theorem RI.stop {s : ByteArray} {P : List UInt8 × RF} {j : Nat} {r : RF} (h : RI s P j r) (hj : j < s.size) (e : rfStep (s[j]'hj).toNat r = none) : P = (s.data.toList.drop j, r) := by
  rw [← h.run, drop_cons s j hj, rfRun_stop e]
theorem RI.fin {s : ByteArray} {P : List UInt8 × RF} {j : Nat} {r : RF} (h : RI s P j r) (hj : s.size ≤ j) : P = (s.data.toList.drop j, r) := by
  rw [← h.run, drop_end s j hj, rfRun_nil]
theorem len_drop (s : ByteArray) (j : Nat) : (s.data.toList.drop j).length = s.size - j := by simp
def rfDp (r : RF) : Int := if r.dot = true then r.dp else r.nd
theorem rf_nodig {s : ByteArray} {o j : Nat} {r : RF} (hr : rfRun (s.data.toList.drop o) rf0 = (s.data.toList.drop j, r)) (hoj : o ≤ j) (hj : j ≤ s.size) (hd : r.dig = false) :
    rfF (s.data.toList.drop o) = ⟨r.m, 0, r.tr, j - o, false⟩ := by
  unfold rfF
  simp only [hr, hd, len_drop]
  rw [if_neg (by decide)]
  congr 1
  omega
theorem rf_end {s : ByteArray} {o j : Nat} {r : RF} (hr : rfRun (s.data.toList.drop o) rf0 = (s.data.toList.drop j, r)) (hoj : o ≤ j) (hj : j = s.size) (hd : r.dig = true) :
    rfF (s.data.toList.drop o) = rfFin r.m r.nm (rfDp r) r.tr (j - o) := by
  unfold rfF
  simp only [hr, hd, len_drop, drop_end s j (by omega)]
  rw [if_pos trivial, hj]
  rfl
theorem rf_noexp {s : ByteArray} {o j : Nat} {r : RF} (hr : rfRun (s.data.toList.drop o) rf0 = (s.data.toList.drop j, r)) (hoj : o ≤ j) (hj : j < s.size) (hd : r.dig = true) (hl : lw (s[j]'hj).toNat ≠ 101) :
    rfF (s.data.toList.drop o) = rfFin r.m r.nm (rfDp r) r.tr (j - o) := by
  unfold rfF
  simp only [hr, hd, len_drop, drop_cons s j hj]
  rw [if_pos trivial, if_neg hl]
  unfold rfDp
  congr 1
  omega
theorem rf_e_end {s : ByteArray} {o j : Nat} {r : RF} (hr : rfRun (s.data.toList.drop o) rf0 = (s.data.toList.drop j, r)) (hoj : o ≤ j) (hj : j < s.size) (hd : r.dig = true) (hl : lw (s[j]'hj).toNat = 101) (hj1 : j + 1 = s.size) :
    rfF (s.data.toList.drop o) = ⟨r.m, 0, r.tr, j + 1 - o, false⟩ := by
  unfold rfF
  simp only [hr, hd, len_drop, drop_cons s j hj, drop_end s (j + 1) (by omega)]
  rw [if_pos trivial, if_pos hl, hj1]
theorem rf_e_plus {s : ByteArray} {o j : Nat} {r : RF} (hr : rfRun (s.data.toList.drop o) rf0 = (s.data.toList.drop j, r)) (hoj : o ≤ j) (hj : j + 1 < s.size) (hd : r.dig = true) (hl : lw (s[j]'(by omega)).toNat = 101) (h : (s[j + 1]'hj).toNat = 43) :
    rfF (s.data.toList.drop o) = rfEx (s.size - o) r (rfDp r) 1 (s.data.toList.drop (j + 2)) := by
  unfold rfF
  simp only [hr, hd, len_drop, drop_cons s j (by omega), drop_cons s (j + 1) hj]
  rw [if_pos trivial, if_pos hl, if_pos h]
  rfl
theorem rf_e_minus {s : ByteArray} {o j : Nat} {r : RF} (hr : rfRun (s.data.toList.drop o) rf0 = (s.data.toList.drop j, r)) (hoj : o ≤ j) (hj : j + 1 < s.size) (hd : r.dig = true) (hl : lw (s[j]'(by omega)).toNat = 101) (h : (s[j + 1]'hj).toNat = 45) :
    rfF (s.data.toList.drop o) = rfEx (s.size - o) r (rfDp r) (-1) (s.data.toList.drop (j + 2)) := by
  unfold rfF
  simp only [hr, hd, len_drop, drop_cons s j (by omega), drop_cons s (j + 1) hj]
  rw [if_pos trivial, if_pos hl, if_neg (by omega), if_pos h]
  rfl
theorem rf_e_none {s : ByteArray} {o j : Nat} {r : RF} (hr : rfRun (s.data.toList.drop o) rf0 = (s.data.toList.drop j, r)) (hoj : o ≤ j) (hj : j + 1 < s.size) (hd : r.dig = true) (hl : lw (s[j]'(by omega)).toNat = 101) (h : (s[j + 1]'hj).toNat ≠ 43) (h2 : (s[j + 1]'hj).toNat ≠ 45) :
    rfF (s.data.toList.drop o) = rfEx (s.size - o) r (rfDp r) 1 (s.data.toList.drop (j + 1)) := by
  unfold rfF
  simp only [hr, hd, len_drop, drop_cons s j (by omega), drop_cons s (j + 1) hj]
  rw [if_pos trivial, if_pos hl, if_neg h, if_neg h2]
  rfl
theorem rfEx_end {s : ByteArray} {o q : Nat} {r : RF} {dp es : Int} (hq : q = s.size) : rfEx (s.size - o) r dp es (s.data.toList.drop q) = ⟨r.m, 0, r.tr, q - o, false⟩ := by
  rw [drop_end s q (by omega), hq]; rfl
theorem rfEx_no {s : ByteArray} {o q : Nat} {r : RF} {dp es : Int} (hq : q < s.size) (hoq : o ≤ q) (h : ¬ isD (s[q]'hq).toNat) : rfEx (s.size - o) r dp es (s.data.toList.drop q) = ⟨r.m, 0, r.tr, q - o, false⟩ := by
  rw [drop_cons s q hq]
  unfold rfEx
  simp only [len_drop]
  rw [if_neg h]
  congr 1
  omega
theorem rfEx_yes {s : ByteArray} {o q q' : Nat} {r : RF} {dp es e : Int} (hq : q < s.size) (hoq : o ≤ q) (hqq : q' ≤ s.size) (hoq' : o ≤ q') (h : isD (s[q]'hq).toNat) (he : rfE (s.data.toList.drop q) 0 = (e, s.data.toList.drop q')) :
    rfEx (s.size - o) r dp es (s.data.toList.drop q) = rfFin r.m r.nm (dp + e * es) r.tr (q' - o) := by
  have he' := he
  rw [drop_cons s q hq] at he' ⊢
  unfold rfEx
  simp only [he', len_drop]
  rw [if_pos h]
  congr 1
  omega
theorem rfE_nil (e) : rfE [] e = (e, []) := rfl
theorem rfE_stop {c l e} (h : ¬ isD c.toNat) : rfE (c :: l) e = (e, c :: l) := by rw [rfE, if_neg h]
theorem rfE_small {c l e} (h : isD c.toNat) (he : e < 10000) : rfE (c :: l) e = rfE l (e * 10 + c.toNat - 48) := by rw [rfE, if_pos h, if_pos he]
theorem rfE_big {c l e} (h : isD c.toNat) (he : ¬ e < 10000) : rfE (c :: l) e = rfE l e := by rw [rfE, if_pos h, if_neg he]
theorem rfFin_zero {m nm dp : Int} {tr : Bool} {n : Nat} (h : m = 0) : rfFin m nm dp tr n = ⟨m, 0, tr, n, true⟩ := by rw [rfFin, if_neg (by simpa using h)]
theorem rfFin_pos {m nm dp : Int} {tr : Bool} {n : Nat} (h : ¬ m = 0) : rfFin m nm dp tr n = ⟨m, dp - nm, tr, n, true⟩ := by rw [rfFin, if_pos h]
/-- The sign ahead of a decimal. -/
inductive Sign (s : ByteArray) : Bool → Nat → Prop
  | none (h : 0 < s.size) (h1 : (s[0]'h).toNat ≠ 43) (h2 : (s[0]'h).toNat ≠ 45) : Sign s false 0
  | minus (h : 0 < s.size) (h1 : (s[0]'h).toNat = 45) : Sign s true 1

theorem results_tmp7 {fn : Func} {t1 t2 t3 t4 t5 t6 t7 : Tmp} (h : fn.results = #[.tmp t1, .tmp t2, .tmp t3, .tmp t4, .tmp t5, .tmp t6, .tmp t7]) (tmps : Array Value) (P : Program) (w : World) :
    (results fn tmps).run P w = .ok (.tuple #[tmps.getD t1 undef, tmps.getD t2 undef, tmps.getD t3 undef, tmps.getD t4 undef, tmps.getD t5 undef, tmps.getD t6 undef, tmps.getD t7 undef]) w := by
  simp [results, h]
theorem ret_seven {m e : Int} {neg neg' tr : Bool} {n o : Nat} {i : Int} {ok : Bool} {w w' : World} {R : RR} (hR : R = ⟨m, e, tr, n, ok⟩) (hn : neg = neg') (hi : i = ((o + n : Nat) : Int)) (hD : Drew w w') :
    RfPost neg' o R w (.returned (.tuple #[.int .u64 m, .int .i64 e, .bool neg, .bool tr, .bool false, .int .i64 i, .bool ok])) w' := by
  subst hR hi hn
  exact ⟨rfl, hD⟩
end Go.Proofs.YthplmbgdcfmkgaaGreatDoor
/- The library's readFloat: the walk. -/
namespace Go.Proofs.YthplmbgdcfmkgaaGreatDoor
open Go.RowKit

set_option maxHeartbeats 8000000 in
set_option maxRecDepth 100000 in
theorem rf_plain (s : ByteArray) (w : World) (neg : Bool) (o : Nat) (hs : s.size ≤ 3000) (hg : Sign s neg o)
    (hu : ∀ j (h : j < s.size), (s[j]'h).toNat ≠ 95) (hx : ∀ (h : o + 2 < s.size), ((s[o]'(by omega)).toNat = 48) → lw (s[o + 1]'(by omega)).toNat ≠ 120) :
    Calls Tryz.prog 115 #[.string s] w (RfPost neg o (rfF (s.data.toList.drop o)) w) := by
  obtain ⟨R, hR⟩ : ∃ R, R = rfF (s.data.toList.drop o) := ⟨_, rfl⟩
  rw [← hR]
  have HR := Lib.hid hR
  have HU := Lib.hid hu
  have HX := Lib.hid hx
  have HG := Lib.hid hg
  have hne : 0 < s.size := by cases hg <;> assumption
  have hem : ¬ s = ByteArray.empty := by
    intro h
    rw [h] at hne
    exact absurd hne (by decide)
  clear hR hu hx hg
  go_enter Tryz.func115, Tryz.ntmps115
  go_wp2_with fail
  refine wp_scope_straight ?_
  go_upto_block 0 with fail
  go_cut [4, 7] from 28 to 35 (fun sg i wx => sg = .bool neg ∧ i = .int .i64 (o : Int) ∧ w = wx)
  case first =>
    cases HG.out with
    | none h a b =>
      have a' : (((s[0]'h).toNat : Int) == 43) = false := by rw [beq_eq_false_iff_ne]; omega
      have b' : (((s[0]'h).toNat : Int) == 45) = false := by rw [beq_eq_false_iff_ne]; omega
      clear a b
      go_wp2_with fail
      go_meet
      case rel => exact ⟨rfl, rfl, rfl⟩
    | minus h a =>
      have a' : (((s[0]'h).toNat : Int) == 43) = false := by rw [beq_eq_false_iff_ne]; omega
      have b' : (((s[0]'h).toNat : Int) == 45) = true := by rw [beq_iff_eq]; omega
      clear a
      go_wp2_with fail
      go_meet
      case rel => exact ⟨rfl, rfl, rfl⟩
  case rest =>
  obtain ⟨rfl, rfl, rfl⟩ := hcut
  have ho : o ≤ 1 := by cases HG.out <;> omega
  have hos : o ≤ s.size := by omega
  go_upto_region 12 with fail
  go_cut [54] from 36 to 54 (fun c wx => c = .bool false ∧ w = wx)
  case first =>
    by_cases h2 : o + 2 < s.size
    · have h2b : ((o : Int) + 2 < (s.size : Int)) := by omega
      by_cases hz : (s[o]'(by omega)).toNat = 48
      · have hzb : (((s[o]'(by omega)).toNat : Int) == 48) = true := by rw [beq_iff_eq]; omega
        have hxb : ((lw (s[o + 1]'(by omega)).toNat) == 120) = false := by rw [beq_eq_false_iff_ne]; exact HX.out h2 hz
        unfold lw at hxb
        clear hz
        go_wp2
        go_meet
        case rel => exact ⟨rfl, rfl⟩
      · have hzb : (((s[o]'(by omega)).toNat : Int) == 48) = false := by rw [beq_eq_false_iff_ne]; omega
        clear hz
        go_wp2
        go_meet
        case rel => exact ⟨rfl, rfl⟩
    · have h2b : ¬ ((o : Int) + 2 < (s.size : Int)) := by omega
      go_wp2
      go_meet
      case rel => exact ⟨rfl, rfl⟩
  case rest =>
  obtain ⟨rfl, rfl⟩ := hcut
  go_wp2_with fail
  go_step3
  obtain ⟨P, hP⟩ : ∃ P, P = rfRun (s.data.toList.drop o) rf0 := ⟨_, rfl⟩
  have HP := Lib.hid hP
  clear hP
  go_upto_block 1 with fail
  go_cut [2, 5, 7, 9, 13, 14, 15, 16, 17, 18] from 57 to 138 (fun m tr i un dot dig nd nm dp c wx => ∃ (j : Nat) (r : RF), o ≤ j ∧ j ≤ s.size ∧ Hid (RI s P j r) ∧ Hid (P = (s.data.toList.drop j, r)) ∧ m = .int .u64 r.m ∧ tr = .bool r.tr ∧ i = .int .i64 (j : Int) ∧ un = .bool false ∧ dot = .bool r.dot ∧ dig = .bool r.dig ∧ nd = .int .i64 r.nd ∧ nm = .int .i64 r.nm ∧ dp = .int .i64 r.dp ∧ Drew w wx)
  case first =>
    go_wp2_with fail
    go_loopg [2, 5, 7, 9, 13, 14, 15, 16, 17, 18] (s.size - o) (fun k m tr i un dot dig nd nm dp c wr => ∃ (j : Nat) (r : RF), k + j = s.size ∧ o ≤ j ∧ Hid (RI s P j r) ∧ m = .int .u64 r.m ∧ tr = .bool r.tr ∧ i = .int .i64 (j : Int) ∧ un = .bool false ∧ dot = .bool r.dot ∧ dig = .bool r.dig ∧ nd = .int .i64 r.nd ∧ nm = .int .i64 r.nm ∧ dp = .int .i64 r.dp ∧ Drew w wr)
    case atStart => exact ⟨o, rf0, by omega, Nat.le_refl _, ⟨HP.out.symm, by decide, by simp [rf0], by decide, by decide, by simp [rf0], by simp [rf0]⟩, rfl, rfl, rfl, rfl, rfl, rfl, rfl, rfl, rfl, Drew.refl _⟩
    case round =>
      obtain ⟨j, r, hk, hoj, hri, rfl, rfl, rfl, rfl, rfl, rfl, rfl, rfl, rfl, hD⟩ := hrel
      have hjl : j ≤ s.size := by omega
      have hn0 := hri.out.nd0
      have hn1 := hri.out.nd1
      have hm0 := hri.out.nm0
      have hm1 := hri.out.nm1
      have hd0 := hri.out.dp0
      have hd1 := hri.out.dp1
      cases gk with
      | zero =>
        have hje : j = s.size := by omega
        have HF := Lib.hid (hri.out.fin (by omega))
        have hlt : ¬ ((j : Int) < (s.size : Int)) := by omega
        have HJ := Lib.hid hje
        clear hje hk
        go_wp2_with fail
        go_meet
        case rel => exact ⟨j, r, hoj, hjl, hri, HF, rfl, rfl, rfl, rfl, rfl, rfl, rfl, rfl, rfl, hD⟩
      | succ gk =>
        have hj : j < s.size := by omega
        have hlt : ((j : Int) < (s.size : Int)) := by omega
        obtain ⟨C, hC⟩ : ∃ C, C = (s[j]'hj).toNat := ⟨_, rfl⟩
        have hc255 : C < 256 := by rw [hC]; exact (s[j]'hj).toNat_lt
        have h95 : ((C : Int) == 95) = false := by rw [beq_eq_false_iff_ne, hC]; have := HU.out j hj; omega
        have HC := Lib.hid hC
        have hC' : (s[j]'hj).toNat = C := hC.symm
        clear hC
        by_cases c46 : C = 46
        · have t46 : ((C : Int) == 46) = true := by rw [beq_iff_eq]; omega
          cases hdot : r.dot with
          | true =>
            have HF := Lib.hid (hri.out.stop hj (by rw [hC']; exact step_dot2 c46 hdot))
            clear c46
            go_wp2_with fail
            go_meet
            case rel => exact ⟨j, r, hoj, hjl, hri, HF, rfl, rfl, rfl, rfl, by rw [hdot], rfl, rfl, rfl, rfl, hD⟩
          | false =>
            have HN := Lib.hid (hri.out.next hj (by rw [hC']; exact step_dot c46 hdot))
            clear c46
            go_wp2_with fail
            go_roundg gk
            case measure => omega
            case rel => exact ⟨j + 1, rfDot r, by omega, by omega, HN, rfl, rfl, by go_num, rfl, rfl, rfl, rfl, rfl, rfl, hD⟩
        · have t46 : ((C : Int) == 46) = false := by rw [beq_eq_false_iff_ne]; omega
          by_cases hd : isD C
          · have hd' := hd
            unfold isD at hd'
            obtain ⟨l48, l57⟩ := hd'
            by_cases hz : C = 48 ∧ r.nd = 0
            · have t48 : ((C : Int) == 48) = true := by rw [beq_iff_eq]; omega
              have tnd : (r.nd == 0) = true := by rw [beq_iff_eq]; omega
              have HN := Lib.hid (hri.out.next hj (by rw [hC']; exact step_zero hz.1 hz.2))
              clear hz c46 hd
              go_wp2_with fail
              go_roundg gk
              case measure => omega
              case rel => exact ⟨j + 1, rfZero r, by omega, by omega, HN, rfl, rfl, by go_num, rfl, rfl, rfl, rfl, rfl, rfl, hD⟩
            · have hst := Lib.hid (step_digit hd hz)
              by_cases hm : r.nm < 19
              · have HN := Lib.hid (hri.out.next hj (by rw [hC']; exact hst.out.trans (congrArg some (rfDigit_few hm))))
                by_cases h48 : C = 48
                · have t48 : ((C : Int) == 48) = true := by rw [beq_iff_eq]; omega
                  have tnd : (r.nd == 0) = false := by rw [beq_eq_false_iff_ne]; exact fun h => hz ⟨h48, h⟩
                  clear hz c46 hd h48
                  go_wp2_with fail
                  go_roundg gk
                  case measure => omega
                  case rel => exact ⟨j + 1, _, by omega, by omega, HN, rfl, rfl, by go_num, rfl, rfl, rfl, rfl, rfl, rfl, hD⟩
                · have t48 : ((C : Int) == 48) = false := by rw [beq_eq_false_iff_ne]; omega
                  clear hz c46 hd h48
                  go_wp2_with fail
                  go_roundg gk
                  case measure => omega
                  case rel => exact ⟨j + 1, _, by omega, by omega, HN, rfl, rfl, by go_num, rfl, rfl, rfl, rfl, rfl, rfl, hD⟩
              · have HN := Lib.hid (hri.out.next hj (by rw [hC']; exact hst.out.trans (congrArg some (rfDigit_many hm))))
                by_cases h48 : C = 48
                · have t48 : ((C : Int) == 48) = true := by rw [beq_iff_eq]; omega
                  have t48n : ((C : Int) != 48) = false := by simp [h48]
                  have tnd : (r.nd == 0) = false := by rw [beq_eq_false_iff_ne]; exact fun h => hz ⟨h48, h⟩
                  have e : (r.tr || decide (C ≠ 48)) = r.tr := by simp [h48]
                  rw [e] at HN
                  clear hz c46 hd h48 e
                  go_wp2_with fail
                  go_roundg gk
                  case measure => omega
                  case rel => exact ⟨j + 1, _, by omega, by omega, HN, rfl, rfl, by go_num, rfl, rfl, rfl, rfl, rfl, rfl, hD⟩
                · have t48 : ((C : Int) == 48) = false := by rw [beq_eq_false_iff_ne]; omega
                  have t48n : ((C : Int) != 48) = true := by rw [bne_iff_ne]; omega
                  have e : (r.tr || decide (C ≠ 48)) = true := by simp [h48]
                  rw [e] at HN
                  clear hz c46 hd h48 e
                  go_wp2_with fail
                  go_roundg gk
                  case measure => omega
                  case rel => exact ⟨j + 1, _, by omega, by omega, HN, rfl, rfl, by go_num, rfl, rfl, rfl, rfl, rfl, rfl, hD⟩
          · have HF := Lib.hid (hri.out.stop hj (by rw [hC']; exact step_other hd c46))
            unfold isD at hd
            by_cases l48 : 48 ≤ C
            · have l57 : ¬ C ≤ 57 := fun h => hd ⟨l48, h⟩
              clear c46 hd
              go_wp2_with fail
              go_meet
              case rel => exact ⟨j, r, hoj, hjl, hri, HF, rfl, rfl, rfl, rfl, rfl, rfl, rfl, rfl, rfl, hD⟩
            · clear c46 hd
              go_wp2_with fail
              go_meet
              case rel => exact ⟨j, r, hoj, hjl, hri, HF, rfl, rfl, rfl, rfl, rfl, rfl, rfl, rfl, rfl, hD⟩
  case rest =>
  obtain ⟨j, r, hoj, hjl, hri, hF, rfl, rfl, rfl, rfl, rfl, rfl, rfl, rfl, rfl, hD⟩ := hcut
  have HRUN : Hid (rfRun (s.data.toList.drop o) rf0 = (s.data.toList.drop j, r)) := HP.out.symm.trans hF.out
  have hn0 := hri.out.nd0
  have hn1 := hri.out.nd1
  have hm0 := hri.out.nm0
  have hm1 := hri.out.nm1
  have hd0 := hri.out.dp0
  have hd1 := hri.out.dp1
  clear hF HP hri
  cases hdig : r.dig with
  | false =>
    have HR' : Hid (R = ⟨r.m, 0, r.tr, j - o, false⟩) := HR.out.trans (rf_nodig HRUN.out hoj hjl hdig)
    clear HR
    go_wp2_with (go_at_call 131; refine (lower_calls8 _ _).mono ?_; rintro e0 w0 ⟨rfl, rfl⟩)
    try rw [Exit.noGoto_ret]
    refine bodyPost_ret (results_tmp7 rfl _ _ _) rfl ?_
    exact ret_seven HR'.out rfl (by omega) hD
  | true =>
    have hE0 : -(j : Int) ≤ rfDp r := by unfold rfDp; split <;> omega
    have hE1 : rfDp r ≤ (j : Int) := by unfold rfDp; split <;> omega
    obtain ⟨E, hE⟩ : ∃ E, E = rfDp r := ⟨_, rfl⟩
    rw [← hE] at hE0 hE1
    have HE := Lib.hid hE
    clear hE
    go_upto_if 142 with fail
    go_cut [13, 17] from 141 to 143 (fun dot dp wx => dot = .bool r.dot ∧ dp = .int .i64 E ∧ wc = wx)
    case first =>
      cases hdot : r.dot with
      | true =>
        have e : r.dp = E := by rw [HE.out, rfDp, if_pos hdot]
        have e' := Lib.hid e
        clear e
        go_wp2_with (go_at_call 131; refine (lower_calls8 _ _).mono ?_; rintro e0 w0 ⟨rfl, rfl⟩)
        go_meet
        case rel => exact ⟨by rw [hdot], by rw [e'.out], rfl⟩
      | false =>
        have e : r.nd = E := by rw [HE.out, rfDp, if_neg (by rw [hdot]; decide)]
        have e' := Lib.hid e
        clear e
        go_wp2_with (go_at_call 131; refine (lower_calls8 _ _).mono ?_; rintro e0 w0 ⟨rfl, rfl⟩)
        go_meet
        case rel => exact ⟨by rw [hdot], by rw [e'.out], rfl⟩
    case rest =>
    obtain ⟨rfl, rfl, rfl⟩ := hcut
    by_cases hje : j = s.size
    · have HRn : Hid (R = rfFin r.m r.nm E r.tr (j - o)) := by rw [HE.out]; exact HR.out.trans (rf_end HRUN.out hoj hje hdig)
      have hlt : ¬ ((j : Int) < (s.size : Int)) := by omega
      have HJ := Lib.hid hje
      clear hje HR
      by_cases hm : r.m = 0
      · have hmb : (r.m != 0) = false := by simp [hm]
        have HR' : Hid (R = ⟨r.m, 0, r.tr, j - o, true⟩) := HRn.out.trans (rfFin_zero hm)
        have HMZ := Lib.hid hm
        clear hm HRn
        go_wp2_with (go_at_call 131; refine (lower_calls8 _ _).mono ?_; rintro e0 w0 ⟨rfl, rfl⟩)
        try rw [Exit.noGoto_ret]
        refine bodyPost_ret (results_tmp7 rfl _ _ _) rfl ?_
        exact ret_seven HR'.out rfl (by omega) hD
      · have hmb : (r.m != 0) = true := by simp [hm]
        have HR' : Hid (R = ⟨r.m, E - r.nm, r.tr, j - o, true⟩) := HRn.out.trans (rfFin_pos hm)
        clear hm HRn
        go_wp2_with (go_at_call 131; refine (lower_calls8 _ _).mono ?_; rintro e0 w0 ⟨rfl, rfl⟩)
        try rw [Exit.noGoto_ret]
        refine bodyPost_ret (results_tmp7 rfl _ _ _) rfl ?_
        exact ret_seven HR'.out rfl (by omega) hD
    · have hj : j < s.size := by omega
      have hlt : ((j : Int) < (s.size : Int)) := by omega
      obtain ⟨C, hC⟩ : ∃ C, C = (s[j]'hj).toNat := ⟨_, rfl⟩
      have hc255 : C < 256 := by rw [hC]; exact (s[j]'hj).toNat_lt
      have HC := Lib.hid hC
      have hC' : (s[j]'hj).toNat = C := hC.symm
      clear hC
      by_cases hl : lw C = 101
      · have hlb : (lw C == 101) = true := by rw [beq_iff_eq]; exact hl
        have HL := Lib.hid hl
        unfold lw at hlb
        clear hl
        by_cases hj1 : j + 1 = s.size
        · have HR' : Hid (R = ⟨r.m, 0, r.tr, j + 1 - o, false⟩) := HR.out.trans (rf_e_end HRUN.out hoj hj hdig (by rw [hC']; exact HL.out) hj1)
          have hge : ((s.size : Int) ≤ (j : Int) + 1) := by omega
          have HJ1 := Lib.hid hj1
          clear hj1 HR
          go_wp2_with (go_at_call 131; refine (lower_calls8 _ _).mono ?_; rintro e0 w0 ⟨rfl, rfl⟩)
          try rw [Exit.noGoto_ret]
          refine bodyPost_ret (results_tmp7 rfl _ _ _) rfl ?_
          exact ret_seven HR'.out rfl (by omega) hD
        · have hj1 : j + 1 < s.size := by omega
          have hge : ¬ ((s.size : Int) ≤ (j : Int) + 1) := by omega
          obtain ⟨D, hDD⟩ : ∃ D, D = (s[j + 1]'hj1).toNat := ⟨_, rfl⟩
          have hDD' : (s[j + 1]'hj1).toNat = D := hDD.symm
          have HDD := Lib.hid hDD
          clear hDD
          go_upto_block 4 with (go_at_call 131; refine (lower_calls8 _ _).mono ?_; rintro e0 w0 ⟨rfl, rfl⟩)
          go_cut [7, 19] from 171 to 178 (fun i es wx => ∃ (q : Nat) (es' : Int), i = .int .i64 (q : Int) ∧ es = .int .i64 es' ∧ (es' = 1 ∨ es' = -1) ∧ o ≤ q ∧ q ≤ s.size ∧ wc = wx ∧ Hid (R = rfEx (s.size - o) r E es' (s.data.toList.drop q)))
          case first =>
            by_cases d43 : D = 43
            · have t43 : ((D : Int) == 43) = true := by rw [beq_iff_eq]; omega
              have HR' : Hid (R = rfEx (s.size - o) r E 1 (s.data.toList.drop (j + 2))) := by rw [HE.out]; exact HR.out.trans (rf_e_plus HRUN.out hoj hj1 hdig (by rw [hC']; exact HL.out) (hDD'.trans d43))
              clear d43 HR
              go_wp2_with (go_at_call 131; refine (lower_calls8 _ _).mono ?_; rintro e0 w0 ⟨rfl, rfl⟩)
              go_meet
              case rel => exact ⟨j + 2, 1, by go_num, rfl, Or.inl rfl, by omega, by omega, rfl, HR'⟩
            · have t43 : ((D : Int) == 43) = false := by rw [beq_eq_false_iff_ne]; omega
              by_cases d45 : D = 45
              · have t45 : ((D : Int) == 45) = true := by rw [beq_iff_eq]; omega
                have HR' : Hid (R = rfEx (s.size - o) r E (-1) (s.data.toList.drop (j + 2))) := by rw [HE.out]; exact HR.out.trans (rf_e_minus HRUN.out hoj hj1 hdig (by rw [hC']; exact HL.out) (hDD'.trans d45))
                clear d43 d45 HR
                go_wp2_with (go_at_call 131; refine (lower_calls8 _ _).mono ?_; rintro e0 w0 ⟨rfl, rfl⟩)
                go_meet
                case rel => exact ⟨j + 2, -1, by go_num, rfl, Or.inr rfl, by omega, by omega, rfl, HR'⟩
              · have t45 : ((D : Int) == 45) = false := by rw [beq_eq_false_iff_ne]; omega
                have HR' : Hid (R = rfEx (s.size - o) r E 1 (s.data.toList.drop (j + 1))) := by rw [HE.out]; exact HR.out.trans (rf_e_none HRUN.out hoj hj1 hdig (by rw [hC']; exact HL.out) (by rw [hDD']; exact d43) (by rw [hDD']; exact d45))
                clear d43 d45 HR
                go_wp2_with (go_at_call 131; refine (lower_calls8 _ _).mono ?_; rintro e0 w0 ⟨rfl, rfl⟩)
                go_meet
                case rel => exact ⟨j + 1, 1, by go_num, rfl, Or.inl rfl, by omega, by omega, rfl, HR'⟩
          case rest =>
          obtain ⟨q, es, rfl, rfl, hes, hoq, hqs, rfl, HRX⟩ := hcut
          clear HR hlb hlt hge hDD' HDD hC' HC HL
          by_cases hqe : q = s.size
          · have HR' : Hid (R = ⟨r.m, 0, r.tr, q - o, false⟩) := HRX.out.trans (rfEx_end hqe)
            have hge : ((s.size : Int) ≤ (q : Int)) := by omega
            have HQ := Lib.hid hqe
            clear hqe HRX
            go_wp2_with (go_at_call 131; refine (lower_calls8 _ _).mono ?_; rintro e0 w0 ⟨rfl, rfl⟩)
            try rw [Exit.noGoto_ret]
            refine bodyPost_ret (results_tmp7 rfl _ _ _) rfl ?_
            exact ret_seven HR'.out rfl (by omega) hD
          · have hq : q < s.size := by omega
            have hge : ¬ ((s.size : Int) ≤ (q : Int)) := by omega
            have hlt : ((q : Int) < (s.size : Int)) := by omega
            obtain ⟨F, hF⟩ : ∃ F, F = (s[q]'hq).toNat := ⟨_, rfl⟩
            have hF' : (s[q]'hq).toNat = F := hF.symm
            have HF := Lib.hid hF
            clear hF
            by_cases hd : isD F
            · have hd' := hd
              unfold isD at hd'
              obtain ⟨l48, l57⟩ := hd'
              have HFD : Hid (isD F) := hd
              obtain ⟨X, hX⟩ : ∃ X, X = rfE (s.data.toList.drop q) 0 := ⟨_, rfl⟩
              have HX1 := Lib.hid hX
              clear hd hX
              go_wp2_with (go_at_call 131; refine (lower_calls8 _ _).mono ?_; rintro e0 w0 ⟨rfl, rfl⟩)
              go_loopg [7, 9, 20] (s.size - q) (fun k i un ev wr => ∃ (p : Nat) (e : Int), k + p = s.size ∧ q ≤ p ∧ i = .int .i64 (p : Int) ∧ un = .bool false ∧ ev = .int .i64 e ∧ 0 ≤ e ∧ e ≤ 100008 ∧ Hid (rfE (s.data.toList.drop p) e = X) ∧ Drew w wr)
              case atStart => exact ⟨q, 0, by omega, by omega, rfl, rfl, rfl, by omega, by omega, HX1.out.symm, hD⟩
              case round =>
                clear hD
                obtain ⟨p, e, hk, hqp, rfl, rfl, rfl, he0, he1, hx, hD⟩ := hrel
                cases gk with
                | zero =>
                  have hpe : p = s.size := by omega
                  have HXE : Hid (X = (e, s.data.toList.drop p)) := by have := hx.out; rw [drop_end s p (by omega)] at this ⊢; exact this.symm
                  have hlt : ¬ ((p : Int) < (s.size : Int)) := by omega
                  have HJ := Lib.hid hpe
                  clear hpe hx
                  have HRn : Hid (R = rfFin r.m r.nm (E + e * es) r.tr (p - o)) := HRX.out.trans (rfEx_yes hq hoq (by omega) (by omega) (by rw [hF']; exact HFD.out) (HX1.out.symm.trans HXE.out))
                  obtain ⟨Z, hZ⟩ : ∃ Z, Z = e * es := ⟨_, rfl⟩
                  have hZ0 : -100010 ≤ Z := by rcases hes with rfl | rfl <;> omega
                  have hZ1 : Z ≤ 100010 := by rcases hes with rfl | rfl <;> omega
                  have hZ' : e * es = Z := hZ.symm
                  have hZ2 : e = e := rfl
                  rw [hZ'] at HRn
                  clear hZ hes HRX
                  by_cases hm : r.m = 0
                  · have hmb : (r.m != 0) = false := by simp [hm]
                    have HR' : Hid (R = ⟨r.m, 0, r.tr, p - o, true⟩) := HRn.out.trans (rfFin_zero hm)
                    have HMZ := Lib.hid hm
                    clear hm HRn
                    go_wp2_with (go_at_call 131; refine (lower_calls8 _ _).mono ?_; rintro e0 w0 ⟨rfl, rfl⟩)
                    try rw [Exit.noGoto_ret]
                    refine bodyPost_ret (results_tmp7 rfl _ _ _) rfl ?_
                    exact ret_seven HR'.out rfl (by omega) hD
                  · have hmb : (r.m != 0) = true := by simp [hm]
                    have HR' : Hid (R = ⟨r.m, (E + Z) - r.nm, r.tr, p - o, true⟩) := HRn.out.trans (rfFin_pos hm)
                    clear hm HRn
                    go_wp2_with (go_at_call 131; refine (lower_calls8 _ _).mono ?_; rintro e0 w0 ⟨rfl, rfl⟩)
                    try rw [Exit.noGoto_ret]
                    refine bodyPost_ret (results_tmp7 rfl _ _ _) rfl ?_
                    exact ret_seven HR'.out rfl (by omega) hD
                | succ gk =>
                  have hp : p < s.size := by omega
                  have hlt : ((p : Int) < (s.size : Int)) := by omega
                  obtain ⟨G, hG⟩ : ∃ G, G = (s[p]'hp).toNat := ⟨_, rfl⟩
                  have hc255 : G < 256 := by rw [hG]; exact (s[p]'hp).toNat_lt
                  have h95 : ((G : Int) == 95) = false := by rw [beq_eq_false_iff_ne, hG]; have := HU.out p hp; omega
                  have HG1 := Lib.hid hG
                  have hG' : (s[p]'hp).toNat = G := hG.symm
                  clear hG
                  by_cases hd : isD G
                  · have hd' := hd
                    unfold isD at hd'
                    obtain ⟨m48, m57⟩ := hd'
                    by_cases hs1 : e < 10000
                    · have HN : Hid (rfE (s.data.toList.drop (p + 1)) (e * 10 + G - 48) = X) := by have := hx.out; rw [drop_cons s p hp, rfE_small (by rw [hG']; exact hd) hs1, hG'] at this; exact this
                      clear hd hx
                      go_wp2_with (go_at_call 131; refine (lower_calls8 _ _).mono ?_; rintro e0 w0 ⟨rfl, rfl⟩)
                      go_roundg gk
                      case measure => omega
                      case rel => exact ⟨p + 1, _, by omega, by omega, by go_num, rfl, rfl, by omega, by omega, HN, hD⟩
                    · have HN : Hid (rfE (s.data.toList.drop (p + 1)) e = X) := by have := hx.out; rw [drop_cons s p hp, rfE_big (by rw [hG']; exact hd) hs1] at this; exact this
                      clear hd hx
                      go_wp2_with (go_at_call 131; refine (lower_calls8 _ _).mono ?_; rintro e0 w0 ⟨rfl, rfl⟩)
                      go_roundg gk
                      case measure => omega
                      case rel => exact ⟨p + 1, _, by omega, by omega, by go_num, rfl, rfl, by omega, by omega, HN, hD⟩
                  · have HXE : Hid (X = (e, s.data.toList.drop p)) := by have := hx.out; rw [drop_cons s p hp, rfE_stop (by rw [hG']; exact hd)] at this; rw [drop_cons s p hp]; exact this.symm
                    unfold isD at hd
                    by_cases m48 : 48 ≤ G
                    · have m57 : ¬ G ≤ 57 := fun h => hd ⟨m48, h⟩
                      clear hd hx
                      have HRn : Hid (R = rfFin r.m r.nm (E + e * es) r.tr (p - o)) := HRX.out.trans (rfEx_yes hq hoq (by omega) (by omega) (by rw [hF']; exact HFD.out) (HX1.out.symm.trans HXE.out))
                      obtain ⟨Z, hZ⟩ : ∃ Z, Z = e * es := ⟨_, rfl⟩
                      have hZ0 : -100010 ≤ Z := by rcases hes with rfl | rfl <;> omega
                      have hZ1 : Z ≤ 100010 := by rcases hes with rfl | rfl <;> omega
                      have hZ' : e * es = Z := hZ.symm
                      have hZ2 : e = e := rfl
                      rw [hZ'] at HRn
                      clear hZ hes HRX
                      by_cases hm : r.m = 0
                      · have hmb : (r.m != 0) = false := by simp [hm]
                        have HR' : Hid (R = ⟨r.m, 0, r.tr, p - o, true⟩) := HRn.out.trans (rfFin_zero hm)
                        have HMZ := Lib.hid hm
                        clear hm HRn
                        go_wp2_with (go_at_call 131; refine (lower_calls8 _ _).mono ?_; rintro e0 w0 ⟨rfl, rfl⟩)
                        try rw [Exit.noGoto_ret]
                        refine bodyPost_ret (results_tmp7 rfl _ _ _) rfl ?_
                        exact ret_seven HR'.out rfl (by omega) hD
                      · have hmb : (r.m != 0) = true := by simp [hm]
                        have HR' : Hid (R = ⟨r.m, (E + Z) - r.nm, r.tr, p - o, true⟩) := HRn.out.trans (rfFin_pos hm)
                        clear hm HRn
                        go_wp2_with (go_at_call 131; refine (lower_calls8 _ _).mono ?_; rintro e0 w0 ⟨rfl, rfl⟩)
                        try rw [Exit.noGoto_ret]
                        refine bodyPost_ret (results_tmp7 rfl _ _ _) rfl ?_
                        exact ret_seven HR'.out rfl (by omega) hD
                    · clear hd hx
                      have HRn : Hid (R = rfFin r.m r.nm (E + e * es) r.tr (p - o)) := HRX.out.trans (rfEx_yes hq hoq (by omega) (by omega) (by rw [hF']; exact HFD.out) (HX1.out.symm.trans HXE.out))
                      obtain ⟨Z, hZ⟩ : ∃ Z, Z = e * es := ⟨_, rfl⟩
                      have hZ0 : -100010 ≤ Z := by rcases hes with rfl | rfl <;> omega
                      have hZ1 : Z ≤ 100010 := by rcases hes with rfl | rfl <;> omega
                      have hZ' : e * es = Z := hZ.symm
                      have hZ2 : e = e := rfl
                      rw [hZ'] at HRn
                      clear hZ hes HRX
                      by_cases hm : r.m = 0
                      · have hmb : (r.m != 0) = false := by simp [hm]
                        have HR' : Hid (R = ⟨r.m, 0, r.tr, p - o, true⟩) := HRn.out.trans (rfFin_zero hm)
                        have HMZ := Lib.hid hm
                        clear hm HRn
                        go_wp2_with (go_at_call 131; refine (lower_calls8 _ _).mono ?_; rintro e0 w0 ⟨rfl, rfl⟩)
                        try rw [Exit.noGoto_ret]
                        refine bodyPost_ret (results_tmp7 rfl _ _ _) rfl ?_
                        exact ret_seven HR'.out rfl (by omega) hD
                      · have hmb : (r.m != 0) = true := by simp [hm]
                        have HR' : Hid (R = ⟨r.m, (E + Z) - r.nm, r.tr, p - o, true⟩) := HRn.out.trans (rfFin_pos hm)
                        clear hm HRn
                        go_wp2_with (go_at_call 131; refine (lower_calls8 _ _).mono ?_; rintro e0 w0 ⟨rfl, rfl⟩)
                        try rw [Exit.noGoto_ret]
                        refine bodyPost_ret (results_tmp7 rfl _ _ _) rfl ?_
                        exact ret_seven HR'.out rfl (by omega) hD
            · have HR' : Hid (R = ⟨r.m, 0, r.tr, q - o, false⟩) := HRX.out.trans (rfEx_no hq hoq (by rw [hF']; exact hd))
              unfold isD at hd
              by_cases l48 : 48 ≤ F
              · have l57 : ¬ F ≤ 57 := fun h => hd ⟨l48, h⟩
                clear hd HRX
                go_wp2_with (go_at_call 131; refine (lower_calls8 _ _).mono ?_; rintro e0 w0 ⟨rfl, rfl⟩)
                try rw [Exit.noGoto_ret]
                refine bodyPost_ret (results_tmp7 rfl _ _ _) rfl ?_
                exact ret_seven HR'.out rfl (by omega) hD
              · clear hd HRX
                go_wp2_with (go_at_call 131; refine (lower_calls8 _ _).mono ?_; rintro e0 w0 ⟨rfl, rfl⟩)
                try rw [Exit.noGoto_ret]
                refine bodyPost_ret (results_tmp7 rfl _ _ _) rfl ?_
                exact ret_seven HR'.out rfl (by omega) hD
      · have hlb : (lw C == 101) = false := by rw [beq_eq_false_iff_ne]; exact hl
        have HRn : Hid (R = rfFin r.m r.nm E r.tr (j - o)) := by rw [HE.out]; exact HR.out.trans (rf_noexp HRUN.out hoj hj hdig (by rw [hC']; exact hl))
        unfold lw at hlb
        clear hl HR
        by_cases hm : r.m = 0
        · have hmb : (r.m != 0) = false := by simp [hm]
          have HR' : Hid (R = ⟨r.m, 0, r.tr, j - o, true⟩) := HRn.out.trans (rfFin_zero hm)
          have HMZ := Lib.hid hm
          clear hm HRn
          go_wp2_with (go_at_call 131; refine (lower_calls8 _ _).mono ?_; rintro e0 w0 ⟨rfl, rfl⟩)
          try rw [Exit.noGoto_ret]
          refine bodyPost_ret (results_tmp7 rfl _ _ _) rfl ?_
          exact ret_seven HR'.out rfl (by omega) hD
        · have hmb : (r.m != 0) = true := by simp [hm]
          have HR' : Hid (R = ⟨r.m, E - r.nm, r.tr, j - o, true⟩) := HRn.out.trans (rfFin_pos hm)
          clear hm HRn
          go_wp2_with (go_at_call 131; refine (lower_calls8 _ _).mono ?_; rintro e0 w0 ⟨rfl, rfl⟩)
          try rw [Exit.noGoto_ret]
          refine bodyPost_ret (results_tmp7 rfl _ _ _) rfl ?_
          exact ret_seven HR'.out rfl (by omega) hD
end Go.Proofs.YthplmbgdcfmkgaaGreatDoor
