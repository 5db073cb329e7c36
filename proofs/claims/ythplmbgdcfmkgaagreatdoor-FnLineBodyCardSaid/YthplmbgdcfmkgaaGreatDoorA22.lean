/- The reference: decimals. -/
import Derived.Test.YthplmbgdcfmkgaaGreatDoorA21
import Derived.Deep.CutBlock
import Derived.Deep.CutRange
import Derived.Lib.IndexBytes
set_option linter.unusedVariables false
set_option linter.unusedSimpArgs false
/- The reference: letters, digits. -/
namespace Go.Proofs.YthplmbgdcfmkgaaGreatDoor
open Go.RowKit Go.Proofs Go.Sort

def isL (c : Nat) : Bool := (decide (97 ≤ c) && decide (c ≤ 122)) || (decide (65 ≤ c) && decide (c ≤ 90))
def isDg (c : Nat) : Bool := decide (48 ≤ c) && decide (c ≤ 57)
set_option maxRecDepth 100000 in
theorem letter_ok (c : Nat) (w : World) : Calls Tryz.prog 28 #[.int .u8 (c : Int)] w fun e w' => e = .returned (.bool (isL c)) ∧ w' = w := by
  obtain ⟨b, hb⟩ : ∃ b, isL c = b := ⟨_, rfl⟩
  rw [hb]
  by_cases h1 : 97 ≤ c
  · by_cases h2 : c ≤ 122
    · obtain rfl : b = true := by rw [← hb, isL]; simp [h1, h2]
      have i1 : (97 : Int) ≤ (c : Int) := by omega
      have i2 : (c : Int) ≤ 122 := by omega
      clear hb h1 h2
      go_enter Tryz.func28, Tryz.ntmps28
      go_wp2_with fail
      go_ret
      exact ⟨rfl, rfl⟩
    · have h3 : ¬ c ≤ 90 := by omega
      obtain rfl : b = false := by rw [← hb, isL]; simp [h2, h3]
      have i1 : (97 : Int) ≤ (c : Int) := by omega
      have i2 : ¬ (c : Int) ≤ 122 := by omega
      have i3 : (65 : Int) ≤ (c : Int) := by omega
      have i4 : ¬ (c : Int) ≤ 90 := by omega
      clear hb h1 h2 h3
      go_enter Tryz.func28, Tryz.ntmps28
      go_wp2_with fail
      go_ret
      exact ⟨congrArg (fun b => Ending.returned (Value.bool b)) (by first | rfl | (simp; omega)), rfl⟩
  · by_cases h2 : 65 ≤ c
    · by_cases h3 : c ≤ 90
      · obtain rfl : b = true := by rw [← hb, isL]; simp [h2, h3]
        have i1 : ¬ (97 : Int) ≤ (c : Int) := by omega
        have i3 : (65 : Int) ≤ (c : Int) := by omega
        have i4 : (c : Int) ≤ 90 := by omega
        clear hb h1 h2 h3
        go_enter Tryz.func28, Tryz.ntmps28
        go_wp2_with fail
        go_ret
        exact ⟨congrArg (fun b => Ending.returned (Value.bool b)) (by first | rfl | (simp; omega)), rfl⟩
      · obtain rfl : b = false := by rw [← hb, isL]; simp [h1, h3]
        have i1 : ¬ (97 : Int) ≤ (c : Int) := by omega
        have i3 : (65 : Int) ≤ (c : Int) := by omega
        have i4 : ¬ (c : Int) ≤ 90 := by omega
        clear hb h1 h2 h3
        go_enter Tryz.func28, Tryz.ntmps28
        go_wp2_with fail
        go_ret
        exact ⟨congrArg (fun b => Ending.returned (Value.bool b)) (by first | rfl | (simp; omega)), rfl⟩
    · obtain rfl : b = false := by rw [← hb, isL]; simp [h1, h2]
      have i1 : ¬ (97 : Int) ≤ (c : Int) := by omega
      have i3 : ¬ (65 : Int) ≤ (c : Int) := by omega
      clear hb h1 h2
      go_enter Tryz.func28, Tryz.ntmps28
      go_wp2_with fail
      go_ret
      exact ⟨congrArg (fun b => Ending.returned (Value.bool b)) (by first | rfl | (simp; omega)), rfl⟩
/-- How many digits stand at the beginning. -/
def dn : List UInt8 → Nat
  | [] => 0
  | c :: l => if isDg c.toNat then dn l + 1 else 0
theorem dn_le : ∀ l : List UInt8, dn l ≤ l.length := by
  intro l
  induction l with
  | nil => simp [dn]
  | cons c l ih =>
    rw [dn]
    split
    · simp; omega
    · simp
set_option maxHeartbeats 1000000 in
set_option maxRecDepth 100000 in
theorem sdigits_ok (s : ByteArray) (w : World) (hs : s.size ≤ 100000) : Calls Tryz.prog 51 #[.string s] w fun e w' => e = .returned (.int .i64 (dn s.data.toList : Int)) ∧ w' = w := by
  have hl : s.data.toList.length = s.size := by simp
  go_enter Tryz.func51, Tryz.ntmps51
  go_wp2_with fail
  go_loopg [3] s.size (fun q sn wr => ∃ j : Nat, j ≤ s.size ∧ q + j = s.size ∧ sn = .int .i64 (j : Int) ∧ Hid (dn s.data.toList = j + dn (s.data.toList.drop j)) ∧ Hid (wr = w))
  case atStart => exact ⟨0, by omega, by omega, rfl, by rw [Hid, List.drop_zero, Nat.zero_add], rfl⟩
  case round =>
    obtain ⟨j, hj, hq, rfl, hd, hw⟩ := hrel
    by_cases hjs : j < s.size
    · have hlt : (j : Int) < (s.size : Int) := by omega
      obtain ⟨c, hc⟩ : ∃ c, c = (s[j]'hjs).toNat := ⟨_, rfl⟩
      have hgc : (s[j]'hjs).toNat = c := hc.symm
      have hdc : s.data.toList.drop j = (s[j]'hjs) :: s.data.toList.drop (j + 1) := List.drop_eq_getElem_cons (by rw [hl]; exact hjs)
      have hstep : Hid (dn (s.data.toList.drop j) = if isDg c then dn (s.data.toList.drop (j + 1)) + 1 else 0) := by rw [Hid, hdc, dn, hgc]
      have hdrop : Hid (True) := trivial
      clear hdc hc
      by_cases h1 : 48 ≤ c
      · have i1 : (48 : Int) ≤ (c : Int) := by omega
        by_cases h2 : c ≤ 57
        · have i2 : (c : Int) ≤ 57 := by omega
          have hst : Hid (isDg c = true) := by rw [Hid, isDg]; simp [h1, h2]
          go_wp2_with fail
          go_roundg (gk - 1)
          case measure => omega
          case rel =>
            refine ⟨j + 1, by omega, by omega, by go_num, ?_, hw⟩
            rw [Hid, hd.out, hstep.out, if_pos hst.out]
            omega
        · have i2 : ¬ (c : Int) ≤ 57 := by omega
          have hst : Hid (isDg c = false) := by rw [Hid, isDg]; simp [h2]
          go_wp2_with fail
          go_ret
          exact ⟨by rw [hd.out, hstep.out, if_neg (by rw [hst.out]; decide), Nat.add_zero]; rfl, hw.out⟩
      · have i1 : ¬ (48 : Int) ≤ (c : Int) := by omega
        have hst : Hid (isDg c = false) := by rw [Hid, isDg]; simp [h1]
        go_wp2_with fail
        go_ret
        exact ⟨by rw [hd.out, hstep.out, if_neg (by rw [hst.out]; decide), Nat.add_zero]; rfl, hw.out⟩
    · have hlt : ¬ (j : Int) < (s.size : Int) := by omega
      go_wp2_with fail
      go_ret
      exact ⟨by rw [hd.out, List.drop_eq_nil_of_le (by omega)]; rfl, hw.out⟩
end Go.Proofs.YthplmbgdcfmkgaaGreatDoor
/- The reference: decimals. -/
namespace Go.Proofs.YthplmbgdcfmkgaaGreatDoor
open Go.RowKit Go.Proofs Go.Sort

/-- How long an exponent stands at the beginning; 0 if none. -/
def expN : List UInt8 → Nat
  | [] => 0
  | e :: r => if e.toNat = 101 ∨ e.toNat = 69 then
      (match r with
      | [] => 0
      | c :: r' => if c.toNat = 43 ∨ c.toNat = 45 then (if dn r' = 0 then 0 else 2 + dn r') else if dn (c :: r') = 0 then 0 else 1 + dn (c :: r')) else 0
theorem expN_nil : expN [] = 0 := rfl
theorem expN_e (c : UInt8) (r : List UInt8) (h : c.toNat = 101 ∨ c.toNat = 69) : expN (c :: r) = (match r with
        | [] => 0
        | d :: r' => if d.toNat = 43 ∨ d.toNat = 45 then (if dn r' = 0 then 0 else 2 + dn r') else if dn (d :: r') = 0 then 0 else 1 + dn (d :: r')) := by
  unfold expN
  exact if_pos h
theorem expN_ne (c : UInt8) (r : List UInt8) (h : ¬ (c.toNat = 101 ∨ c.toNat = 69)) : expN (c :: r) = 0 := by
  unfold expN
  exact if_neg h
/-- How long digits with a point or none stand at the beginning; 0 if none. -/
def mntN (l : List UInt8) : Nat :=
  match l.drop (dn l) with
  | [] => dn l
  | c :: r => if c.toNat = 46 then (if dn l + dn r = 0 then 0 else dn l + 1 + dn r) else dn l
/-- How long a decimal stands at the beginning; 0 if none. -/
def decN (l : List UInt8) : Nat := if mntN l = 0 then 0 else mntN l + expN (l.drop (mntN l))
theorem ext_drop (s : ByteArray) (a : Nat) : (s.extract a s.size).data.toList = s.data.toList.drop a := Lib.extract_to_end s a
theorem drop_at (s : ByteArray) (j : Nat) (h : j < s.size) : s.data.toList.drop j = (s[j]'h) :: s.data.toList.drop (j + 1) :=
  List.drop_eq_getElem_cons (by have hl : s.data.toList.length = s.size := by simp
                                rw [hl]; exact h)
theorem drop_out (s : ByteArray) (j : Nat) (h : ¬ j < s.size) : s.data.toList.drop j = [] :=
  List.drop_eq_nil_of_le (by have hl : s.data.toList.length = s.size := by simp
                             omega)
theorem mntN_dot {s : ByteArray} {n : Nat} (hn : n = dn s.data.toList) (h : n < s.size) (hc : (s[n]'h).toNat = 46) : mntN s.data.toList = if n + dn (s.data.toList.drop (n + 1)) = 0 then 0 else n + 1 + dn (s.data.toList.drop (n + 1)) := by
  unfold mntN
  rw [← hn, drop_at s n h]
  simp only [hc, if_true]
theorem mntN_no {s : ByteArray} {n : Nat} (hn : n = dn s.data.toList) (hc : ∀ h : n < s.size, (s[n]'h).toNat ≠ 46) : mntN s.data.toList = n := by
  unfold mntN
  rw [← hn]
  by_cases h : n < s.size
  · rw [drop_at s n h]
    simp only [if_neg (hc h)]
  · rw [drop_out s n h]
def DecPost (s : ByteArray) (w : World) (e : Ending) (w' : World) : Prop := e = .returned (.int .i64 (decN s.data.toList : Int)) ∧ w' = w
set_option maxHeartbeats 2000000 in
set_option maxRecDepth 100000 in
theorem decimal_ok (s : ByteArray) (w : World) (hs : s.size ≤ 100000) : Calls Tryz.prog 29 #[.string s] w (DecPost s w) := by
  have hl : s.data.toList.length = s.size := by simp
  have cS := fun (t : ByteArray) (W : World) (ht : t.size ≤ 100000) => sdigits_ok t W ht
  have CS := Lib.hid cS
  obtain ⟨n, hn⟩ : ∃ n, n = dn s.data.toList := ⟨_, rfl⟩
  have hnl : n ≤ s.size := by rw [hn, ← hl]; exact dn_le _
  have Hn := Lib.hid hn
  clear cS hn
  go_enter Tryz.func29, Tryz.ntmps29
  go_wp2_with fail
  refine (CS.out s w hs).mono ?_
  rintro e wx ⟨rfl, hwx⟩
  obtain rfl := hwx.symm
  rw [← Hn.out]
  by_cases hdot : ∃ h : n < s.size, (s[n]'h).toNat = 46
  · obtain ⟨hns, h46⟩ := hdot
    have hln : (n : Int) < (s.size : Int) := by omega
    obtain ⟨q, hq⟩ : ∃ q, q = dn (s.data.toList.drop (n + 1)) := ⟨_, rfl⟩
    have hmn : Hid (mntN s.data.toList = if n + q = 0 then 0 else n + 1 + q) := by rw [Hid, hq]; exact mntN_dot Hn.out hns h46
    have hql : q ≤ s.size - (n + 1) := by rw [hq]; have := dn_le (s.data.toList.drop (n + 1)); rw [List.length_drop, hl] at this; exact this
    have cK := CS.out (s.extract (n + 1) s.size) w (by rw [ByteArray.size_extract]; omega)
    rw [ext_drop, ← hq] at cK
    have CK := Lib.hid cK
    have hn1 : (n : Int) + 1 ≤ (s.size : Int) := by omega
    have hwr1 : IntKind.i64.wrap ((n : Int) + 1) = (n : Int) + 1 := by rw [IntKind.wrap_i64]; omega
    clear cK hq
    go_wp2_with fail
    refine CK.out.mono ?_
    rintro e wy ⟨rfl, hwy⟩
    obtain rfl := hwy.symm
    by_cases h0 : n + q = 0
    · have z0 : ((n : Int) + (q : Int) == 0) = true := by rw [beq_iff_eq]; omega
      have H0 := Lib.hid h0
      clear h0
      go_wp2_with fail
      go_ret
      exact ⟨by rw [decN, hmn.out, if_pos H0.out, if_pos rfl]; rfl, rfl⟩
    · have z0 : ((n : Int) + (q : Int) == 0) = false := by rw [beq_eq_false_iff_ne]; omega
      obtain ⟨m, hm⟩ : ∃ m, m = n + 1 + q := ⟨_, rfl⟩
      have Hm : Hid (m = mntN s.data.toList) := by rw [Hid, hmn.out, if_neg h0, hm]
      have hm0 : 0 < m := by omega
      have hmz : ((m : Int) == 0) = false := by rw [beq_eq_false_iff_ne]; omega
      have hms' : m ≤ s.size := by omega
      have hmi : (n : Int) + (1 + (q : Int)) = (m : Int) := by omega
      clear h0 hm
      by_cases hms : m < s.size
      · have hlm : (m : Int) < (s.size : Int) := by omega
        obtain ⟨c, hc⟩ : ∃ c, c = (s[m]'hms).toNat := ⟨_, rfl⟩
        have hgc : (s[m]'hms).toNat = c := hc.symm
        have hdm := drop_at s m hms
        have HDm := Lib.hid hdm
        clear hc hdm
        by_cases he : c = 101 ∨ c = 69
        · have hexp : Hid (expN (s.data.toList.drop m) = (match s.data.toList.drop (m + 1) with
              | [] => 0
              | d :: r' => if d.toNat = 43 ∨ d.toNat = 45 then (if dn r' = 0 then 0 else 2 + dn r') else if dn (d :: r') = 0 then 0 else 1 + dn (d :: r'))) := by
            rw [Hid, HDm.out]; exact expN_e _ _ (by rw [hgc]; exact he)
          have hdec : Hid (decN s.data.toList = m + expN (s.data.toList.drop m)) := by rw [Hid, decN, ← Hm.out, if_neg (by omega)]
          obtain ⟨p, hp⟩ : ∃ p, p = m + 1 := ⟨_, rfl⟩
          have hpi : (m : Int) + 1 = (p : Int) := by omega
          have Hp := Lib.hid hp
          have hps : p ≤ s.size := by omega
          rw [← hp] at hexp
          clear hp
          by_cases hpp : p < s.size
          · have hlp : (p : Int) < (s.size : Int) := by omega
            obtain ⟨d, hd⟩ : ∃ d, d = (s[p]'hpp).toNat := ⟨_, rfl⟩
            have hgd : (s[p]'hpp).toNat = d := hd.symm
            have hdp := drop_at s p hpp
            have HDp := Lib.hid hdp
            clear hd hdp
            by_cases hsg : d = 43 ∨ d = 45
            · obtain ⟨k, hk⟩ : ∃ k, k = dn (s.data.toList.drop (p + 1)) := ⟨_, rfl⟩
              have hkl : k ≤ s.size - (p + 1) := by rw [hk]; have := dn_le (s.data.toList.drop (p + 1)); rw [List.length_drop, hl] at this; exact this
              have hwr2 : IntKind.i64.wrap ((p : Int) + 1 + (k : Int)) = (p : Int) + 1 + (k : Int) := by rw [IntKind.wrap_i64]; omega
              have hex : Hid (decN s.data.toList = if k = 0 then m else m + (2 + k)) := by
                rw [Hid, hdec.out, hexp.out, HDp.out]
                simp only [hgd, if_pos hsg, ← hk]
                by_cases hk0 : k = 0
                · rw [if_pos hk0, if_pos hk0, Nat.add_zero]
                · rw [if_neg hk0, if_neg hk0]
              have cK := CS.out (s.extract (p + 1) s.size) w (by rw [ByteArray.size_extract]; omega)
              rw [ext_drop, ← hk] at cK
              have CK := Lib.hid cK
              have hpq : (p : Int) + 1 ≤ (s.size : Int) := by omega
              clear cK hk
              rcases he with rfl | rfl
              all_goals
                rcases hsg with rfl | rfl
                all_goals
                  go_wp2_with fail
                  refine CK.out.mono ?_
                  rintro e wy ⟨rfl, hwy⟩
                  obtain rfl := hwy.symm
                  by_cases hk0 : k = 0
                  · have z1 : ¬ (0 : Int) < (k : Int) := by omega
                    have Hk0 := Lib.hid hk0
                    clear hk0
                    go_wp2_with fail
                    go_ret
                    exact ⟨by rw [hex.out, if_pos Hk0.out]; rfl, rfl⟩
                  · have z1 : (0 : Int) < (k : Int) := by omega
                    have Hk0 := Lib.hid hk0
                    clear hk0
                    go_wp2_with fail
                    go_ret
                    exact ⟨by rw [hex.out, if_neg Hk0.out]; refine congrArg (fun z : Int => Ending.returned (.int .i64 z)) ?_; have := Hp.out; go_num, rfl⟩
            · obtain ⟨k, hk⟩ : ∃ k, k = dn (s.data.toList.drop p) := ⟨_, rfl⟩
              have hkl : k ≤ s.size - p := by rw [hk]; have := dn_le (s.data.toList.drop p); rw [List.length_drop, hl] at this; exact this
              have hwr2 : IntKind.i64.wrap ((p : Int) + (k : Int)) = (p : Int) + (k : Int) := by rw [IntKind.wrap_i64]; omega
              have hex : Hid (decN s.data.toList = if k = 0 then m else m + (1 + k)) := by
                rw [Hid, hdec.out, hexp.out, hk, HDp.out]
                simp only [hgd, if_neg hsg]
                by_cases hk0 : dn (s[p] :: s.data.toList.drop (p + 1)) = 0
                · rw [if_pos hk0, if_pos hk0, Nat.add_zero]
                · rw [if_neg hk0, if_neg hk0]
              have cK := CS.out (s.extract p s.size) w (by rw [ByteArray.size_extract]; omega)
              rw [ext_drop, ← hk] at cK
              have CK := Lib.hid cK
              have s1 : ((d : Int) == 43) = false := by rw [beq_eq_false_iff_ne]; omega
              have s2 : ((d : Int) == 45) = false := by rw [beq_eq_false_iff_ne]; omega
              have hpl : (p : Int) ≤ (s.size : Int) := by omega
              clear cK hk hsg
              rcases he with rfl | rfl
              all_goals
                go_wp2_with fail
                refine CK.out.mono ?_
                rintro e wy ⟨rfl, hwy⟩
                obtain rfl := hwy.symm
                by_cases hk0 : k = 0
                · have z1 : ¬ (0 : Int) < (k : Int) := by omega
                  have Hk0 := Lib.hid hk0
                  clear hk0
                  go_wp2_with fail
                  go_ret
                  exact ⟨by rw [hex.out, if_pos Hk0.out]; rfl, rfl⟩
                · have z1 : (0 : Int) < (k : Int) := by omega
                  have Hk0 := Lib.hid hk0
                  clear hk0
                  go_wp2_with fail
                  go_ret
                  exact ⟨by rw [hex.out, if_neg Hk0.out]; refine congrArg (fun z : Int => Ending.returned (.int .i64 z)) ?_; have := Hp.out; go_num, rfl⟩
          · have hlp : ¬ (p : Int) < (s.size : Int) := by omega
            have hex : Hid (decN s.data.toList = m) := by rw [Hid, hdec.out, hexp.out, drop_out s p hpp]; rfl
            have cK := CS.out (s.extract p s.size) w (by rw [ByteArray.size_extract]; omega)
            rw [ext_drop, drop_out s p hpp] at cK
            have CK := Lib.hid cK
            have hpl : (p : Int) ≤ (s.size : Int) := by omega
            clear cK
            rcases he with rfl | rfl
            all_goals
              go_wp2_with fail
              refine CK.out.mono ?_
              rintro e wy ⟨rfl, hwy⟩
              obtain rfl := hwy.symm
              rw [show ((dn [] : Nat) : Int) = 0 from rfl]
              go_wp2_with fail
              go_ret
              exact ⟨by rw [hex.out]; rfl, rfl⟩
        · have e1 : ((c : Int) == 101) = false := by rw [beq_eq_false_iff_ne]; omega
          have e2 : ((c : Int) == 69) = false := by rw [beq_eq_false_iff_ne]; omega
          have hdec : Hid (decN s.data.toList = m) := by
            rw [Hid, decN, ← Hm.out, if_neg (by omega), HDm.out, expN_ne _ _ (by rw [hgc]; exact he), Nat.add_zero]
          clear he
          go_wp2_with fail
          go_ret
          exact ⟨by rw [hdec.out]; rfl, rfl⟩
      · have hlm : ¬ (m : Int) < (s.size : Int) := by omega
        have hdec : Hid (decN s.data.toList = m) := by rw [Hid, decN, ← Hm.out, if_neg (by omega), drop_out s m hms, expN_nil, Nat.add_zero]
        go_wp2_with fail
        go_ret
        exact ⟨by rw [hdec.out]; rfl, rfl⟩
  · have hno : ∀ h : n < s.size, (s[n]'h).toNat ≠ 46 := fun h e => hdot ⟨h, e⟩
    have Hm0 : Hid (n = mntN s.data.toList) := (mntN_no Hn.out hno).symm
    have hdt : (n < s.size ∧ ∃ h : n < s.size, ((s[n]'h).toNat : Int) ≠ 46) ∨ ¬ n < s.size := by
      by_cases h : n < s.size
      · exact Or.inl ⟨h, h, by have := hno h; omega⟩
      · exact Or.inr h
    by_cases h0 : n = 0
    · have z0 : ((n : Int) == 0) = true := by rw [beq_iff_eq]; omega
      have hdec : Hid (decN s.data.toList = 0) := by rw [Hid, decN, ← Hm0.out, if_pos h0]
      clear h0 hno hdot
      rcases hdt with ⟨h1, h2, h3⟩ | h1
      · have hln : (n : Int) < (s.size : Int) := by omega
        have h4 : (((s[n]'h2).toNat : Int) == 46) = false := by rw [beq_eq_false_iff_ne]; exact h3
        clear h3
        go_wp2_with fail
        go_ret
        exact ⟨by rw [hdec.out]; rfl, rfl⟩
      · have hln : ¬ (n : Int) < (s.size : Int) := by omega
        go_wp2_with fail
        go_ret
        exact ⟨by rw [hdec.out]; rfl, rfl⟩
    · obtain ⟨m, hm⟩ : ∃ m, m = n := ⟨_, rfl⟩
      obtain rfl := hm
      have Hm := Hm0
      have hm0 : 0 < m := by omega
      have hmz : ((m : Int) == 0) = false := by rw [beq_eq_false_iff_ne]; omega
      have hms' := hnl
      clear h0 hno hdot
      rcases hdt with ⟨h1, h2, h3⟩ | h1
      · have h4 : (((s[m]'h2).toNat : Int) == 46) = false := by rw [beq_eq_false_iff_ne]; exact h3
        clear h3
        by_cases hms : m < s.size
        · have hlm : (m : Int) < (s.size : Int) := by omega
          obtain ⟨c, hc⟩ : ∃ c, c = (s[m]'hms).toNat := ⟨_, rfl⟩
          have hgc : (s[m]'hms).toNat = c := hc.symm
          have hdm := drop_at s m hms
          have HDm := Lib.hid hdm
          clear hc hdm
          by_cases he : c = 101 ∨ c = 69
          · have hexp : Hid (expN (s.data.toList.drop m) = (match s.data.toList.drop (m + 1) with
                | [] => 0
                | d :: r' => if d.toNat = 43 ∨ d.toNat = 45 then (if dn r' = 0 then 0 else 2 + dn r') else if dn (d :: r') = 0 then 0 else 1 + dn (d :: r'))) := by
              rw [Hid, HDm.out]; exact expN_e _ _ (by rw [hgc]; exact he)
            have hdec : Hid (decN s.data.toList = m + expN (s.data.toList.drop m)) := by rw [Hid, decN, ← Hm.out, if_neg (by omega)]
            obtain ⟨p, hp⟩ : ∃ p, p = m + 1 := ⟨_, rfl⟩
            have hpi : (m : Int) + 1 = (p : Int) := by omega
            have Hp := Lib.hid hp
            have hps : p ≤ s.size := by omega
            rw [← hp] at hexp
            clear hp
            by_cases hpp : p < s.size
            · have hlp : (p : Int) < (s.size : Int) := by omega
              obtain ⟨d, hd⟩ : ∃ d, d = (s[p]'hpp).toNat := ⟨_, rfl⟩
              have hgd : (s[p]'hpp).toNat = d := hd.symm
              have hdp := drop_at s p hpp
              have HDp := Lib.hid hdp
              clear hd hdp
              by_cases hsg : d = 43 ∨ d = 45
              · obtain ⟨k, hk⟩ : ∃ k, k = dn (s.data.toList.drop (p + 1)) := ⟨_, rfl⟩
                have hkl : k ≤ s.size - (p + 1) := by rw [hk]; have := dn_le (s.data.toList.drop (p + 1)); rw [List.length_drop, hl] at this; exact this
                have hwr2 : IntKind.i64.wrap ((p : Int) + 1 + (k : Int)) = (p : Int) + 1 + (k : Int) := by rw [IntKind.wrap_i64]; omega
                have hex : Hid (decN s.data.toList = if k = 0 then m else m + (2 + k)) := by
                  rw [Hid, hdec.out, hexp.out, HDp.out]
                  simp only [hgd, if_pos hsg, ← hk]
                  by_cases hk0 : k = 0
                  · rw [if_pos hk0, if_pos hk0, Nat.add_zero]
                  · rw [if_neg hk0, if_neg hk0]
                have cK := CS.out (s.extract (p + 1) s.size) w (by rw [ByteArray.size_extract]; omega)
                rw [ext_drop, ← hk] at cK
                have CK := Lib.hid cK
                have hpq : (p : Int) + 1 ≤ (s.size : Int) := by omega
                clear cK hk
                rcases he with rfl | rfl
                all_goals
                  rcases hsg with rfl | rfl
                  all_goals
                    go_wp2_with fail
                    refine CK.out.mono ?_
                    rintro e wy ⟨rfl, hwy⟩
                    obtain rfl := hwy.symm
                    by_cases hk0 : k = 0
                    · have z1 : ¬ (0 : Int) < (k : Int) := by omega
                      have Hk0 := Lib.hid hk0
                      clear hk0
                      go_wp2_with fail
                      go_ret
                      exact ⟨by rw [hex.out, if_pos Hk0.out]; rfl, rfl⟩
                    · have z1 : (0 : Int) < (k : Int) := by omega
                      have Hk0 := Lib.hid hk0
                      clear hk0
                      go_wp2_with fail
                      go_ret
                      exact ⟨by rw [hex.out, if_neg Hk0.out]; refine congrArg (fun z : Int => Ending.returned (.int .i64 z)) ?_; have := Hp.out; go_num, rfl⟩
              · obtain ⟨k, hk⟩ : ∃ k, k = dn (s.data.toList.drop p) := ⟨_, rfl⟩
                have hkl : k ≤ s.size - p := by rw [hk]; have := dn_le (s.data.toList.drop p); rw [List.length_drop, hl] at this; exact this
                have hwr2 : IntKind.i64.wrap ((p : Int) + (k : Int)) = (p : Int) + (k : Int) := by rw [IntKind.wrap_i64]; omega
                have hex : Hid (decN s.data.toList = if k = 0 then m else m + (1 + k)) := by
                  rw [Hid, hdec.out, hexp.out, hk, HDp.out]
                  simp only [hgd, if_neg hsg]
                  by_cases hk0 : dn (s[p] :: s.data.toList.drop (p + 1)) = 0
                  · rw [if_pos hk0, if_pos hk0, Nat.add_zero]
                  · rw [if_neg hk0, if_neg hk0]
                have cK := CS.out (s.extract p s.size) w (by rw [ByteArray.size_extract]; omega)
                rw [ext_drop, ← hk] at cK
                have CK := Lib.hid cK
                have s1 : ((d : Int) == 43) = false := by rw [beq_eq_false_iff_ne]; omega
                have s2 : ((d : Int) == 45) = false := by rw [beq_eq_false_iff_ne]; omega
                have hpl : (p : Int) ≤ (s.size : Int) := by omega
                clear cK hk hsg
                rcases he with rfl | rfl
                all_goals
                  go_wp2_with fail
                  refine CK.out.mono ?_
                  rintro e wy ⟨rfl, hwy⟩
                  obtain rfl := hwy.symm
                  by_cases hk0 : k = 0
                  · have z1 : ¬ (0 : Int) < (k : Int) := by omega
                    have Hk0 := Lib.hid hk0
                    clear hk0
                    go_wp2_with fail
                    go_ret
                    exact ⟨by rw [hex.out, if_pos Hk0.out]; rfl, rfl⟩
                  · have z1 : (0 : Int) < (k : Int) := by omega
                    have Hk0 := Lib.hid hk0
                    clear hk0
                    go_wp2_with fail
                    go_ret
                    exact ⟨by rw [hex.out, if_neg Hk0.out]; refine congrArg (fun z : Int => Ending.returned (.int .i64 z)) ?_; have := Hp.out; go_num, rfl⟩
            · have hlp : ¬ (p : Int) < (s.size : Int) := by omega
              have hex : Hid (decN s.data.toList = m) := by rw [Hid, hdec.out, hexp.out, drop_out s p hpp]; rfl
              have cK := CS.out (s.extract p s.size) w (by rw [ByteArray.size_extract]; omega)
              rw [ext_drop, drop_out s p hpp] at cK
              have CK := Lib.hid cK
              have hpl : (p : Int) ≤ (s.size : Int) := by omega
              clear cK
              rcases he with rfl | rfl
              all_goals
                go_wp2_with fail
                refine CK.out.mono ?_
                rintro e wy ⟨rfl, hwy⟩
                obtain rfl := hwy.symm
                rw [show ((dn [] : Nat) : Int) = 0 from rfl]
                go_wp2_with fail
                go_ret
                exact ⟨by rw [hex.out]; rfl, rfl⟩
          · have e1 : ((c : Int) == 101) = false := by rw [beq_eq_false_iff_ne]; omega
            have e2 : ((c : Int) == 69) = false := by rw [beq_eq_false_iff_ne]; omega
            have hdec : Hid (decN s.data.toList = m) := by
              rw [Hid, decN, ← Hm.out, if_neg (by omega), HDm.out, expN_ne _ _ (by rw [hgc]; exact he), Nat.add_zero]
            clear he
            go_wp2_with fail
            go_ret
            exact ⟨by rw [hdec.out]; rfl, rfl⟩
        · exact absurd h1 hms
      · have hms : ¬ m < s.size := h1
        have hlm : ¬ (m : Int) < (s.size : Int) := by omega
        have hdec : Hid (decN s.data.toList = m) := by rw [Hid, decN, ← Hm.out, if_neg (by omega), drop_out s m hms, expN_nil, Nat.add_zero]
        go_wp2_with fail
        go_ret
        exact ⟨by rw [hdec.out]; rfl, rfl⟩
end Go.Proofs.YthplmbgdcfmkgaaGreatDoor
/- The reference: tokens. -/
namespace Go.Proofs.YthplmbgdcfmkgaaGreatDoor
open Go.RowKit Go.Proofs Go.Sort

/-- How many letters stand at the beginning. -/
def ln : List UInt8 → Nat
  | [] => 0
  | c :: l => if isL c.toNat then ln l + 1 else 0
theorem ln_le : ∀ l : List UInt8, ln l ≤ l.length := by
  intro l
  induction l with
  | nil => simp [ln]
  | cons c l ih =>
    rw [ln]
    split
    · simp; omega
    · simp
def isB (c : Nat) : Bool := decide (c = 32 ∨ c = 9 ∨ c = 10 ∨ c = 13)
def isS (c : Nat) : Bool := decide (c = 40 ∨ c = 41 ∨ c = 44 ∨ c = 45)
/-- How long a word or a decimal stands at the beginning. -/
def wordN (c : UInt8) (r : List UInt8) : Nat := if isL c.toNat then ln (c :: r) else decN (c :: r)
/-- The tokens of a text; j: a word or a decimal ends right ahead. -/
def cut (l : List UInt8) (j : Bool) : Option (List (Nat × ByteArray)) :=
  match l with
  | [] => some []
  | c :: r =>
    if isB c.toNat then cut r false
    else if isS c.toNat then
      if c.toNat = 45 ∧ j = true then none else (cut r false).map fun k => (c.toNat, ⟨#[c]⟩) :: k
    else
      if h : wordN c r = 0 ∨ j = true then none
      else (cut ((c :: r).drop (wordN c r)) true).map fun k => (if isL c.toNat then 97 else 49, ⟨((c :: r).take (wordN c r)).toArray⟩) :: k
termination_by l.length
decreasing_by all_goals (simp [List.length_drop]; try omega)
theorem cut_nil (j : Bool) : cut [] j = some [] := by rw [cut]
theorem cut_blank (c : UInt8) (r : List UInt8) (j : Bool) (h : isB c.toNat = true) : cut (c :: r) j = cut r false := by rw [cut]; rw [if_pos h]
theorem cut_sign (c : UInt8) (r : List UInt8) (j : Bool) (h0 : isB c.toNat = false) (h : isS c.toNat = true) (h1 : ¬ (c.toNat = 45 ∧ j = true)) : cut (c :: r) j = (cut r false).map fun k => (c.toNat, ⟨#[c]⟩) :: k := by
  rw [cut, if_neg (by rw [h0]; decide), if_pos h, if_neg h1]
theorem cut_bad (c : UInt8) (r : List UInt8) (h : c.toNat = 45) : cut (c :: r) true = none := by
  rw [cut, if_neg (by rw [h]; decide), if_pos (by rw [h]; decide), if_pos ⟨h, rfl⟩]
theorem cut_stop (c : UInt8) (r : List UInt8) (j : Bool) (h0 : isB c.toNat = false) (h1 : isS c.toNat = false) (h : wordN c r = 0 ∨ j = true) : cut (c :: r) j = none := by
  rw [cut, if_neg (by rw [h0]; decide), if_neg (by rw [h1]; decide), dif_pos h]
theorem cut_word (c : UInt8) (r : List UInt8) (j : Bool) (h0 : isB c.toNat = false) (h1 : isS c.toNat = false) (h : ¬ (wordN c r = 0 ∨ j = true)) : cut (c :: r) j = (cut ((c :: r).drop (wordN c r)) true).map fun k => (if isL c.toNat then 97 else 49, ⟨((c :: r).take (wordN c r)).toArray⟩) :: k := by
  rw [cut, if_neg (by rw [h0]; decide), if_neg (by rw [h1]; decide), dif_neg h]
/-- The cells of a row of tokens. -/
def tkc (l : List (Nat × ByteArray)) : List Value := l.flatMap fun p => [.int .u8 (p.1 : Int), .string p.2]
theorem tkc_app (l k : List (Nat × ByteArray)) : tkc (l ++ k) = tkc l ++ tkc k := by simp [tkc]
theorem tkc_one (a : Nat) (t : ByteArray) : tkc [(a, t)] = [.int .u8 (a : Int), .string t] := by simp [tkc]
theorem tok66 : ∃ i, Tryz.prog.info? 66 = some i ∧ i.zero = some (.agg #[.int .u8 0, .string ⟨#[]⟩]) ∧ i.size = 2 ∧ i.bytes = 24 := info_parts (P := Tryz.prog) (e := 66) (z := .agg #[.int .u8 0, .string ⟨#[]⟩]) (size := 2) (bytes := 24) (by kernel_rfl)
theorem append_tok {ops : Array Oper} {rest : List Oper} {o : Oper} {a : Act} {Q : Exit → Act → World → Prop} (hgd : o.guard = none) (s x : Operand)
    (ho : o.op = .call { callee := .builtin .append, args := #[s, x], argTypes := #[50, 50] }) (B : Nat) (v : Value) (n : Nat) (l : List (Nat × ByteArray)) (hs : a.eval s = v) (w0 : World) (k : Nat) (t : ByteArray)
    (hown : w0.ownsRow B 66 2 v n (tkc l)) (hx : a.eval x = .slice (some ⟨w0.heap.size, 0, none⟩) 1 1) (hlen : n ≤ 1000000) (hB : B ≤ w0.heap.size)
    (h : ∀ v' w', w'.ownsRow B 66 2 v' (n + 1) (tkc (l ++ [(k, t)])) → Below B w0 w' → wpList Tryz.prog ops Q rest (a.put o.dst v') w') : wpList Tryz.prog ops Q (o :: rest) a (w0.alloc (.cells #[.int .u8 (k : Int), .string t] 66)) := by
  obtain ⟨i0, hi, hz0, hz1, hz2⟩ := tok66
  have u50 : Tryz.prog.underlying 50 = some (.slice 66) := by kernel_rfl
  have hb' := hown.alloc (.cells #[.int .u8 (k : Int), .string t] 66)
  refine wpList_append_own _ hgd s x 50 ho B 66 i0 (.agg #[.int .u8 0, .string ⟨#[]⟩]) 2 24 u50 hi hz0 hz1 hz2 rfl (by decide) v n (tkc l) hs hb' ⟨w0.heap.size, 0, none⟩ 1 1 [.int .u8 (k : Int), .string t] hx rfl ?_ ?_ (by unfold maxLen; omega) (by omega) (by show B ≤ (w0.heap.push _).size; rw [Array.size_push]; omega) ?_
  · intro j u hj
    have hadd : (⟨w0.heap.size, 0, none⟩ : Addr).add j = ⟨w0.heap.size, j, none⟩ := by unfold Addr.add; split <;> simp_all
    rw [hadd, Lib.cell_of_heap (alloc_new w0 _), ← Array.getElem?_toList]
    exact hj
  · intro u hu
    rcases List.mem_cons.mp hu with rfl | hu
    · rfl
    · rcases List.mem_cons.mp hu with rfl | hu
      · rfl
      · exact absurd hu (by simp)
  · intro v' w' ho' hg _
    refine h v' w' ?_ ((alloc_below B w0 _ hB).trans ((Below.refl B _).grown hg (by show B ≤ (w0.heap.push _).size; rw [Array.size_push]; omega) (fun k hk => (hb'.lt k hk).1)))
    rw [tkc_app, tkc_one]
    exact ho'
end Go.Proofs.YthplmbgdcfmkgaaGreatDoor
