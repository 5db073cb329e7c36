/- The reference: tokens. -/
import Derived.Test.YthplmbgdcfmkgaaGreatDoorA22
import Derived.Lib.ConvBytes
import Derived.Lib.SlBytesRow
set_option linter.unusedVariables false
set_option linter.unusedSimpArgs false
/- The reference: tokens, the walk. -/
namespace Go.Proofs.YthplmbgdcfmkgaaGreatDoor
open Go.RowKit Go.Proofs Go.Sort

theorem ext_take (s : ByteArray) (i n : Nat) : s.extract i (i + n) = ⟨((s.data.toList.drop i).take n).toArray⟩ := by
  apply ByteArray.ext
  rw [ByteArray.data_extract]
  apply Array.ext'
  simp [List.drop_take]
def TokPost (s : ByteArray) (w : World) (e : Ending) (w' : World) : Prop :=
  Below w.heap.size w w' ∧ ((cut s.data.toList false = none ∧ e = .returned (.tuple #[.slice none 0 0, .bool false])) ∨ (∃ l v, cut s.data.toList false = some l ∧ e = .returned (.tuple #[v, .bool true]) ∧ w'.ownsRow w.heap.size 66 2 v l.length (tkc l) ∧ l.length ≤ s.size))
/-- What the loop over the text keeps. -/
def TokInv (s : ByteArray) (w : World) (i : Nat) (j : Bool) (v : Value) (l : List (Nat × ByteArray)) (wr : World) : Prop :=
  Below w.heap.size w wr ∧ l.length ≤ i ∧ wr.ownsRow w.heap.size 66 2 v l.length (tkc l) ∧ cut s.data.toList false = (cut (s.data.toList.drop i) j).map fun k => l ++ k
theorem TokInv.start (s : ByteArray) (w : World) : TokInv s w 0 false (.slice none 0 0) [] w := by
  refine ⟨Below.refl _ _, Nat.le_refl _, World.ownsRow_nil _ _ _ _, ?_⟩
  rw [List.drop_zero]
  simp
theorem TokInv.blank {s w i j v l wr} (h : TokInv s w i j v l wr) (hi : i < s.size) (hb : isB (s[i]'hi).toNat = true) : TokInv s w (i + 1) false v l wr := by
  refine ⟨h.1, Nat.le_succ_of_le h.2.1, h.2.2.1, ?_⟩
  rw [h.2.2.2, drop_at s i hi, cut_blank _ _ _ hb]
theorem TokInv.sign {s w i j v l wr v' w'} {c : Nat} (h : TokInv s w i j v l wr) (hi : i < s.size) (hc : (s[i]'hi).toNat = c) (hb : isS c = true) (hj : ¬ (c = 45 ∧ j = true)) (ho : w'.ownsRow w.heap.size 66 2 v' (l.length + 1) (tkc (l ++ [(c, s.extract i (i + 1))]))) (hB : Below w.heap.size wr w') :
    TokInv s w (i + 1) false v' (l ++ [(c, s.extract i (i + 1))]) w' := by
  have h0 : isB c = false := by
    unfold isS at hb; unfold isB
    simp only [decide_eq_true_eq] at hb
    simp only [decide_eq_false_iff_not]
    omega
  refine ⟨h.1.trans hB, by have := h.2.1; simp; omega, by simpa using ho, ?_⟩
  rw [h.2.2.2, drop_at s i hi, cut_sign _ _ _ (by rw [hc]; exact h0) (by rw [hc]; exact hb) (by rw [hc]; exact hj), Option.map_map]
  congr 1
  funext k
  rw [Function.comp, ext_take, drop_at s i hi, hc]
  simp
theorem TokInv.bad {s w i v l wr} (h : TokInv s w i true v l wr) (hi : i < s.size) (hc : (s[i]'hi).toNat = 45) : cut s.data.toList false = none := by
  rw [h.2.2.2, drop_at s i hi, cut_bad _ _ hc]; rfl
theorem expN_le (l : List UInt8) : expN l ≤ l.length := by
  unfold expN
  split
  · exact Nat.zero_le _
  · rename_i e r
    split
    · split
      · exact Nat.zero_le _
      · rename_i c r'
        have h1 := dn_le r'
        have h2 := dn_le (c :: r')
        simp only [List.length_cons] at h2 ⊢
        split
        · split <;> omega
        · split <;> omega
    · exact Nat.zero_le _
theorem mntN_le (l : List UInt8) : mntN l ≤ l.length := by
  unfold mntN
  have h1 := dn_le l
  split
  · exact h1
  · rename_i c r h
    have h2 : (l.drop (dn l)).length = r.length + 1 := by rw [h]; rfl
    have h3 := dn_le r
    rw [List.length_drop] at h2
    split
    · split <;> omega
    · exact h1
theorem decN_le (l : List UInt8) : decN l ≤ l.length := by
  unfold decN
  have h1 := mntN_le l
  have h2 := expN_le (l.drop (mntN l))
  rw [List.length_drop] at h2
  split <;> omega
/-- A word or a decimal of n bytes. -/
structure WAt (s : ByteArray) (i n c : Nat) : Prop where
  lt : i < s.size
  hc : (s[i]'lt).toNat = c
  nb : isB c = false
  ns : isS c = false
  wn : wordN (s[i]'lt) (s.data.toList.drop (i + 1)) = n
theorem TokInv.stop {s w i j v l wr} {n c : Nat} (h : TokInv s w i j v l wr) (a : WAt s i n c) (hn : n = 0 ∨ j = true) : cut s.data.toList false = none := by
  rw [h.2.2.2, drop_at s i a.lt, cut_stop _ _ _ (by rw [a.hc]; exact a.nb) (by rw [a.hc]; exact a.ns) (by rw [a.wn]; exact hn)]; rfl
theorem TokInv.word {s w i j v l wr v' w'} {n c k : Nat} (h : TokInv s w i j v l wr) (a : WAt s i n c) (hn : n ≠ 0) (hj : j = false) (hk : (if isL c then 97 else 49) = k) (ho : w'.ownsRow w.heap.size 66 2 v' (l.length + 1) (tkc (l ++ [(k, s.extract i (i + n))]))) (hB : Below w.heap.size wr w') :
    TokInv s w (i + n) true v' (l ++ [(k, s.extract i (i + n))]) w' := by
  refine ⟨h.1.trans hB, by have := h.2.1; simp; omega, by simpa using ho, ?_⟩
  rw [h.2.2.2, drop_at s i a.lt, cut_word _ _ _ (by rw [a.hc]; exact a.nb) (by rw [a.hc]; exact a.ns) (by rw [a.wn, hj]; simp; exact hn), Option.map_map]
  rw [a.wn, ← drop_at s i a.lt, List.drop_drop]
  congr 1
  funext m
  rw [Function.comp, ext_take, a.hc, hk]
  simp
theorem TokInv.done {s w i j v l wr} (h : TokInv s w i j v l wr) (hi : ¬ i < s.size) : cut s.data.toList false = some l := by
  rw [h.2.2.2, drop_out s i hi, cut_nil]; simp
set_option maxHeartbeats 4000000 in
set_option maxRecDepth 100000 in
theorem tokens_ok (s : ByteArray) (w : World) (hs : s.size ≤ 100000) : Calls Tryz.prog 17 #[.string s] w (TokPost s w) := by
  have hl : s.data.toList.length = s.size := by simp
  obtain ⟨H, hH⟩ : ∃ H, H = w.heap.size := ⟨_, rfl⟩
  have HH := Lib.hid hH
  clear hH
  go_enter Tryz.func17, Tryz.ntmps17
  go_wp2_with fail
  go_loopg [2, 4, 5, 6, 7] s.size (fun q sv sj si s6 s7 wr => ∃ (i : Nat) (j : Bool) (l : List (Nat × ByteArray)), i ≤ s.size ∧ q + i = s.size ∧ si = .int .i64 (i : Int) ∧ sj = .bool j ∧ Hid (TokInv s w i j sv l wr))
  case atStart => exact ⟨0, false, [], by omega, by omega, rfl, rfl, TokInv.start s w⟩
  case round =>
    obtain ⟨i, j, l, hi, hq, rfl, rfl, hI⟩ := hrel
    by_cases his : i < s.size
    · have hlt : (i : Int) < (s.size : Int) := by omega
      obtain ⟨c, hc⟩ : ∃ c, c = (s[i]'his).toNat := ⟨_, rfl⟩
      have hgc : (s[i]'his).toNat = c := hc.symm
      have Hgc := Lib.hid hgc
      clear hc
      by_cases hb : c = 32 ∨ c = 9 ∨ c = 10 ∨ c = 13
      · rcases hb with rfl | rfl | rfl | rfl
        all_goals
          go_wp2_with fail
          go_roundg (gk - 1)
          case measure => omega
          case rel => exact ⟨i + 1, false, l, by omega, by omega, by go_num, rfl, hI.out.blank his (by rw [Hgc.out]; rfl)⟩
      · have b1 : ((c : Int) == 32) = false := by rw [beq_eq_false_iff_ne]; omega
        have b2 : ((c : Int) == 9) = false := by rw [beq_eq_false_iff_ne]; omega
        have b3 : ((c : Int) == 10) = false := by rw [beq_eq_false_iff_ne]; omega
        have b4 : ((c : Int) == 13) = false := by rw [beq_eq_false_iff_ne]; omega
        have Hnb : Hid (isB c = false) := by rw [Hid, isB]; exact decide_eq_false hb
        have hkw : Hid (Below w.heap.size w wr) := hI.out.1
        have hln : l.length ≤ 100000 := Nat.le_trans hI.out.2.1 (by omega)
        have hBr : w.heap.size ≤ wr.heap.size := hI.out.1.size
        have hi1 : (i : Int) + 1 ≤ (s.size : Int) := by omega
        clear hb
        by_cases hs4 : c = 40 ∨ c = 41 ∨ c = 44
        · have Hs : Hid (isS c = true) := by rw [Hid, isS]; exact decide_eq_true (by omega)
          rcases hs4 with rfl | rfl | rfl
          all_goals
            go_wp2_with (at_builtin; refine append_tok rfl _ _ rfl w.heap.size u2 l.length l rfl wr _ _ hI.out.2.2.1 rfl (by omega) hBr ?_; intro v4 w4 hO4 hB4)
            have HO4 := Lib.hid hO4
            have HB4 := Lib.hid hB4
            clear hO4 hB4
            go_wp2_with fail
            go_roundg (gk - 1)
            case measure => omega
            case rel => exact ⟨i + 1, false, _, by omega, by omega, by go_num, rfl, hI.out.sign his Hgc.out Hs.out (by omega) HO4.out HB4.out⟩
        · by_cases h45 : c = 45
          · obtain rfl := h45
            cases j with
            | true =>
              go_wp2_with fail
              go_ret2
              exact ⟨hkw.out, Or.inl ⟨hI.out.bad his Hgc.out, rfl⟩⟩
            | false =>
              go_wp2_with (at_builtin; refine append_tok rfl _ _ rfl w.heap.size u2 l.length l rfl wr _ _ hI.out.2.2.1 rfl (by omega) hBr ?_; intro v4 w4 hO4 hB4)
              have HO4 := Lib.hid hO4
              have HB4 := Lib.hid hB4
              clear hO4 hB4
              go_wp2_with fail
              go_roundg (gk - 1)
              case measure => omega
              case rel => exact ⟨i + 1, false, _, by omega, by omega, by go_num, rfl, hI.out.sign his Hgc.out (by rfl) (by simp) HO4.out HB4.out⟩
          · have s1 : ((c : Int) == 40) = false := by rw [beq_eq_false_iff_ne]; omega
            have s2 : ((c : Int) == 41) = false := by rw [beq_eq_false_iff_ne]; omega
            have s3 : ((c : Int) == 44) = false := by rw [beq_eq_false_iff_ne]; omega
            have s4 : ((c : Int) == 45) = false := by rw [beq_eq_false_iff_ne]; omega
            have Hns : Hid (isS c = false) := by rw [Hid, isS]; exact decide_eq_false (by omega)
            have CL := fun (W : World) => letter_ok c W
            have HCL := Lib.hid CL
            clear CL hs4 h45
            go_wp2_with fail
            refine (HCL.out _).mono ?_
            rintro e w1 ⟨rfl, hw⟩
            obtain rfl := hw.symm
            obtain ⟨b, hb⟩ : ∃ b, b = isL c := ⟨_, rfl⟩
            have Hb := Lib.hid hb
            rw [← hb]
            clear hb
            cases b with
            | true =>
              obtain ⟨N, hN⟩ : ∃ N, N = ln (s.data.toList.drop i) := ⟨_, rfl⟩
              have HN := Lib.hid hN
              have hNl : N ≤ s.size - i := by rw [hN]; have := ln_le (s.data.toList.drop i); rw [List.length_drop, hl] at this; exact this
              have Hw : Hid (WAt s i N c) := ⟨his, Hgc.out, Hnb.out, Hns.out, by rw [wordN, Hgc.out, if_pos Hb.out.symm, ← drop_at s i his]; exact HN.out.symm⟩
              have hN0 : Hid (N ≠ 0) := by
                rw [Hid, HN.out, drop_at s i his, ln, Hgc.out, if_pos Hb.out.symm]; omega
              clear hN
              go_wp2_with fail
              have HN0 := hN0
              have hK : Hid ((if isL c then 97 else 49) = 97) := by rw [Hid, ← Hb.out]; rfl
              go_loopg [7] N (fun q s7 wq => ∃ n : Nat, n ≤ N ∧ q + n = N ∧ s7 = .int .i64 (n : Int) ∧ Hid (N = n + ln (s.data.toList.drop (i + n))) ∧ Hid (wq = wr))
              case atStart => exact ⟨0, by omega, by omega, rfl, by rw [Hid, Nat.zero_add, Nat.add_zero]; exact HN.out, rfl⟩
              case round =>
                obtain ⟨n, hnN, hq2, rfl, hd, hww⟩ := hrel
                obtain rfl := hww.out.symm
                have hwn : IntKind.i64.wrap ((i : Int) + (n : Int)) = (i : Int) + (n : Int) := by rw [IntKind.wrap_i64]; omega
                by_cases his2 : i + n < s.size
                · have hlt2 : (i : Int) + (n : Int) < (s.size : Int) := by omega
                  obtain ⟨d, hdd⟩ : ∃ d, d = (s[i + n]'his2).toNat := ⟨_, rfl⟩
                  have hgd : (s[i + n]'his2).toNat = d := hdd.symm
                  have Hgd := Lib.hid hgd
                  have CL := fun (W : World) => letter_ok d W
                  have HCL2 := Lib.hid CL
                  clear CL hdd
                  go_wp2_with fail
                  refine (HCL2.out _).mono ?_
                  rintro e w1 ⟨rfl, hw⟩
                  obtain rfl := hw.symm
                  obtain ⟨b, hb⟩ : ∃ b, b = isL d := ⟨_, rfl⟩
                  have Hb2 := Lib.hid hb
                  rw [← hb]
                  clear hb
                  cases b with
                  | true =>
                    have hst : Hid (N = n + 1 + ln (s.data.toList.drop (i + (n + 1)))) := by
                      rw [Hid, hd.out, drop_at s (i + n) his2, ln, Hgd.out, if_pos Hb2.out.symm, Nat.add_assoc i n 1]; omega
                    have hn1 : n + 1 ≤ N := by have := hst.out; omega
                    go_wp2_with fail
                    go_roundg (gk - 1)
                    case measure => omega
                    case rel => exact ⟨n + 1, by omega, by omega, by go_num, hst, rfl⟩
                  | false =>
                    have hst : n = N := by
                      have := hd.out
                      rw [drop_at s (i + n) his2, ln, Hgd.out, if_neg (by rw [← Hb2.out]; decide)] at this; omega
                    obtain rfl := hst.symm
                    have hni : (i : Int) + (N : Int) ≤ (s.size : Int) := by omega
                    have hwr : IntKind.i64.wrap ((i : Int) + (N : Int)) = (i : Int) + (N : Int) := by rw [IntKind.wrap_i64]; omega
                    by_cases hN0 : N = 0
                    · exact absurd hN0 HN0.out
                    · have z0 : ((N : Int) == 0) = false := by rw [beq_eq_false_iff_ne]; omega
                      cases j with
                      | true =>
                        go_wp2_with (at_builtin; refine append_tok rfl _ _ rfl w.heap.size u2 l.length l rfl wr _ _ hI.out.2.2.1 rfl (by omega) hBr ?_; intro v4 w4 hO4 hB4)
                        have HO4 := Lib.hid hO4
                        have HB4 := Lib.hid hB4
                        clear hO4 hB4
                        go_ret2
                        exact ⟨hkw.out.trans HB4.out, Or.inl ⟨hI.out.stop Hw.out (Or.inr rfl), rfl⟩⟩
                      | false =>
                        go_wp2_with (at_builtin; refine append_tok rfl _ _ rfl w.heap.size u2 l.length l rfl wr _ _ hI.out.2.2.1 rfl (by omega) hBr ?_; intro v4 w4 hO4 hB4)
                        have HO4 := Lib.hid hO4
                        have HB4 := Lib.hid hB4
                        clear hO4 hB4
                        go_roundg (s.size - i - N)
                        case measure => omega
                        case rel => exact ⟨i + N, true, _, by omega, by omega, by go_num, rfl, hI.out.word Hw.out hN0 rfl hK.out HO4.out HB4.out⟩
                · have hlt2 : ¬ (i : Int) + (n : Int) < (s.size : Int) := by omega
                  have hst : n = N := by omega
                  obtain rfl := hst.symm
                  have hni : (i : Int) + (N : Int) ≤ (s.size : Int) := by omega
                  have hwr : IntKind.i64.wrap ((i : Int) + (N : Int)) = (i : Int) + (N : Int) := by rw [IntKind.wrap_i64]; omega
                  by_cases hN0 : N = 0
                  · exact absurd hN0 HN0.out
                  · have z0 : ((N : Int) == 0) = false := by rw [beq_eq_false_iff_ne]; omega
                    cases j with
                    | true =>
                      go_wp2_with (at_builtin; refine append_tok rfl _ _ rfl w.heap.size u2 l.length l rfl wr _ _ hI.out.2.2.1 rfl (by omega) hBr ?_; intro v4 w4 hO4 hB4)
                      have HO4 := Lib.hid hO4
                      have HB4 := Lib.hid hB4
                      clear hO4 hB4
                      go_ret2
                      exact ⟨hkw.out.trans HB4.out, Or.inl ⟨hI.out.stop Hw.out (Or.inr rfl), rfl⟩⟩
                    | false =>
                      go_wp2_with (at_builtin; refine append_tok rfl _ _ rfl w.heap.size u2 l.length l rfl wr _ _ hI.out.2.2.1 rfl (by omega) hBr ?_; intro v4 w4 hO4 hB4)
                      have HO4 := Lib.hid hO4
                      have HB4 := Lib.hid hB4
                      clear hO4 hB4
                      go_roundg (s.size - i - N)
                      case measure => omega
                      case rel => exact ⟨i + N, true, _, by omega, by omega, by go_num, rfl, hI.out.word Hw.out hN0 rfl hK.out HO4.out HB4.out⟩
            | false =>
              obtain ⟨N, hN⟩ : ∃ N, N = decN (s.data.toList.drop i) := ⟨_, rfl⟩
              have HN := Lib.hid hN
              have Hw : Hid (WAt s i N c) := ⟨his, Hgc.out, Hnb.out, Hns.out, by rw [wordN, Hgc.out, if_neg (by rw [← Hb.out]; decide), ← drop_at s i his]; exact HN.out.symm⟩
              have hNl : N ≤ s.size - i := by rw [hN]; have := decN_le (s.data.toList.drop i); rw [List.length_drop, hl] at this; exact this
              have cD := fun (W : World) => decimal_ok (s.extract i s.size) W (by rw [ByteArray.size_extract]; omega)
              unfold DecPost at cD
              rw [ext_drop, ← hN] at cD
              have CD := Lib.hid cD
              have hni : (i : Int) + (N : Int) ≤ (s.size : Int) := by omega
              have hii : (i : Int) ≤ (s.size : Int) := by omega
              have hwr : IntKind.i64.wrap ((i : Int) + (N : Int)) = (i : Int) + (N : Int) := by rw [IntKind.wrap_i64]; omega
              have hK : Hid ((if isL c then 97 else 49) = 49) := by rw [Hid, ← Hb.out]; rfl
              clear cD hN
              go_wp2_with fail
              refine (CD.out _).mono ?_
              rintro e w1 ⟨rfl, hw⟩
              obtain rfl := hw.symm
              by_cases hN0 : N = 0
              · have z0 : ((N : Int) == 0) = true := by rw [beq_iff_eq]; omega
                have H0 := Lib.hid hN0
                clear hN0
                go_wp2_with (at_builtin; refine append_tok rfl _ _ rfl w.heap.size u2 l.length l rfl wr _ _ hI.out.2.2.1 rfl (by omega) hBr ?_; intro v4 w4 hO4 hB4)
                have HO4 := Lib.hid hO4
                have HB4 := Lib.hid hB4
                clear hO4 hB4
                go_ret2
                exact ⟨hkw.out.trans HB4.out, Or.inl ⟨hI.out.stop Hw.out (Or.inl H0.out), rfl⟩⟩
              · have z0 : ((N : Int) == 0) = false := by rw [beq_eq_false_iff_ne]; omega
                cases j with
                | true =>
                  go_wp2_with (at_builtin; refine append_tok rfl _ _ rfl w.heap.size u2 l.length l rfl wr _ _ hI.out.2.2.1 rfl (by omega) hBr ?_; intro v4 w4 hO4 hB4)
                  have HO4 := Lib.hid hO4
                  have HB4 := Lib.hid hB4
                  clear hO4 hB4
                  go_ret2
                  exact ⟨hkw.out.trans HB4.out, Or.inl ⟨hI.out.stop Hw.out (Or.inr rfl), rfl⟩⟩
                | false =>
                  go_wp2_with (at_builtin; refine append_tok rfl _ _ rfl w.heap.size u2 l.length l rfl wr _ _ hI.out.2.2.1 rfl (by omega) hBr ?_; intro v4 w4 hO4 hB4)
                  have HO4 := Lib.hid hO4
                  have HB4 := Lib.hid hB4
                  clear hO4 hB4
                  go_roundg (s.size - i - N)
                  case measure => omega
                  case rel => exact ⟨i + N, true, _, by omega, by omega, by go_num, rfl, hI.out.word Hw.out hN0 rfl hK.out HO4.out HB4.out⟩
    · have hlt : ¬ (i : Int) < (s.size : Int) := by omega
      go_wp2_with fail
      go_ret2
      exact ⟨hI.out.1, Or.inr ⟨l, _, hI.out.done his, rfl, hI.out.2.2.1, Nat.le_trans hI.out.2.1 hi⟩⟩
end Go.Proofs.YthplmbgdcfmkgaaGreatDoor
/- The reference: capitals. -/
namespace Go.Proofs.YthplmbgdcfmkgaaGreatDoor
open Go.RowKit Go.Proofs Go.Sort

def upn (c : Nat) : Nat := if 97 ≤ c ∧ c ≤ 122 then c - 32 else c
theorem upn_lt {c : Nat} (h : c < 256) : upn c < 256 := by unfold upn; split <;> omega
/-- A word in capitals. -/
def upS (s : ByteArray) : ByteArray := ⟨(s.data.toList.map fun c => UInt8.ofNat (upn c.toNat)).toArray⟩
theorem upS_size (s : ByteArray) : (upS s).size = s.size := by
  show (s.data.toList.map fun c => UInt8.ofNat (upn c.toNat)).toArray.size = s.data.size
  rw [List.size_toArray, List.length_map, Array.length_toList]
theorem upS_at (s : ByteArray) (i : Nat) (h : i < s.size) (h' : i < (upS s).size) : ((upS s)[i]'h').toNat = upn (s[i]'h).toNat := by
  have e : (upS s).data[i]? = some (UInt8.ofNat (upn (s[i]'h).toNat)) := by
    show (s.data.toList.map fun c => UInt8.ofNat (upn c.toNat)).toArray[i]? = _
    rw [List.getElem?_toArray, List.getElem?_map, Array.getElem?_toList]
    have h2 : s.data[i]? = some (s[i]'h) := Array.getElem?_eq_getElem h
    rw [h2]; rfl
  have e2 : (upS s).data[i]? = some ((upS s)[i]'h') := Array.getElem?_eq_getElem h'
  rw [Option.some.inj (e2.symm.trans e)]
  rw [UInt8.toNat_ofNat']
  exact Nat.mod_eq_of_lt (upn_lt (s[i]'h).toNat_lt)
/-- What the loop keeps. -/
structure UpI (s : ByteArray) (w : World) (b j : Nat) (wr : World) : Prop where
  below : Below w.heap.size w wr
  lo : w.heap.size ≤ b
  cell : ∀ i (h : i < s.size), wr.cell? ⟨b, i, none⟩ = some (.int .u8 ((if i < j then upn (s[i]'h).toNat else (s[i]'h).toNat : Nat) : Int))
  fro : ∀ i, i < s.size → wr.frozen? ⟨b, i, none⟩ = false
theorem UpI.set {s w b j wr} (h : UpI s w b j wr) (hj : j < s.size) (z : Int) (hz : z = (upn (s[j]'hj).toNat : Int)) : UpI s w b (j + 1) (wr.setCell ⟨b, j, none⟩ (.int .u8 z)) := by
  refine ⟨h.below.setCell (p := ⟨b, j, none⟩) h.lo _, h.lo, ?_, fun i hi => frozen_set.trans (h.fro i hi)⟩
  intro i hi
  by_cases hij : i = j
  · subst hij
    rw [cell_set_same (h.cell i hi), if_pos (by omega), hz]
  · rw [cell_set_ne (fun e => hij e.symm), h.cell i hi]
    by_cases h1 : i < j
    · rw [if_pos h1, if_pos (by omega)]
    · rw [if_neg h1, if_neg (by omega)]
theorem UpI.skip {s w b j wr} (h : UpI s w b j wr) (hj : j < s.size) (hz : upn (s[j]'hj).toNat = (s[j]'hj).toNat) : UpI s w b (j + 1) wr := by
  refine ⟨h.below, h.lo, ?_, h.fro⟩
  intro i hi
  rw [h.cell i hi]
  by_cases hij : i = j
  · subst hij
    rw [if_neg (by omega), if_pos (by omega), hz]
  · by_cases h1 : i < j
    · rw [if_pos h1, if_pos (by omega)]
    · rw [if_neg h1, if_neg (by omega)]
theorem UpI.start (s : ByteArray) (w : World) : UpI s w w.heap.size 0 (Lib.bytesWorld w 5 s) := by
  refine ⟨⟨rfl, rfl, rfl, by rw [Lib.bytesWorld_size]; omega, fun k hk => Lib.bytesWorld_at_old w 5 s k hk⟩, Nat.le_refl _, ?_, ?_⟩
  · intro i hi
    rw [Lib.bytesWorld_cell w 5 s i hi, if_neg (by omega)]
    congr 3
    have : s.data.toList[i]? = some (s[i]'hi) := by rw [Array.getElem?_toList]; exact Array.getElem?_eq_getElem hi
    simp [List.getD, this]
  · intro i hi
    have hsz : i < (Lib.bytesCells w 5 s).size := by
      have h1 : s.data.size = s.size := rfl
      simp only [Lib.bytesCells, Array.size_append, Array.size_map, Array.size_replicate]
      omega
    simp only [World.frozen?, Lib.bytesWorld_at_new]
    simp
    omega
theorem UpI.bytes {s w b wr} (h : UpI s w b s.size wr) : Lib.Bytes wr b 0 (upS s) := by
  intro i hi
  have h1 : i < s.size := by rw [← upS_size]; exact hi
  rw [Nat.zero_add, h.cell i h1, if_pos h1, upS_at s i h1 hi]
set_option maxHeartbeats 2000000 in
set_option maxRecDepth 100000 in
theorem upper_ok (s : ByteArray) (w : World) (hs : s.size ≤ 100000) : Calls Tryz.prog 26 #[.string s] w (fun e w' => e = .returned (.string (upS s)) ∧ Below w.heap.size w w') := by
  have hl : s.data.toList.length = s.size := by simp
  have ty9 : Tryz.prog.underlying 9 = some .string := by kernel_rfl
  have ty81 : Tryz.prog.underlying 81 = some (.slice 5) := by kernel_rfl
  have ty5 : Tryz.prog.underlying 5 = some (.int .u8) := by kernel_rfl
  have hcv := fun (W : World) => Lib.run_convert_string_bytes (P := Tryz.prog) W 9 81 5 s ty9 ty81 ty5
  obtain ⟨b, hb⟩ : ∃ b, b = w.heap.size := ⟨_, rfl⟩
  obtain ⟨cap, hcap⟩ : ∃ cap, cap = grownCap w s.size 0 5 := ⟨_, rfl⟩
  obtain ⟨w1, hw1⟩ : ∃ w1, w1 = Lib.bytesWorld w 5 s := ⟨_, rfl⟩
  have hcw := hcv w
  rw [← hb, ← hcap, ← hw1] at hcw
  have H0 : Hid (UpI s w b 0 w1) := by rw [Hid, hw1, hb]; exact UpI.start s w
  clear hcv hb hcap hw1
  go_enter Tryz.func26, Tryz.ntmps26
  go_wp2_with fail
  go_loopg [4, 5, 10] s.size (fun q s4 s5 s10 wr => ∃ j : Nat, j ≤ s.size ∧ q + j = s.size ∧ s10 = .int .i64 (j : Int) ∧ Hid (UpI s w b j wr))
  case atStart => exact ⟨0, by omega, by omega, rfl, H0⟩
  case round =>
    obtain ⟨j, hj, hq, rfl, hI⟩ := hrel
    by_cases hjs : j < s.size
    · have hlt : (j : Int) < (s.size : Int) := by omega
      obtain ⟨c, hc⟩ : ∃ c, c = (s[j]'hjs).toNat := ⟨_, rfl⟩
      have Hc := Lib.hid hc
      have hc256 : c < 256 := by rw [hc]; exact (s[j]'hjs).toNat_lt
      have hcell : wr.cell? ⟨b, j, none⟩ = some (.int .u8 (c : Int)) := by have := hI.out.cell j hjs; rw [if_neg (by omega), ← hc] at this; exact this
      have hfr := hI.out.fro j hjs
      clear hc
      by_cases h1 : 97 ≤ c
      · have i1 : (97 : Int) ≤ (c : Int) := by omega
        by_cases h2 : c ≤ 122
        · have i2 : (c : Int) ≤ 122 := by omega
          have hup : Hid ((c : Int) - 32 = (upn (s[j]'hjs).toNat : Int)) := by rw [Hid, ← Hc.out, upn, if_pos ⟨h1, h2⟩]; omega
          go_wp2_with fail
          go_roundg (gk - 1)
          case measure => omega
          case rel => exact ⟨j + 1, by omega, by omega, by go_num, hI.out.set hjs _ (by rw [← hup.out]; go_num)⟩
        · have i2 : ¬ (c : Int) ≤ 122 := by omega
          have hup : Hid (upn (s[j]'hjs).toNat = (s[j]'hjs).toNat) := by rw [Hid, ← Hc.out, upn, if_neg (by omega)]
          go_wp2_with fail
          go_roundg (gk - 1)
          case measure => omega
          case rel => exact ⟨j + 1, by omega, by omega, by go_num, hI.out.skip hjs hup.out⟩
      · have i1 : ¬ (97 : Int) ≤ (c : Int) := by omega
        have hup : Hid (upn (s[j]'hjs).toNat = (s[j]'hjs).toNat) := by rw [Hid, ← Hc.out, upn, if_neg (by omega)]
        go_wp2_with fail
        go_roundg (gk - 1)
        case measure => omega
        case rel => exact ⟨j + 1, by omega, by omega, by go_num, hI.out.skip hjs hup.out⟩
    · have hlt : ¬ (j : Int) < (s.size : Int) := by omega
      have hje : j = s.size := by omega
      have hconv : Sem.run Tryz.prog (convert 81 9 (.slice (some ⟨b, 0, none⟩) s.size cap)) wr = .ok (.string (upS s)) wr := by
        have := Lib.run_convert_whole (P := Tryz.prog) wr 81 5 9 ty81 ty5 ty9 b 0 (upS s) (UpI.bytes (hje ▸ hI.out)) cap
        rw [upS_size] at this
        exact this
      go_wp2_with fail
      go_ret
      exact ⟨rfl, hI.out.below⟩
end Go.Proofs.YthplmbgdcfmkgaaGreatDoor
/- The reference: a 0 ahead of a digit. -/
namespace Go.Proofs.YthplmbgdcfmkgaaGreatDoor
open Go.RowKit Go.Proofs Go.Sort

/-- Behind an e stands something; behind its sign too. -/
def Expd (t : ByteArray) : Prop := ∀ i (h : i < t.size), ((t[i]'h).toNat = 101 ∨ (t[i]'h).toNat = 69) → ∃ h1 : i + 1 < t.size, ((t[i + 1]'h1).toNat = 43 ∨ (t[i + 1]'h1).toNat = 45) → i + 2 < t.size
/-- A 0 stands ahead of a digit at the beginning. -/
def Lead (t : ByteArray) : Prop := ∃ h : 1 < t.size, (t[0]'(by omega)).toNat = 48 ∧ dn (t.data.toList.drop 1) ≠ 0
def PadPost (s : ByteArray) (w : World) (e : Ending) (w' : World) : Prop := (∃ b, e = .returned (.bool b) ∧ (Lead s → b = true)) ∧ w' = w
set_option maxHeartbeats 2000000 in
set_option maxRecDepth 100000 in
theorem padded_ok (s : ByteArray) (w : World) (hs : s.size ≤ 100000) (hx : Expd s) : Calls Tryz.prog 27 #[.string s] w (PadPost s w) := by
  have HX := Lib.hid hx
  obtain ⟨k, hk⟩ : ∃ k, k = dn (s.data.toList.drop 1) := ⟨_, rfl⟩
  have Hk := Lib.hid hk
  have hl : s.data.toList.length = s.size := by simp
  have cD : ∀ W : World, 1 ≤ s.size → Calls Tryz.prog 51 #[.string (s.extract 1 s.size)] W fun e w' => e = .returned (.int .i64 (k : Int)) ∧ w' = W := by
    intro W h1
    have := sdigits_ok (s.extract 1 s.size) W (by rw [ByteArray.size_extract]; omega)
    rw [ext_drop, ← hk] at this
    exact this
  have CD := Lib.hid cD
  clear hx hk cD
  by_cases hL : Lead s
  · have HL := Lib.hid hL
    obtain ⟨h1, h2, h3⟩ := hL
    have hlt : (1 : Int) < (s.size : Int) := by omega
    have hk0 : (0 : Int) < (k : Int) := by have := Hk.out; omega
    have hle : (1 : Int) ≤ (s.size : Int) := by omega
    have cE := fun W : World => CD.out W (by omega)
    have CE := Lib.hid cE
    clear h3 cE
    go_enter Tryz.func27, Tryz.ntmps27
    go_wp2_with fail
    refine (CE.out _).mono ?_
    rintro e wx ⟨rfl, hwx⟩
    obtain rfl := hwx.symm
    go_wp2_with fail
    go_ret
    exact ⟨⟨true, rfl, fun _ => rfl⟩, rfl⟩
  · have HL := Lib.hid hL
    have hgo : Hid (∀ (i : Nat) (h : i < s.size), ((s[i]'h).toNat = 101 ∨ (s[i]'h).toNat = 69) → ∃ h1 : i + 1 < s.size, ((s[i + 1]'h1).toNat = 43 ∨ (s[i + 1]'h1).toNat = 45) → i + 2 < s.size) := HX.out
    have hno : ¬ 1 < s.size ∨ (∃ h : 1 < s.size, (s[0]'(by omega)).toNat ≠ 48) ∨ (∃ h : 1 < s.size, (s[0]'(by omega)).toNat = 48 ∧ k = 0) := by
      by_cases h1 : 1 < s.size
      · by_cases h2 : (s[0]'(by omega)).toNat = 48
        · refine Or.inr (Or.inr ⟨h1, h2, ?_⟩)
          rcases Nat.eq_zero_or_pos k with h | h
          · exact h
          · exact absurd ⟨h1, h2, by rw [← Hk.out]; omega⟩ hL
        · exact Or.inr (Or.inl ⟨h1, h2⟩)
      · exact Or.inl h1
    clear hL
    rcases hno with h1 | ⟨h1, h2⟩ | ⟨h1, h2, h3⟩
    · have hlt : ¬ (1 : Int) < (s.size : Int) := by omega
      go_enter Tryz.func27, Tryz.ntmps27
      go_wp2_with fail
      go_loopg [3, 4, 21] s.size (fun q s3 s4 s21 wr => ∃ i : Nat, i ≤ s.size ∧ q + i = s.size ∧ s21 = .int .i64 (i : Int) ∧ Hid (wr = w))
      case atStart => exact ⟨0, by omega, by omega, rfl, rfl⟩
      case round =>
        obtain ⟨i, hi, hq, rfl, hww⟩ := hrel
        obtain rfl := hww.out.symm
        by_cases his : i < s.size
        · have hli : (i : Int) < (s.size : Int) := by omega
          obtain ⟨c, hc⟩ : ∃ c, c = (s[i]'his).toNat := ⟨_, rfl⟩
          have hgc : (s[i]'his).toNat = c := hc.symm
          by_cases he : c = 101 ∨ c = 69
          · obtain ⟨h1', hsg⟩ := hgo.out i his (by rw [hgc]; exact he)
            exact absurd h1' (by omega)
          · have e1 : ((c : Int) == 101) = false := by rw [beq_eq_false_iff_ne]; omega
            have e2 : ((c : Int) == 69) = false := by rw [beq_eq_false_iff_ne]; omega
            clear he hc
            go_wp2_with fail
            go_roundg (gk - 1)
            case measure => omega
            case rel => exact ⟨i + 1, by omega, by omega, by go_num, rfl⟩
        · have hli : ¬ (i : Int) < (s.size : Int) := by omega
          go_wp2_with fail
          go_ret
          exact ⟨⟨_, rfl, fun h => absurd h HL.out⟩, rfl⟩
    · have hlt : (1 : Int) < (s.size : Int) := by omega
      have h2' : (((s[0]'(by omega)).toNat : Int) == 48) = false := by rw [beq_eq_false_iff_ne]; omega
      clear h2
      go_enter Tryz.func27, Tryz.ntmps27
      go_wp2_with fail
      go_loopg [3, 4, 21] s.size (fun q s3 s4 s21 wr => ∃ i : Nat, i ≤ s.size ∧ q + i = s.size ∧ s21 = .int .i64 (i : Int) ∧ Hid (wr = w))
      case atStart => exact ⟨0, by omega, by omega, rfl, rfl⟩
      case round =>
        obtain ⟨i, hi, hq, rfl, hww⟩ := hrel
        obtain rfl := hww.out.symm
        by_cases his : i < s.size
        · have hli : (i : Int) < (s.size : Int) := by omega
          obtain ⟨c, hc⟩ : ∃ c, c = (s[i]'his).toNat := ⟨_, rfl⟩
          have hgc : (s[i]'his).toNat = c := hc.symm
          by_cases he : c = 101 ∨ c = 69
          · obtain ⟨h1', hsg⟩ := hgo.out i his (by rw [hgc]; exact he)
            have hl1 : (i : Int) + 1 < (s.size : Int) := by omega
            obtain ⟨d, hd⟩ : ∃ d, d = (s[i + 1]'h1').toNat := ⟨_, rfl⟩
            have hgd : (s[i + 1]'h1').toNat = d := hd.symm
            have hi1 : IntKind.i64.wrap ((i : Int) + 1) = (i : Int) + 1 := by rw [IntKind.wrap_i64]; omega
            have hi2 : IntKind.i64.wrap ((i : Int) + 1 + 1) = (i : Int) + 2 := by rw [IntKind.wrap_i64]; omega
            rw [hgd] at hsg
            clear hc hd
            by_cases hs2 : d = 43 ∨ d = 45
            · have h2' := hsg hs2
              have hl2 : (i : Int) + 2 < (s.size : Int) := by omega
              obtain ⟨f, hf⟩ : ∃ f, f = (s[i + 2]'h2').toNat := ⟨_, rfl⟩
              have hgf : (s[i + 2]'h2').toNat = f := hf.symm
              clear hf hsg
              have hf2 : ((f : Int) == 48) = true ∨ ((f : Int) == 48) = false := by cases (f : Int) == 48 <;> simp
              have hl3 : (i : Int) + 3 < (s.size : Int) ∨ ¬ (i : Int) + 3 < (s.size : Int) := by omega
              rcases he with rfl | rfl
              all_goals
                rcases hs2 with rfl | rfl
                all_goals
                  rcases hf2 with hf2 | hf2
                  all_goals
                    rcases hl3 with hl3 | hl3
                    all_goals
                      go_wp2_with fail
                      go_ret
                      exact ⟨⟨_, rfl, fun h => absurd h HL.out⟩, rfl⟩
            · have d1 : ((d : Int) == 43) = false := by rw [beq_eq_false_iff_ne]; omega
              have d2 : ((d : Int) == 45) = false := by rw [beq_eq_false_iff_ne]; omega
              have hf2 : ((d : Int) == 48) = true ∨ ((d : Int) == 48) = false := by cases (d : Int) == 48 <;> simp
              have hl3 : (i : Int) + 2 < (s.size : Int) ∨ ¬ (i : Int) + 2 < (s.size : Int) := by omega
              clear hsg hs2
              rcases he with rfl | rfl
              all_goals
                rcases hf2 with hf2 | hf2
                all_goals
                  rcases hl3 with hl3 | hl3
                  all_goals
                    go_wp2_with fail
                    go_ret
                    exact ⟨⟨_, rfl, fun h => absurd h HL.out⟩, rfl⟩
          · have e1 : ((c : Int) == 101) = false := by rw [beq_eq_false_iff_ne]; omega
            have e2 : ((c : Int) == 69) = false := by rw [beq_eq_false_iff_ne]; omega
            clear he hc
            go_wp2_with fail
            go_roundg (gk - 1)
            case measure => omega
            case rel => exact ⟨i + 1, by omega, by omega, by go_num, rfl⟩
        · have hli : ¬ (i : Int) < (s.size : Int) := by omega
          go_wp2_with fail
          go_ret
          exact ⟨⟨_, rfl, fun h => absurd h HL.out⟩, rfl⟩
    · have hlt : (1 : Int) < (s.size : Int) := by omega
      have hle : (1 : Int) ≤ (s.size : Int) := by omega
      have cE := fun W : World => CD.out W (by omega)
      obtain rfl := h3
      have CE := Lib.hid cE
      clear cE
      go_enter Tryz.func27, Tryz.ntmps27
      go_wp2_with fail
      refine (CE.out _).mono ?_
      rintro e wx ⟨rfl, hwx⟩
      obtain rfl := hwx.symm
      go_wp2_with fail
      go_loopg [3, 4, 21] s.size (fun q s3 s4 s21 wr => ∃ i : Nat, i ≤ s.size ∧ q + i = s.size ∧ s21 = .int .i64 (i : Int) ∧ Hid (wr = w))
      case atStart => exact ⟨0, by omega, by omega, rfl, rfl⟩
      case round =>
        obtain ⟨i, hi, hq, rfl, hww⟩ := hrel
        obtain rfl := hww.out.symm
        by_cases his : i < s.size
        · have hli : (i : Int) < (s.size : Int) := by omega
          obtain ⟨c, hc⟩ : ∃ c, c = (s[i]'his).toNat := ⟨_, rfl⟩
          have hgc : (s[i]'his).toNat = c := hc.symm
          by_cases he : c = 101 ∨ c = 69
          · obtain ⟨h1', hsg⟩ := hgo.out i his (by rw [hgc]; exact he)
            have hl1 : (i : Int) + 1 < (s.size : Int) := by omega
            obtain ⟨d, hd⟩ : ∃ d, d = (s[i + 1]'h1').toNat := ⟨_, rfl⟩
            have hgd : (s[i + 1]'h1').toNat = d := hd.symm
            have hi1 : IntKind.i64.wrap ((i : Int) + 1) = (i : Int) + 1 := by rw [IntKind.wrap_i64]; omega
            have hi2 : IntKind.i64.wrap ((i : Int) + 1 + 1) = (i : Int) + 2 := by rw [IntKind.wrap_i64]; omega
            rw [hgd] at hsg
            clear hc hd
            by_cases hs2 : d = 43 ∨ d = 45
            · have h2' := hsg hs2
              have hl2 : (i : Int) + 2 < (s.size : Int) := by omega
              obtain ⟨f, hf⟩ : ∃ f, f = (s[i + 2]'h2').toNat := ⟨_, rfl⟩
              have hgf : (s[i + 2]'h2').toNat = f := hf.symm
              clear hf hsg
              have hf2 : ((f : Int) == 48) = true ∨ ((f : Int) == 48) = false := by cases (f : Int) == 48 <;> simp
              have hl3 : (i : Int) + 3 < (s.size : Int) ∨ ¬ (i : Int) + 3 < (s.size : Int) := by omega
              rcases he with rfl | rfl
              all_goals
                rcases hs2 with rfl | rfl
                all_goals
                  rcases hf2 with hf2 | hf2
                  all_goals
                    rcases hl3 with hl3 | hl3
                    all_goals
                      go_wp2_with fail
                      go_ret
                      exact ⟨⟨_, rfl, fun h => absurd h HL.out⟩, rfl⟩
            · have d1 : ((d : Int) == 43) = false := by rw [beq_eq_false_iff_ne]; omega
              have d2 : ((d : Int) == 45) = false := by rw [beq_eq_false_iff_ne]; omega
              have hf2 : ((d : Int) == 48) = true ∨ ((d : Int) == 48) = false := by cases (d : Int) == 48 <;> simp
              have hl3 : (i : Int) + 2 < (s.size : Int) ∨ ¬ (i : Int) + 2 < (s.size : Int) := by omega
              clear hsg hs2
              rcases he with rfl | rfl
              all_goals
                rcases hf2 with hf2 | hf2
                all_goals
                  rcases hl3 with hl3 | hl3
                  all_goals
                    go_wp2_with fail
                    go_ret
                    exact ⟨⟨_, rfl, fun h => absurd h HL.out⟩, rfl⟩
          · have e1 : ((c : Int) == 101) = false := by rw [beq_eq_false_iff_ne]; omega
            have e2 : ((c : Int) == 69) = false := by rw [beq_eq_false_iff_ne]; omega
            clear he hc
            go_wp2_with fail
            go_roundg (gk - 1)
            case measure => omega
            case rel => exact ⟨i + 1, by omega, by omega, by go_num, rfl⟩
        · have hli : ¬ (i : Int) < (s.size : Int) := by omega
          go_wp2_with fail
          go_ret
          exact ⟨⟨_, rfl, fun h => absurd h HL.out⟩, rfl⟩
end Go.Proofs.YthplmbgdcfmkgaaGreatDoor
