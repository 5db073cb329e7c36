/- The plain side. -/
import Derived.Test.YthplmbgdcfmkgaaGreatDoorA25
set_option linter.unusedVariables false
set_option linter.unusedSimpArgs false
/- The plain side: the tokens of a text are its spans. -/
namespace Go.Proofs.YthplmbgdcfmkgaaGreatDoor
open Go.RowKit Go.Proofs Go.Sort

set_option maxRecDepth 100000 in
theorem ltr_fin : ∀ c : _root_.Fin 256, ltr (c.val : Int) = isL c.val := by decide
set_option maxRecDepth 100000 in
theorem idc_fin : ∀ c : _root_.Fin 256, idc (c.val : Int) = (decide (c.val = 95) || isL c.val || isDg c.val) := by decide
set_option maxRecDepth 100000 in
theorem low_fin : ∀ c : _root_.Fin 256, (low (c.val : Int) = 101 → c.val = 101 ∨ c.val = 69) ∧ ((c.val = 101 ∨ c.val = 69) → low (c.val : Int) = 101) ∧ (low (c.val : Int) = 112 → isL c.val = true) ∧ (low (c.val : Int) = 120 → isL c.val = true) ∧ (low (c.val : Int) = 111 → isL c.val = true) ∧ (low (c.val : Int) = 98 → isL c.val = true) := by decide
theorem chAt_u8 {s : ByteArray} {i : Nat} (h : i < s.size) : ∃ c : _root_.Fin 256, c.val = (s[i]'h).toNat ∧ chAt s i = (c.val : Int) :=
  ⟨⟨(s[i]'h).toNat, (s[i]'h).toNat_lt⟩, rfl, chAt_lt h⟩
theorem ltr_at {s : ByteArray} {i : Nat} (h : i < s.size) : ltr (chAt s i) = isL (s[i]'h).toNat := by
  obtain ⟨c, h1, h2⟩ := chAt_u8 h
  rw [h2, ltr_fin, h1]
theorem dig_at {s : ByteArray} {i : Nat} (h : i < s.size) : dig (chAt s i) = isDg (s[i]'h).toNat := by
  rw [chAt_lt h]
  unfold dig isDg
  congr 1
  · exact decide_eq_decide.mpr (by omega)
  · exact decide_eq_decide.mpr (by omega)
theorem wsb_at {s : ByteArray} {i : Nat} (h : i < s.size) : wsb (chAt s i) = isB (s[i]'h).toNat := by
  rw [chAt_lt h]
  unfold wsb isB
  by_cases h1 : (s[i]'h).toNat = 32
  · rw [h1]; rfl
  · by_cases h2 : (s[i]'h).toNat = 9
    · rw [h2]; rfl
    · by_cases h3 : (s[i]'h).toNat = 10
      · rw [h3]; rfl
      · by_cases h4 : (s[i]'h).toNat = 13
        · rw [h4]; rfl
        · rw [decide_eq_false (by omega)]
          have e1 : (((s[i]'h).toNat : Int) == 32) = false := by rw [beq_eq_false_iff_ne]; omega
          have e2 : (((s[i]'h).toNat : Int) == 9) = false := by rw [beq_eq_false_iff_ne]; omega
          have e3 : (((s[i]'h).toNat : Int) == 10) = false := by rw [beq_eq_false_iff_ne]; omega
          have e4 : (((s[i]'h).toNat : Int) == 13) = false := by rw [beq_eq_false_iff_ne]; omega
          rw [e1, e2, e3, e4]; rfl
/-- A count of bytes of one kind at the beginning is a run. -/
theorem cnt_run (f : List UInt8 → Nat) (p : Nat → Bool) (hn : f [] = 0) (hc : ∀ c l, f (c :: l) = if p c.toNat then f l + 1 else 0) (s : ByteArray) :
    ∀ (m i : Nat), s.size - i = m → i ≤ s.size → i + f (s.data.toList.drop i) ≤ s.size ∧ (∀ t (h : t < s.size), i ≤ t → t < i + f (s.data.toList.drop i) → p (s[t]'h).toNat = true) ∧ (∀ h : i + f (s.data.toList.drop i) < s.size, p (s[i + f (s.data.toList.drop i)]'h).toNat = false) := by
  intro m
  induction m with
  | zero =>
    intro i hm hi
    rw [drop_out s i (by omega), hn]
    exact ⟨hi, fun t h h1 h2 => by omega, fun h => by omega⟩
  | succ m ih =>
    intro i hm hi
    have hlt : i < s.size := by omega
    obtain ⟨h1, h2, h3⟩ := ih (i + 1) (by omega) (by omega)
    rw [drop_at s i hlt, hc]
    by_cases hp : p (s[i]'hlt).toNat = true
    · rw [if_pos hp]
      have e : i + (f (s.data.toList.drop (i + 1)) + 1) = i + 1 + f (s.data.toList.drop (i + 1)) := by omega
      rw [e]
      refine ⟨h1, fun t h h4 h5 => ?_, fun h => ?_⟩
      · by_cases ht : t = i
        · subst ht; exact hp
        · exact h2 t h (by omega) h5
      · exact h3 h
    · rw [if_neg hp]
      refine ⟨hi, fun t h h4 h5 => by omega, fun h => ?_⟩
      simpa using hp
theorem ln_run (s : ByteArray) (i : Nat) (hi : i ≤ s.size) : i + ln (s.data.toList.drop i) ≤ s.size ∧ (∀ t (h : t < s.size), i ≤ t → t < i + ln (s.data.toList.drop i) → isL (s[t]'h).toNat = true) ∧ (∀ h : i + ln (s.data.toList.drop i) < s.size, isL (s[i + ln (s.data.toList.drop i)]'h).toNat = false) := cnt_run ln isL rfl (fun c l => by rw [ln]) s _ i rfl hi
theorem dn_run (s : ByteArray) (i : Nat) (hi : i ≤ s.size) : i + dn (s.data.toList.drop i) ≤ s.size ∧ (∀ t (h : t < s.size), i ≤ t → t < i + dn (s.data.toList.drop i) → isDg (s[t]'h).toNat = true) ∧ (∀ h : i + dn (s.data.toList.drop i) < s.size, isDg (s[i + dn (s.data.toList.drop i)]'h).toNat = false) := cnt_run dn isDg rfl (fun c l => by rw [dn]) s _ i rfl hi
theorem dig_run (s : ByteArray) (i : Nat) (hi : i ≤ s.size) : Run dig s i (i + dn (s.data.toList.drop i)) := by
  obtain ⟨h1, h2, h3⟩ := dn_run s i hi
  refine ⟨by omega, h1, fun t ha hb => ?_, fun h => ?_⟩
  · rw [dig_at (by omega)]; exact h2 t (by omega) ha hb
  · rw [dig_at h]; exact h3 h
/-- Behind a word or a decimal: the end, a blank, a parenthesis or a comma. -/
def ClB (s : ByteArray) (i : Nat) : Prop := i = s.size ∨ ∃ h : i < s.size, isB (s[i]'h).toNat = true ∨ (s[i]'h).toNat = 40 ∨ (s[i]'h).toNat = 41 ∨ (s[i]'h).toNat = 44
theorem ClB.of {s : ByteArray} {i : Nat} {l} (hi : i ≤ s.size) (h : cut (s.data.toList.drop i) true = some l) : ClB s i := by
  by_cases hlt : i < s.size
  · refine Or.inr ⟨hlt, ?_⟩
    rw [drop_at s i hlt] at h
    by_cases h0 : isB (s[i]'hlt).toNat = true
    · exact Or.inl h0
    · rw [Bool.not_eq_true] at h0
      by_cases h1 : isS (s[i]'hlt).toNat = true
      · by_cases h2 : (s[i]'hlt).toNat = 45
        · rw [cut_bad _ _ h2] at h; exact absurd h (by simp)
        · unfold isS at h1
          rw [decide_eq_true_eq] at h1
          omega
      · rw [Bool.not_eq_true] at h1
        rw [cut_stop _ _ _ h0 h1 (Or.inr rfl)] at h
        exact absurd h (by simp)
  · exact Or.inl (by omega)
theorem ClB.vals {s : ByteArray} {i : Nat} (h : ClB s i) : chAt s i = -1 ∨ chAt s i = 32 ∨ chAt s i = 9 ∨ chAt s i = 10 ∨ chAt s i = 13 ∨ chAt s i = 40 ∨ chAt s i = 41 ∨ chAt s i = 44 := by
  rcases h with h | ⟨h, h1⟩
  · exact Or.inl (chAt_end (by omega))
  · rw [chAt_lt h]
    unfold isB at h1
    rw [decide_eq_true_eq] at h1
    omega
theorem ClB.low {s : ByteArray} {i : Nat} (h : ClB s i) : low (chAt s i) ≠ 101 ∧ low (chAt s i) ≠ 112 ∧ low (chAt s i) ≠ 120 ∧ low (chAt s i) ≠ 111 ∧ low (chAt s i) ≠ 98 ∧ idc (chAt s i) = false ∧ chAt s i ≠ 46 := by
  rcases h.vals with h | h | h | h | h | h | h | h <;> rw [h] <;> decide
theorem Spans.blank {s : ByteArray} {k T} (hk : k < s.size) (hb : wsb (chAt s k) = true) (h : Spans s (k + 1) T) : Spans s k T := by
  have ext : ∀ {j}, Run wsb s (k + 1) j → Run wsb s k j := fun r => ⟨by have := r.le; omega, r.fit, fun t h1 h2 => by
    by_cases ht : t = k
    · subst ht; exact hb
    · exact r.all t (by omega) h2, r.stop⟩
  cases h with
  | fin h => exact .fin (ext h)
  | cons h hj ht hji hT => exact .cons (ext h) hj ht hji hT
theorem Run.none {p} {s : ByteArray} {k : Nat} (hk : k < s.size) (h : p (chAt s k) = false) : Run p s k k := ⟨Nat.le_refl _, by omega, fun t h1 h2 => by omega, fun _ => h⟩
theorem sub_size (s : ByteArray) (i n : Nat) (h : i + n ≤ s.size) : (sub s i (i + n)).size = n := by
  have hl : s.data.toList.length = s.size := by simp
  show (((s.data.toList.drop i).take (i + n - i)).toArray).size = n
  simp
  omega
theorem sub_at (s : ByteArray) (i n j : Nat) (h : i + n ≤ s.size) (hj : j < (sub s i (i + n)).size) (h' : i + j < s.size) : (sub s i (i + n))[j]'hj = s[i + j]'h' := by
  have hl : s.data.toList.length = s.size := by simp
  have hn := sub_size s i n h
  show (((s.data.toList.drop i).take (i + n - i)).toArray)[j]'(by exact hj) = s.data[i + j]'(by exact h')
  simp
theorem sub_take (s : ByteArray) (i n : Nat) : (⟨((s.data.toList.drop i).take n).toArray⟩ : ByteArray) = sub s i (i + n) := by
  unfold sub
  rw [Nat.add_sub_cancel_left]
/-- A word at i. -/
theorem word_end {s : ByteArray} {i n : Nat} (hi : i < s.size) (hL : isL (s[i]'hi).toNat = true) (hn : n = ln (s.data.toList.drop i)) (hc : ClB s (i + n)) : TokEnd s i (i + n) ∧ 0 < n ∧ i + n ≤ s.size := by
  obtain ⟨h1, h2, h3⟩ := ln_run s i (by omega)
  rw [← hn] at h1 h2 h3
  have hn0 : 0 < n := by rw [hn, drop_at s i hi, ln, if_pos hL]; omega
  refine ⟨Or.inr (Or.inl ⟨hi, by rw [ltr_at hi]; exact hL, by omega, h1, fun t ha hb => ?_, fun h => hc.low.2.2.2.2.2.1⟩), hn0, h1⟩
  obtain ⟨c, hc1, hc2⟩ := chAt_u8 (s := s) (i := t) (by omega)
  rw [hc2, idc_fin, hc1, h2 t (by omega) (by omega) hb]
  simp
/-- What stands behind the mantissa. -/
theorem expo_end {s : ByteArray} {b : Nat} (hb : b ≤ s.size) (hc : ClB s (b + expN (s.data.toList.drop b))) : Expo s b (b + expN (s.data.toList.drop b)) ∧ b + expN (s.data.toList.drop b) ≤ s.size ∧
    (expN (s.data.toList.drop b) = 0 ∨ ∃ h : b + 1 < s.size, ((s[b]'(by omega)).toNat = 101 ∨ (s[b]'(by omega)).toNat = 69) ∧
      (((s[b + 1]'h).toNat ≠ 43 ∧ (s[b + 1]'h).toNat ≠ 45 ∧ expN (s.data.toList.drop b) = 1 + dn (s.data.toList.drop (b + 1)) ∧ 0 < dn (s.data.toList.drop (b + 1))) ∨ (((s[b + 1]'h).toNat = 43 ∨ (s[b + 1]'h).toNat = 45) ∧ expN (s.data.toList.drop b) = 2 + dn (s.data.toList.drop (b + 2)) ∧ 0 < dn (s.data.toList.drop (b + 2))))) := by
  have hz : expN (s.data.toList.drop b) = 0 → Expo s b (b + expN (s.data.toList.drop b)) := by
    intro h0
    rw [h0] at hc ⊢
    exact Or.inl ⟨hc.low.1, hc.low.2.1, rfl⟩
  by_cases hbs : b < s.size
  · by_cases hE : (s[b]'hbs).toNat = 101 ∨ (s[b]'hbs).toNat = 69
    · by_cases hb1 : b + 1 < s.size
      · have e : expN (s.data.toList.drop b) = if (s[b + 1]'hb1).toNat = 43 ∨ (s[b + 1]'hb1).toNat = 45 then (if dn (s.data.toList.drop (b + 2)) = 0 then 0 else 2 + dn (s.data.toList.drop (b + 2))) else if dn (s.data.toList.drop (b + 1)) = 0 then 0 else 1 + dn (s.data.toList.drop (b + 1)) := by
          rw [drop_at s b hbs, expN_e _ _ hE, drop_at s (b + 1) hb1]
        obtain ⟨c, hc1, hc2⟩ := chAt_u8 hbs
        have hlow : low (chAt s b) = 101 := by rw [hc2]; exact (low_fin c).2.1 (by rw [hc1]; exact hE)
        by_cases hs : (s[b + 1]'hb1).toNat = 43 ∨ (s[b + 1]'hb1).toNat = 45
        · rw [if_pos hs] at e
          by_cases h0 : dn (s.data.toList.drop (b + 2)) = 0
          · rw [if_pos h0] at e
            exact ⟨hz e, by omega, Or.inl e⟩
          · rw [if_neg h0] at e
            have hr := dig_run s (b + 2) (by omega)
            have e2 : b + expN (s.data.toList.drop b) = b + 2 + dn (s.data.toList.drop (b + 2)) := by omega
            rw [e2]
            refine ⟨Or.inr ⟨hlow, hbs, Or.inr ⟨by rw [chAt_lt hb1]; omega, hr, by omega⟩⟩, hr.fit, Or.inr ⟨hb1, hE, Or.inr ⟨hs, e, by omega⟩⟩⟩
        · rw [if_neg hs] at e
          by_cases h0 : dn (s.data.toList.drop (b + 1)) = 0
          · rw [if_pos h0] at e
            exact ⟨hz e, by omega, Or.inl e⟩
          · rw [if_neg h0] at e
            have hr := dig_run s (b + 1) (by omega)
            have e2 : b + expN (s.data.toList.drop b) = b + 1 + dn (s.data.toList.drop (b + 1)) := by omega
            rw [e2]
            refine ⟨Or.inr ⟨hlow, hbs, Or.inl ⟨by rw [chAt_lt hb1]; omega, by rw [chAt_lt hb1]; omega, hr, by omega⟩⟩, hr.fit, Or.inr ⟨hb1, hE, Or.inl ⟨by omega, by omega, e, by omega⟩⟩⟩
      · have e : expN (s.data.toList.drop b) = 0 := by
          rw [drop_at s b hbs, expN_e _ _ hE, drop_out s (b + 1) hb1]
        exact ⟨hz e, by omega, Or.inl e⟩
    · have e : expN (s.data.toList.drop b) = 0 := by rw [drop_at s b hbs, expN_ne _ _ hE]
      exact ⟨hz e, by omega, Or.inl e⟩
  · have e : expN (s.data.toList.drop b) = 0 := by rw [drop_out s b hbs, expN_nil]
    exact ⟨hz e, by omega, Or.inl e⟩
end Go.Proofs.YthplmbgdcfmkgaaGreatDoor
/- The plain side: decimals. -/
namespace Go.Proofs.YthplmbgdcfmkgaaGreatDoor
open Go.RowKit Go.Proofs Go.Sort

theorem mnt_shape {s : ByteArray} {i d : Nat} (hi : i ≤ s.size) (hd : d = dn (s.data.toList.drop i)) :
    (∃ h : i + d < s.size, (s[i + d]'h).toNat = 46 ∧ mntN (s.data.toList.drop i) = if d + dn (s.data.toList.drop (i + d + 1)) = 0 then 0 else d + 1 + dn (s.data.toList.drop (i + d + 1))) ∨
    ((∀ h : i + d < s.size, (s[i + d]'h).toNat ≠ 46) ∧ mntN (s.data.toList.drop i) = d) := by
  have e : (s.data.toList.drop i).drop d = s.data.toList.drop (i + d) := by rw [List.drop_drop]
  by_cases h : i + d < s.size
  · by_cases hc : (s[i + d]'h).toNat = 46
    · refine Or.inl ⟨h, hc, ?_⟩
      unfold mntN
      rw [← hd, e, drop_at s _ h]
      simp only [hc, if_true]
    · refine Or.inr ⟨fun _ => hc, ?_⟩
      unfold mntN
      rw [← hd, e, drop_at s _ h]
      simp only [if_neg hc]
  · refine Or.inr ⟨fun h' => absurd h' h, ?_⟩
    unfold mntN
    rw [← hd, e, drop_out s _ h]
/-- A decimal from i to i + n, its mantissa to b. -/
structure NumAt (s : ByteArray) (i n b : Nat) : Prop where
  lt : i < s.size
  ib : i < b
  bl : b ≤ i + n
  fit : i + n ≤ s.size
  ex : i + n = b + expN (s.data.toList.drop b)
  ch : ∀ t (h : t < s.size), i ≤ t → t < b → isDg (s[t]'h).toNat = true ∨ (s[t]'h).toNat = 46
  sh : (dn (s.data.toList.drop i) = 0 ∧ (s[i]'lt).toNat = 46 ∧ dn (s.data.toList.drop (i + 1)) ≠ 0 ∧ b = i + 1 + dn (s.data.toList.drop (i + 1))) ∨
    (dn (s.data.toList.drop i) ≠ 0 ∧ ((chAt s (i + dn (s.data.toList.drop i)) = 46 ∧ b = i + dn (s.data.toList.drop i) + 1 + dn (s.data.toList.drop (i + dn (s.data.toList.drop i) + 1))) ∨ (chAt s (i + dn (s.data.toList.drop i)) ≠ 46 ∧ b = i + dn (s.data.toList.drop i))))
theorem num_at {s : ByteArray} {i n : Nat} (hi : i < s.size) (hn : n = decN (s.data.toList.drop i)) (hn0 : n ≠ 0) : ∃ b, NumAt s i n b := by
  obtain ⟨d, hd⟩ : ∃ d, d = dn (s.data.toList.drop i) := ⟨_, rfl⟩
  obtain ⟨r1, r2, r3⟩ := dn_run s i (by omega)
  rw [← hd] at r1 r2 r3
  have hm0 : mntN (s.data.toList.drop i) ≠ 0 := by
    intro h0
    apply hn0
    rw [hn, decN, if_pos h0]
  have hdec : n = mntN (s.data.toList.drop i) + expN (s.data.toList.drop (i + mntN (s.data.toList.drop i))) := by
    rw [hn, decN, if_neg hm0, List.drop_drop]
  have hl : s.data.toList.length = s.size := by simp
  have hfit : i + n ≤ s.size := by
    have := decN_le (s.data.toList.drop i)
    rw [List.length_drop, hl] at this
    omega
  rcases mnt_shape (by omega) hd with ⟨h, hc, hm⟩ | ⟨hc, hm⟩
  · have hz : d + dn (s.data.toList.drop (i + d + 1)) ≠ 0 := by
      intro h0
      rw [if_pos h0] at hm
      exact hm0 hm
    rw [if_neg hz] at hm
    obtain ⟨q1, q2, q3⟩ := dn_run s (i + d + 1) (by omega)
    obtain ⟨m, hme⟩ : ∃ m, m = mntN (s.data.toList.drop i) := ⟨_, rfl⟩
    rw [← hme] at hm hdec
    refine ⟨i + m, hi, by omega, by omega, hfit, by omega, fun t ht h1 h2 => ?_, ?_⟩
    · by_cases h3 : t < i + d
      · exact Or.inl (r2 t ht h1 h3)
      · by_cases h4 : t = i + d
        · subst h4; exact Or.inr hc
        · exact Or.inl (q2 t ht (by omega) (by omega))
    · by_cases h0 : d = 0
      · subst h0
        refine Or.inl ⟨hd.symm, ?_, ?_, ?_⟩
        · simpa using hc
        · simpa using hz
        · simp only [Nat.add_zero, Nat.zero_add] at hm; omega
      · refine Or.inr ⟨by omega, Or.inl ?_⟩
        rw [← hd]
        exact ⟨by rw [chAt_lt h, hc]; rfl, by omega⟩
  · obtain ⟨m, hme⟩ : ∃ m, m = mntN (s.data.toList.drop i) := ⟨_, rfl⟩
    rw [← hme] at hm hdec hm0
    refine ⟨i + m, hi, by omega, by omega, hfit, by omega, fun t ht h1 h2 => Or.inl (r2 t ht h1 (by omega)), Or.inr ⟨by omega, Or.inr ?_⟩⟩
    rw [← hd]
    refine ⟨?_, by omega⟩
    by_cases h : i + d < s.size
    · have := hc h
      rw [chAt_lt h]
      omega
    · rw [chAt_end (by omega)]
      decide
/-- The bytes of a decimal. -/
theorem NumAt.bytes {s : ByteArray} {i n b : Nat} (a : NumAt s i n b) (hc : ClB s (i + n)) : ∀ t (h : t < s.size), i ≤ t → t < i + n → NumCh (s[t]'h).toNat := by
  intro t h h1 h2
  have hd : ∀ {c : Nat}, isDg c = true → NumCh c := by
    intro c h
    unfold isDg at h
    simp only [Bool.and_eq_true, decide_eq_true_eq] at h
    unfold NumCh
    omega
  by_cases h3 : t < b
  · rcases a.ch t h h1 h3 with h4 | h4
    · exact hd h4
    · unfold NumCh; omega
  · have hex := a.ex
    obtain ⟨_, _, h0 | ⟨hb1, hE, ⟨_, _, e, hp⟩ | ⟨hs, e, hp⟩⟩⟩ := expo_end (s := s) (b := b) (by have := a.bl; have := a.fit; omega) (by rw [← hex]; exact hc)
    · omega
    · by_cases h4 : t = b
      · subst h4; unfold NumCh; omega
      · obtain ⟨q1, q2, q3⟩ := dn_run s (b + 1) (by omega)
        exact hd (q2 t h (by omega) (by omega))
    · by_cases h4 : t = b
      · subst h4; unfold NumCh; omega
      · by_cases h5 : t = b + 1
        · subst h5; unfold NumCh; omega
        · obtain ⟨q1, q2, q3⟩ := dn_run s (b + 2) (by have := a.fit; omega)
          exact hd (q2 t h (by omega) (by omega))
theorem NumAt.first {s : ByteArray} {i n b : Nat} (a : NumAt s i n b) : isD (s[i]'a.lt).toNat ∨ (s[i]'a.lt).toNat = 46 := by
  rcases a.ch i a.lt (Nat.le_refl _) a.ib with h | h
  · unfold isDg at h
    simp only [Bool.and_eq_true, decide_eq_true_eq] at h
    exact Or.inl h
  · exact Or.inr h
theorem NumAt.expd {s : ByteArray} {i n b : Nat} (a : NumAt s i n b) (hc : ClB s (i + n)) : Expd (sub s i (i + n)) := by
  intro j hj hE
  have hsz := sub_size s i n a.fit
  have hjn : j < n := by omega
  have hfit := a.fit
  rw [sub_at s i n j a.fit hj (by omega)] at hE
  have hb : b = i + j := by
    by_cases h3 : i + j < b
    · rcases a.ch (i + j) (by omega) (by omega) h3 with h4 | h4
      · unfold isDg at h4
        simp only [Bool.and_eq_true, decide_eq_true_eq] at h4
        omega
      · omega
    · have hex := a.ex
      obtain ⟨_, _, h0 | ⟨hb1, hE', ⟨_, _, e, hp⟩ | ⟨hs, e, hp⟩⟩⟩ := expo_end (s := s) (b := b) (by have := a.bl; omega) (by rw [← hex]; exact hc)
      · omega
      · by_cases h4 : b = i + j
        · exact h4
        · obtain ⟨q1, q2, q3⟩ := dn_run s (b + 1) (by omega)
          have := q2 (i + j) (by omega) (by omega) (by omega)
          unfold isDg at this
          simp only [Bool.and_eq_true, decide_eq_true_eq] at this
          omega
      · by_cases h4 : b = i + j
        · exact h4
        · by_cases h5 : i + j = b + 1
          · have : (s[i + j]'(by omega)).toNat = (s[b + 1]'hb1).toNat := by congr 1; congr 1
            omega
          · obtain ⟨q1, q2, q3⟩ := dn_run s (b + 2) (by omega)
            have := q2 (i + j) (by omega) (by omega) (by omega)
            unfold isDg at this
            simp only [Bool.and_eq_true, decide_eq_true_eq] at this
            omega
  have hex := a.ex
  obtain ⟨_, _, h0 | ⟨hb1, hE', ⟨n1, n2, e, hp⟩ | ⟨hs, e, hp⟩⟩⟩ := expo_end (s := s) (b := b) (by have := a.bl; omega) (by rw [← hex]; exact hc)
  · omega
  · refine ⟨by omega, fun h => ?_⟩
    rw [sub_at s i n (j + 1) a.fit (by omega) (by omega)] at h
    have : (s[i + (j + 1)]'(by omega)).toNat = (s[b + 1]'hb1).toNat := by congr 1; congr 1; omega
    omega
  · exact ⟨by omega, fun _ => by omega⟩
/-- The scanner's token is the decimal. -/
theorem NumAt.tok {s : ByteArray} {i n b : Nat} (a : NumAt s i n b) (hL : isL (s[i]'a.lt).toNat = false) (hc : ClB s (i + n)) (hlead : ¬ Lead (sub s i (i + n))) : TokEnd s i (i + n) := by
  have hfit := a.fit
  have hbl := a.bl
  have hib := a.ib
  have hex := a.ex
  obtain ⟨hx, _, hxs⟩ := expo_end (s := s) (b := b) (by omega) (by rw [← hex]; exact hc)
  rw [← hex] at hx
  rcases a.sh with ⟨h0, h46, hd0, hb⟩ | ⟨h0, hsh⟩
  · refine Or.inr (Or.inr (Or.inr (Or.inl ⟨a.lt, by rw [chAt_lt a.lt, h46]; rfl, b, Or.inl ⟨rfl, ?_, ?_⟩, hx⟩)))
    · have := dig_run s (i + 1) (by omega)
      rw [← hb] at this
      exact this
    · omega
  · obtain ⟨d, hd⟩ : ∃ d, d = dn (s.data.toList.drop i) := ⟨_, rfl⟩
    rw [← hd] at h0 hsh
    have hr := dig_run s i (by omega)
    rw [← hd] at hr
    have hdi : dig (chAt s i) = true := hr.all i (Nat.le_refl _) (by omega)
    refine Or.inr (Or.inr (Or.inl ⟨a.lt, by rw [ltr_at a.lt]; exact hL, hdi, b, Or.inr ⟨rfl, i + d, hr, by omega, fun h48 => ?_, ?_⟩, hx⟩))
    · have h48' : (s[i]'a.lt).toNat = 48 := by rw [chAt_lt a.lt] at h48; omega
      have hd1 : d = 1 := by
        by_cases h1 : d = 1
        · exact h1
        · exfalso
          apply hlead
          have hsz := sub_size s i n a.fit
          have hn2 : 1 < n := by rcases hsh with ⟨_, h⟩ | ⟨_, h⟩ <;> omega
          refine ⟨by omega, ?_, ?_⟩
          · rw [sub_at s i n 0 a.fit (by omega) (by omega)]
            exact h48'
          · have hdr : (sub s i (i + n)).data.toList.drop 1 = (s.data.toList.drop (i + 1)).take (n - 1) := by
              unfold sub
              rw [Nat.add_sub_cancel_left]
              show ((s.data.toList.drop i).take n).drop 1 = _
              rw [List.drop_take, List.drop_drop]
            rw [hdr, drop_at s (i + 1) (by omega)]
            obtain ⟨m, hm⟩ : ∃ m, n - 1 = m + 1 := ⟨n - 2, by omega⟩
            rw [hm, List.take_succ_cons, dn]
            have h2 := hr.all (i + 1) (by omega) (by omega)
            rw [dig_at (by omega)] at h2
            rw [if_pos h2]
            omega
      subst hd1
      refine ⟨rfl, ?_⟩
      rcases hsh with ⟨h46, hb⟩ | ⟨h46, hb⟩
      · rw [h46]; decide
      · rcases hxs with he | ⟨hb1, hE, _⟩
        · rw [he, Nat.add_zero] at hex
          rw [hex, hb] at hc
          exact ⟨hc.low.2.2.1, hc.low.2.2.2.1, hc.low.2.2.2.2.1⟩
        · have hlow : low (chAt s (i + 1)) = 101 := by
            obtain ⟨c, hc1, hc2⟩ := chAt_u8 (s := s) (i := i + 1) (by omega)
            rw [hc2]
            refine (low_fin c).2.1 ?_
            rw [hc1]
            have : (s[b]'(by omega)).toNat = (s[i + 1]'(by omega)).toNat := by congr 1; congr 1
            omega
          rw [hlow]
          decide
    · rcases hsh with ⟨h46, hb⟩ | ⟨h46, hb⟩
      · refine Or.inr ⟨h46, ?_⟩
        rw [hb]
        refine dig_run s (i + d + 1) ?_
        by_cases h : i + d < s.size
        · omega
        · rw [chAt_end (by omega)] at h46; omega
      · exact Or.inl ⟨h46, hb⟩
end Go.Proofs.YthplmbgdcfmkgaaGreatDoor
/- The plain side: the text of tokens alone. -/
namespace Go.Proofs.YthplmbgdcfmkgaaGreatDoor
open Go.RowKit Go.Proofs Go.Sort

/-- No decimal has a 0 ahead of a digit at its beginning. -/
def NoLead (l : List (Nat × ByteArray)) : Prop := ∀ p ∈ l, p.1 = 49 → ¬ Lead p.2
/-- A byte that stands in texts of tokens. -/
def OkB (c : Nat) : Prop := 0 < c ∧ c < 128 ∧ c ≠ 95
/-- A token of the text. -/
structure TkAt (s : ByteArray) (p : Nat × ByteArray) : Prop where
  wk : WK p
  tk : TK p.2
  ex : p.1 = 49 → Expd p.2
theorem letter_bytes {c : Nat} (h : isL c = true) : (97 ≤ c ∧ c ≤ 122) ∨ (65 ≤ c ∧ c ≤ 90) := by
  unfold isL at h
  simp only [Bool.or_eq_true, Bool.and_eq_true, decide_eq_true_eq] at h
  exact h
/-- A word. -/
theorem word_tk {s : ByteArray} {i n : Nat} (hi : i < s.size) (hs : s.size ≤ 2900) (hL : isL (s[i]'hi).toNat = true) (hn : n = ln (s.data.toList.drop i)) : TkAt s (97, sub s i (i + n)) ∧ ∀ t (h : t < s.size), i ≤ t → t < i + n → OkB (s[t]'h).toNat := by
  obtain ⟨h1, h2, h3⟩ := ln_run s i (by omega)
  rw [← hn] at h1 h2 h3
  have hn0 : 0 < n := by rw [hn, drop_at s i hi, ln, if_pos hL]; omega
  have hsz := sub_size s i n h1
  have hat : ∀ j (hj : j < (sub s i (i + n)).size), isL ((sub s i (i + n))[j]'hj).toNat = true := by
    intro j hj
    rw [sub_at s i n j h1 hj (by omega)]
    exact h2 (i + j) (by omega) (by omega) (by omega)
  have hj : TJunk (sub s i (i + n)) := by
    refine ⟨by omega, by omega, fun j hj => ?_, ?_⟩
    · have := letter_bytes (hat j hj)
      unfold PrB
      omega
    · have := letter_bytes (hat 0 (by omega))
      unfold isD
      omega
  have hne : ∀ c : Nat, c < 64 → (sub s i (i + n)).toList ≠ [UInt8.ofNat c] := by
    intro c hc he
    rw [ByteArray.toList_eq] at he
    have h0 := letter_bytes (hat 0 (by omega))
    have : ((sub s i (i + n))[0]'(by omega)).toNat = c := by
      have e2 : (sub s i (i + n)).data.toList[0]? = some (UInt8.ofNat c) := by rw [he]; rfl
      have e3 : (sub s i (i + n)).data.toList[0]? = some ((sub s i (i + n))[0]'(by omega)) := by
        rw [Array.getElem?_toList]
        exact Array.getElem?_eq_getElem (by show 0 < (sub s i (i + n)).size; omega)
      rw [e3] at e2
      have e4 := Option.some.inj e2
      rw [e4]
      simp
      omega
    omega
  refine ⟨⟨⟨by show (sub s i (i + n)).size ≤ 2900; omega, Or.inr (Or.inl ⟨rfl, hj, hne 40 (by omega), hne 41 (by omega), hne 44 (by omega)⟩)⟩, Or.inr (Or.inr hj), fun h => absurd (show 97 = 49 from h) (by decide)⟩, fun t h ha hb => ?_⟩
  have := letter_bytes (h2 t h ha hb)
  unfold OkB
  omega
/-- A decimal. -/
theorem num_tk {s : ByteArray} {i n b : Nat} (a : NumAt s i n b) (hs : s.size ≤ 2900) (hc : ClB s (i + n)) : TkAt s (49, sub s i (i + n)) ∧ ∀ t (h : t < s.size), i ≤ t → t < i + n → OkB (s[t]'h).toNat := by
  have hfit := a.fit
  have hbl := a.bl
  have hib := a.ib
  have hsz := sub_size s i n hfit
  have hb := a.bytes hc
  have hnum : TNum (sub s i (i + n)) := by
    refine ⟨by omega, by omega, fun j hj => ?_, ?_⟩
    · rw [sub_at s i n j hfit hj (by omega)]
      exact hb (i + j) (by omega) (by omega) (by omega)
    · rw [sub_at s i n 0 hfit (by omega) (by omega)]
      exact a.first
  refine ⟨⟨⟨by show (sub s i (i + n)).size ≤ 2900; omega, Or.inl ⟨rfl, hnum⟩⟩, Or.inl hnum, fun _ => a.expd hc⟩, fun t h h1 h2 => ?_⟩
  have := hb t h h1 h2
  unfold NumCh at this
  unfold OkB
  omega
/-- A sign. -/
theorem sign_tk {s : ByteArray} {i : Nat} (hi : i < s.size) (hS : isS (s[i]'hi).toNat = true) : TkAt s ((s[i]'hi).toNat, ⟨#[s[i]'hi]⟩) ∧ OkB (s[i]'hi).toNat := by
  obtain ⟨c, hc⟩ : ∃ c, c = s[i]'hi := ⟨_, rfl⟩
  rw [← hc] at hS ⊢
  unfold isS at hS
  rw [decide_eq_true_eq] at hS
  have he : c = UInt8.ofNat c.toNat := by simp
  have hsz : (⟨#[c]⟩ : ByteArray).size = 1 := rfl
  have hat : ∀ j (hj : j < (⟨#[c]⟩ : ByteArray).size), ((⟨#[c]⟩ : ByteArray)[j]'hj).toNat = c.toNat := by
    intro j hj
    have : j = 0 := by omega
    subst this
    rfl
  refine ⟨⟨⟨by show (⟨#[c]⟩ : ByteArray).size ≤ 2900; omega, Or.inr (Or.inr ⟨hS, by show (⟨#[c]⟩ : ByteArray) = ⟨#[UInt8.ofNat c.toNat]⟩; rw [← he]⟩)⟩, ?_, fun h => ?_⟩, ?_⟩
  · by_cases h45 : c.toNat = 45
    · refine Or.inr (Or.inl ?_)
      show (⟨#[c]⟩ : ByteArray) = _
      rw [he, h45]
      rfl
    · refine Or.inr (Or.inr ⟨by show (⟨#[c]⟩ : ByteArray).size ≤ 3000; omega, by show 0 < (⟨#[c]⟩ : ByteArray).size; omega, fun j hj => ?_, ?_⟩)
      · show PrB ((⟨#[c]⟩ : ByteArray)[j]'hj).toNat ∧ ((⟨#[c]⟩ : ByteArray)[j]'hj).toNat ≠ 95
        rw [hat j hj]; unfold PrB; omega
      · show ¬ isD ((⟨#[c]⟩ : ByteArray)[0]'(by omega)).toNat ∧ ((⟨#[c]⟩ : ByteArray)[0]'(by omega)).toNat ≠ 46 ∧ ((⟨#[c]⟩ : ByteArray)[0]'(by omega)).toNat ≠ 43 ∧ ((⟨#[c]⟩ : ByteArray)[0]'(by omega)).toNat ≠ 45
        rw [hat 0 (by omega)]; unfold isD; omega
  · have h' : c.toNat = 49 := h
    omega
  · unfold OkB; omega
/-- From k on the text is tokens alone. -/
structure CutAt (s : ByteArray) (k : Nat) (l : List (Nat × ByteArray)) : Prop where
  sp : NoLead l → ∃ T, Spans s k T ∧ l.map Prod.snd = T.map fun p => sub s p.1 p.2
  tk : ∀ p ∈ l, TkAt s p
  ok : ∀ t (h : t < s.size), k ≤ t → OkB (s[t]'h).toNat
theorem cut_at (s : ByteArray) (hs : s.size ≤ 2900) : ∀ (m k : Nat) (j : Bool) (l : List (Nat × ByteArray)), s.size - k ≤ m → k ≤ s.size → cut (s.data.toList.drop k) j = some l → CutAt s k l := by
  intro m
  induction m with
  | zero =>
    intro k j l hm hk h
    rw [drop_out s k (by omega), cut_nil] at h
    obtain rfl := Option.some.inj h
    have hks : k = s.size := by omega
    exact ⟨fun _ => ⟨[], .fin ⟨by omega, Nat.le_refl _, fun t h1 h2 => by omega, fun h => by omega⟩, rfl⟩, fun p hp => by simp at hp, fun t h h1 => by omega⟩
  | succ m ih =>
    intro k j l hm hk h
    by_cases hlt : k < s.size
    · rw [drop_at s k hlt] at h
      by_cases h0 : isB (s[k]'hlt).toNat = true
      · rw [cut_blank _ _ _ h0] at h
        have c := ih (k + 1) false l (by omega) (by omega) h
        refine ⟨fun hl => ?_, c.tk, fun t ht h1 => ?_⟩
        · obtain ⟨T, h1, h2⟩ := c.sp hl
          exact ⟨T, h1.blank hlt (by rw [wsb_at hlt]; exact h0), h2⟩
        · by_cases hE : t = k
          · subst hE
            unfold isB at h0
            rw [decide_eq_true_eq] at h0
            unfold OkB
            omega
          · exact c.ok t ht (by omega)
      · rw [Bool.not_eq_true] at h0
        have hnb : wsb (chAt s k) = false := by rw [wsb_at hlt]; exact h0
        by_cases h1 : isS (s[k]'hlt).toNat = true
        · by_cases h2 : (s[k]'hlt).toNat = 45 ∧ j = true
          · rw [h2.2, cut_bad _ _ h2.1] at h
            exact absurd h (by simp)
          · rw [cut_sign _ _ _ h0 h1 h2] at h
            obtain ⟨l', hl', rfl⟩ := Option.map_eq_some_iff.mp h
            have c := ih (k + 1) false l' (by omega) (by omega) hl'
            obtain ⟨t1, t2⟩ := sign_tk hlt h1
            refine ⟨fun hl => ?_, fun p hp => ?_, fun t ht h1 => ?_⟩
            · obtain ⟨T, g1, g2⟩ := c.sp (fun p hp => hl p (List.mem_cons_of_mem _ hp))
              refine ⟨(k, k + 1) :: T, .cons (Run.none hlt hnb) hlt (Or.inr (Or.inr (Or.inr (Or.inr ⟨hlt, ?_, rfl⟩)))) (by omega) g1, ?_⟩
              · unfold isS at h1
                rw [decide_eq_true_eq] at h1
                rw [chAt_lt hlt]
                omega
              · rw [List.map_cons, List.map_cons, g2]
                congr 1
                show (⟨#[s[k]'hlt]⟩ : ByteArray) = sub s k (k + 1)
                rw [← sub_take, drop_at s k hlt]
                rfl
            · rcases List.mem_cons.mp hp with rfl | hp
              · exact t1
              · exact c.tk p hp
            · by_cases hE : t = k
              · subst hE; exact t2
              · exact c.ok t ht (by omega)
        · rw [Bool.not_eq_true] at h1
          by_cases h2 : wordN (s[k]'hlt) (s.data.toList.drop (k + 1)) = 0 ∨ j = true
          · rw [cut_stop _ _ _ h0 h1 h2] at h
            exact absurd h (by simp)
          · rw [cut_word _ _ _ h0 h1 h2] at h
            obtain ⟨l', hl', rfl⟩ := Option.map_eq_some_iff.mp h
            obtain ⟨n, hn⟩ : ∃ n, n = wordN (s[k]'hlt) (s.data.toList.drop (k + 1)) := ⟨_, rfl⟩
            rw [← hn] at hl' h2 ⊢
            rw [← drop_at s k hlt, List.drop_drop] at hl'
            rw [← drop_at s k hlt, sub_take]
            have hn0 : n ≠ 0 := fun h => h2 (Or.inl h)
            have hfit : k + n ≤ s.size := by
              unfold wordN at hn
              rw [← drop_at s k hlt] at hn
              have hl : s.data.toList.length = s.size := by simp
              have a1 := ln_le (s.data.toList.drop k)
              have a2 := decN_le (s.data.toList.drop k)
              rw [List.length_drop, hl] at a1 a2
              split at hn <;> omega
            have c := ih (k + n) true l' (by omega) hfit hl'
            have hcl := ClB.of hfit hl'
            have hmain : ∃ q, q = (if isL (s[k]'hlt).toNat then 97 else 49) ∧ TkAt s (q, sub s k (k + n)) ∧ (∀ t (h : t < s.size), k ≤ t → t < k + n → OkB (s[t]'h).toNat) ∧ ((q = 49 → ¬ Lead (sub s k (k + n))) → TokEnd s k (k + n)) := by
              unfold wordN at hn
              rw [← drop_at s k hlt] at hn
              by_cases hL : isL (s[k]'hlt).toNat = true
              · rw [if_pos hL] at hn
                refine ⟨97, by rw [if_pos hL], (word_tk hlt hs hL hn).1, (word_tk hlt hs hL hn).2, fun _ => (word_end hlt hL hn hcl).1⟩
              · rw [if_neg hL] at hn
                obtain ⟨b, a⟩ := num_at hlt hn hn0
                refine ⟨49, by rw [if_neg hL], (num_tk a hs hcl).1, (num_tk a hs hcl).2, fun hl => a.tok (by simpa using hL) hcl (hl rfl)⟩
            obtain ⟨q, hq, t1, t2, t3⟩ := hmain
            rw [← hq]
            refine ⟨fun hl => ?_, fun p hp => ?_, fun t ht h1 => ?_⟩
            · obtain ⟨T, g1, g2⟩ := c.sp (fun p hp => hl p (List.mem_cons_of_mem _ hp))
              refine ⟨(k, k + n) :: T, .cons (Run.none hlt hnb) hlt (t3 (fun h49 => hl _ (List.mem_cons_self ..) h49)) (by omega) g1, ?_⟩
              rw [List.map_cons, List.map_cons, g2]
            · rcases List.mem_cons.mp hp with rfl | hp
              · exact t1
              · exact c.tk p hp
            · by_cases hE : t < k + n
              · exact t2 t ht h1 hE
              · exact c.ok t ht (by omega)
    · exact (ih k j l (by omega) hk h)
theorem cut_len : ∀ (m : Nat) (l : List UInt8) (j : Bool) (k : List (Nat × ByteArray)), l.length ≤ m → cut l j = some k → k.length ≤ l.length := by
  intro m
  induction m with
  | zero =>
    intro l j k hm h
    obtain rfl : l = [] := List.length_eq_zero_iff.mp (by omega)
    rw [cut_nil] at h
    obtain rfl := Option.some.inj h
    simp
  | succ m ih =>
    intro l j k hm h
    cases l with
    | nil =>
      rw [cut_nil] at h
      obtain rfl := Option.some.inj h
      simp
    | cons c r =>
      rw [List.length_cons] at hm ⊢
      by_cases h0 : isB c.toNat = true
      · rw [cut_blank _ _ _ h0] at h
        have := ih r false k (by omega) h
        omega
      · rw [Bool.not_eq_true] at h0
        by_cases h1 : isS c.toNat = true
        · by_cases h2 : c.toNat = 45 ∧ j = true
          · rw [h2.2, cut_bad _ _ h2.1] at h
            exact absurd h (by simp)
          · rw [cut_sign _ _ _ h0 h1 h2] at h
            obtain ⟨l', hl', rfl⟩ := Option.map_eq_some_iff.mp h
            have := ih r false l' (by omega) hl'
            rw [List.length_cons]
            omega
        · rw [Bool.not_eq_true] at h1
          by_cases h2 : wordN c r = 0 ∨ j = true
          · rw [cut_stop _ _ _ h0 h1 h2] at h
            exact absurd h (by simp)
          · rw [cut_word _ _ _ h0 h1 h2] at h
            obtain ⟨l', hl', rfl⟩ := Option.map_eq_some_iff.mp h
            have hd : ((c :: r).drop (wordN c r)).length ≤ r.length := by
              rw [List.length_drop, List.length_cons]
              have : wordN c r ≠ 0 := fun h => h2 (Or.inl h)
              omega
            have := ih _ true l' (by omega) hl'
            rw [List.length_cons]
            omega
/-- A text whose tokens the reference finds, none with a 0 ahead of a digit. -/
theorem txt_of {s : ByteArray} {l : List (Nat × ByteArray)} (hs : s.size ≤ 2900) (h : cut s.data.toList false = some l) (hn : NoLead l) : Txt s (txs l) := by
  have hl : s.data.toList.length = s.size := by simp
  have c := cut_at s hs s.size 0 false l (by omega) (by omega) (by rw [List.drop_zero]; exact h)
  obtain ⟨T, h1, h2⟩ := c.sp hn
  refine ⟨⟨by omega, fun j hj => ?_⟩, fun t ht => ?_, ⟨T, h1, h2⟩, fun t ht => ?_, ?_⟩
  · have := c.ok j hj (by omega)
    unfold OkB at this
    omega
  · have := c.ok t ht (by omega)
    unfold OkB at this
    rw [chAt_lt ht]
    omega
  · obtain ⟨p, hp, rfl⟩ := List.mem_map.mp ht
    exact (c.tk p hp).tk
  · have := cut_len _ _ _ _ (Nat.le_refl _) h
    unfold txs
    rw [List.length_map]
    omega
theorem cut_tk {s : ByteArray} {l : List (Nat × ByteArray)} (hs : s.size ≤ 2900) (h : cut s.data.toList false = some l) : ∀ p ∈ l, TkAt s p :=
  (cut_at s hs s.size 0 false l (by omega) (by omega) (by rw [List.drop_zero]; exact h)).tk
end Go.Proofs.YthplmbgdcfmkgaaGreatDoor
/- The plain side: tokens with a blank behind each are the same tokens. -/
namespace Go.Proofs.YthplmbgdcfmkgaaGreatDoor
open Go.RowKit Go.Proofs Go.Sort

theorem cnt_take (f : List UInt8 → Nat) (p : Nat → Bool) (hn : f [] = 0) (hc : ∀ c l, f (c :: l) = if p c.toNat then f l + 1 else 0) (h32 : p 32 = false) (r : List UInt8) :
    ∀ (l : List UInt8) (k : Nat), f (l.take k ++ 32 :: r) = min k (f l) := by
  have h0 : f (32 :: r) = 0 := by rw [hc]; exact if_neg (by show ¬ p 32 = true; rw [h32]; decide)
  intro l
  induction l with
  | nil => intro k; rw [List.take_nil, List.nil_append, h0, hn]; omega
  | cons c l ih =>
    intro k
    cases k with
    | zero => rw [List.take_zero, List.nil_append, h0]; omega
    | succ k =>
      rw [List.take_succ_cons, List.cons_append, hc, hc, ih]
      by_cases h : p c.toNat = true
      · rw [if_pos h, if_pos h]; omega
      · rw [if_neg h, if_neg h]; omega
theorem dn_take (l r : List UInt8) (k : Nat) : dn (l.take k ++ 32 :: r) = min k (dn l) := cnt_take dn isDg rfl (fun c l => by rw [dn]) rfl r l k
theorem ln_take (l r : List UInt8) (k : Nat) : ln (l.take k ++ 32 :: r) = min k (ln l) := cnt_take ln isL rfl (fun c l => by rw [ln]) rfl r l k
def mntK (d : Nat) (x : List UInt8) : Nat := match x with
  | [] => d
  | c :: r => if c.toNat = 46 then (if d + dn r = 0 then 0 else d + 1 + dn r) else d
theorem mntN_eq (l : List UInt8) : mntN l = mntK (dn l) (l.drop (dn l)) := rfl
theorem mntK_cons (d : Nat) (c : UInt8) (r : List UInt8) : mntK d (c :: r) = if c.toNat = 46 then (if d + dn r = 0 then 0 else d + 1 + dn r) else d := rfl
theorem mntK_32 (d : Nat) (r : List UInt8) : mntK d (32 :: r) = d := by rw [mntK_cons]; exact if_neg (by decide)
theorem mnt_take (l r : List UInt8) (n : Nat) (hn : mntN l ≤ n) (h0 : mntN l ≠ 0) (hl : n ≤ l.length) : mntN (l.take n ++ 32 :: r) = mntN l := by
  have hdl := dn_le l
  have hdn : dn l ≤ n := by
    have : dn l ≤ mntN l := by
      rw [mntN_eq] at h0 ⊢
      cases hx : l.drop (dn l) with
      | nil => exact Nat.le_refl _
      | cons c r' =>
        rw [hx, mntK_cons] at h0
        rw [mntK_cons]
        by_cases h46 : c.toNat = 46
        · rw [if_pos h46] at h0 ⊢
          by_cases hz : dn l + dn r' = 0
          · rw [if_pos hz] at h0; exact absurd rfl h0
          · rw [if_neg hz]; omega
        · rw [if_neg h46]
          exact Nat.le_refl _
    omega
  have hd : dn (l.take n ++ 32 :: r) = dn l := by rw [dn_take]; omega
  have hdrop : (l.take n ++ 32 :: r).drop (dn l) = (l.drop (dn l)).take (n - dn l) ++ 32 :: r := by
    rw [List.drop_append_of_le_length (by rw [List.length_take]; omega), List.drop_take]
  rw [mntN_eq, hd, hdrop]
  have e2 := mntN_eq l
  cases hx : l.drop (dn l) with
  | nil =>
    rw [hx] at e2
    rw [List.take_nil, List.nil_append, mntK_32]
    exact e2.symm
  | cons c r' =>
    rw [hx, mntK_cons] at e2
    by_cases h46 : c.toNat = 46
    · rw [if_pos h46] at e2
      by_cases hz : dn l + dn r' = 0
      · rw [if_pos hz] at e2
        exact absurd e2 h0
      · rw [if_neg hz] at e2
        obtain ⟨q, hq⟩ : ∃ q, n - dn l = q + 1 := ⟨n - dn l - 1, by omega⟩
        have e3 : dn (r'.take q ++ 32 :: r) = dn r' := by rw [dn_take]; omega
        rw [hq, List.take_succ_cons, List.cons_append, mntK_cons, if_pos h46, e3, if_neg hz, e2]
    · rw [if_neg h46] at e2
      cases hq : n - dn l with
      | zero =>
        rw [List.take_zero, List.nil_append, mntK_32]
        exact e2.symm
      | succ q =>
        rw [List.take_succ_cons, List.cons_append, mntK_cons, if_neg h46]
        exact e2.symm
theorem exp_take (x r : List UInt8) : expN (x.take (expN x) ++ 32 :: r) = expN x := by
  have h32 : expN (32 :: r) = 0 := expN_ne _ _ (by decide)
  cases x with
  | nil => rw [expN_nil, List.take_zero, List.nil_append, h32]
  | cons e x =>
    by_cases hE : e.toNat = 101 ∨ e.toNat = 69
    · cases x with
      | nil =>
        have e0 : expN [e] = 0 := by rw [expN_e _ _ hE]
        rw [e0, List.take_zero, List.nil_append, h32]
      | cons c y =>
        have e1 : ∀ y, expN (e :: c :: y) = if c.toNat = 43 ∨ c.toNat = 45 then (if dn y = 0 then 0 else 2 + dn y) else if dn (c :: y) = 0 then 0 else 1 + dn (c :: y) := by
          intro y
          rw [expN_e _ _ hE]
        by_cases hs : c.toNat = 43 ∨ c.toNat = 45
        · by_cases h0 : dn y = 0
          · have e2 : expN (e :: c :: y) = 0 := by rw [e1, if_pos hs, if_pos h0]
            rw [e2, List.take_zero, List.nil_append, h32]
          · have e2 : expN (e :: c :: y) = 2 + dn y := by rw [e1, if_pos hs, if_neg h0]
            rw [e2, show 2 + dn y = dn y + 1 + 1 by omega, List.take_succ_cons, List.take_succ_cons, List.cons_append, List.cons_append, e1, if_pos hs, dn_take, Nat.min_self, if_neg h0]
            omega
        · by_cases h0 : dn (c :: y) = 0
          · have e2 : expN (e :: c :: y) = 0 := by rw [e1, if_neg hs, if_pos h0]
            rw [e2, List.take_zero, List.nil_append, h32]
          · have e2 : expN (e :: c :: y) = 1 + dn (c :: y) := by rw [e1, if_neg hs, if_neg h0]
            obtain ⟨q, hq⟩ : ∃ q, dn (c :: y) = q + 1 := ⟨dn (c :: y) - 1, by omega⟩
            have e3 : dn (c :: (y.take q ++ 32 :: r)) = q + 1 := by
              have := dn_take (c :: y) r (q + 1)
              rw [List.take_succ_cons, List.cons_append, hq, Nat.min_self] at this
              exact this
            rw [e2, hq, show 1 + (q + 1) = q + 1 + 1 by omega, List.take_succ_cons, List.take_succ_cons, List.cons_append, List.cons_append, e1, if_neg hs, e3, if_neg (by omega)]
            omega
    · have e0 : expN (e :: x) = 0 := expN_ne _ _ hE
      rw [e0, List.take_zero, List.nil_append, h32]
theorem dec_take (l r : List UInt8) (h0 : decN l ≠ 0) : decN (l.take (decN l) ++ 32 :: r) = decN l := by
  have hm0 : mntN l ≠ 0 := by
    intro h
    apply h0
    rw [decN, if_pos h]
  have hd : decN l = mntN l + expN (l.drop (mntN l)) := by rw [decN, if_neg hm0]
  have hle := decN_le l
  have hm : mntN (l.take (decN l) ++ 32 :: r) = mntN l := mnt_take l r _ (by omega) hm0 hle
  rw [decN, hm, if_neg hm0]
  have hdrop : (l.take (decN l) ++ 32 :: r).drop (mntN l) = (l.drop (mntN l)).take (expN (l.drop (mntN l))) ++ 32 :: r := by
    rw [List.drop_append_of_le_length (by rw [List.length_take]; omega), List.drop_take, hd, Nat.add_sub_cancel_left]
  rw [hdrop, exp_take, ← hd]
/-- A token with a blank behind it is that token. -/
def SelfT (p : Nat × ByteArray) : Prop := ∀ r : List UInt8, cut (p.2.data.toList ++ 32 :: r) false = (cut r false).map fun k => p :: k
theorem cut_32 (r : List UInt8) (j : Bool) : cut (32 :: r) j = cut r false := cut_blank _ _ _ (by decide)
theorem self_sign (c : UInt8) (h0 : isB c.toNat = false) (h : isS c.toNat = true) : SelfT (c.toNat, ⟨#[c]⟩) := by
  intro r
  show cut (c :: 32 :: r) false = _
  rw [cut_sign _ _ _ h0 h (by simp), cut_32]
theorem self_word (c : UInt8) (r0 : List UInt8) (n : Nat) (h0 : isB c.toNat = false) (h1 : isS c.toNat = false) (hn : n = wordN c r0) (hn0 : n ≠ 0) :
    SelfT (if isL c.toNat then 97 else 49, ⟨((c :: r0).take n).toArray⟩) := by
  intro r
  have hle : n ≤ (c :: r0).length := by
    rw [hn]
    unfold wordN
    split
    · exact ln_le _
    · exact decN_le _
  show cut ((((c :: r0).take n).toArray).toList ++ 32 :: r) false = _
  rw [List.toList_toArray]
  obtain ⟨q, hq⟩ : ∃ q, n = q + 1 := ⟨n - 1, by omega⟩
  have he : (c :: r0).take n ++ 32 :: r = c :: (r0.take q ++ 32 :: r) := by rw [hq, List.take_succ_cons, List.cons_append]
  have hw : wordN c (r0.take q ++ 32 :: r) = n := by
    unfold wordN at hn ⊢
    rw [← he]
    by_cases hL : isL c.toNat = true
    · rw [if_pos hL] at hn ⊢
      rw [ln_take, ← hn, Nat.min_self]
    · rw [if_neg hL] at hn ⊢
      rw [hn, dec_take _ _ (by rw [← hn]; exact hn0)]
  rw [he, cut_word _ _ _ h0 h1 (by rw [hw]; simp; exact hn0), hw, ← he]
  have hlen : ((c :: r0).take n).length = n := by rw [List.length_take]; omega
  have e1 : ((c :: r0).take n ++ 32 :: r).drop n = 32 :: r := by
    have := List.drop_left (l₁ := (c :: r0).take n) (l₂ := 32 :: r)
    rw [hlen] at this
    exact this
  have e2 : ((c :: r0).take n ++ 32 :: r).take n = (c :: r0).take n := by
    have := List.take_left (l₁ := (c :: r0).take n) (l₂ := 32 :: r)
    rw [hlen] at this
    exact this
  rw [e1, e2, cut_32]
theorem cut_self : ∀ (m : Nat) (l : List UInt8) (j : Bool) (k : List (Nat × ByteArray)), l.length ≤ m → cut l j = some k → ∀ p ∈ k, SelfT p := by
  intro m
  induction m with
  | zero =>
    intro l j k hm h
    obtain rfl : l = [] := List.length_eq_zero_iff.mp (by omega)
    rw [cut_nil] at h
    obtain rfl := Option.some.inj h
    intro p hp
    simp at hp
  | succ m ih =>
    intro l j k hm h
    cases l with
    | nil =>
      rw [cut_nil] at h
      obtain rfl := Option.some.inj h
      intro p hp
      simp at hp
    | cons c r =>
      rw [List.length_cons] at hm
      by_cases h0 : isB c.toNat = true
      · rw [cut_blank _ _ _ h0] at h
        exact ih r false k (by omega) h
      · rw [Bool.not_eq_true] at h0
        by_cases h1 : isS c.toNat = true
        · by_cases h2 : c.toNat = 45 ∧ j = true
          · rw [h2.2, cut_bad _ _ h2.1] at h
            exact absurd h (by simp)
          · rw [cut_sign _ _ _ h0 h1 h2] at h
            obtain ⟨l', hl', rfl⟩ := Option.map_eq_some_iff.mp h
            intro p hp
            rcases List.mem_cons.mp hp with rfl | hp
            · exact self_sign c h0 h1
            · exact ih r false l' (by omega) hl' p hp
        · rw [Bool.not_eq_true] at h1
          by_cases h2 : wordN c r = 0 ∨ j = true
          · rw [cut_stop _ _ _ h0 h1 h2] at h
            exact absurd h (by simp)
          · rw [cut_word _ _ _ h0 h1 h2] at h
            obtain ⟨l', hl', rfl⟩ := Option.map_eq_some_iff.mp h
            have hn0 : wordN c r ≠ 0 := fun h => h2 (Or.inl h)
            have hd : ((c :: r).drop (wordN c r)).length ≤ m := by
              rw [List.length_drop, List.length_cons]
              omega
            intro p hp
            rcases List.mem_cons.mp hp with rfl | hp
            · exact self_word c r _ h0 h1 rfl hn0
            · exact ih _ true l' hd hl' p hp
/-- Tokens' texts with a blank behind each. -/
def cat : List ByteArray → ByteArray
  | [] => ⟨#[]⟩
  | t :: l => t ++ ⟨#[32]⟩ ++ cat l
theorem cat_cons (t : ByteArray) (l : List ByteArray) : (cat (t :: l)).data.toList = t.data.toList ++ 32 :: (cat l).data.toList := by
  rw [cat, ByteArray.data_append, ByteArray.data_append]
  simp
theorem cut_cat : ∀ (l : List (Nat × ByteArray)), (∀ p ∈ l, SelfT p) → cut (cat (txs l)).data.toList false = some l := by
  intro l
  induction l with
  | nil =>
    intro h
    show cut [] false = _
    rw [cut_nil]
  | cons p l ih =>
    intro h
    show cut (cat (p.2 :: txs l)).data.toList false = _
    rw [cat_cons, h p (List.mem_cons_self ..), ih (fun q hq => h q (List.mem_cons_of_mem _ hq))]
    rfl
end Go.Proofs.YthplmbgdcfmkgaaGreatDoor
/- The plain side: a body and the tokens behind it. -/
namespace Go.Proofs.YthplmbgdcfmkgaaGreatDoor
open Go.RowKit Go.Proofs Go.Sort

/-- How deep in parentheses behind a token. -/
def dep (d : Int) (t : ByteArray) : Int := if t.data.toList = [40] then d + 1 else if t.data.toList = [41] then d - 1 else d
/-- The body at the beginning: its tokens, and whether it may be one. -/
def pb (d : Int) (i : Nat) : List ByteArray → Option (List ByteArray × Bool)
  | [] => none
  | t :: l => if dep d t = 0 then some ([t], decide (0 < i ∨ t.data.toList = [69, 77, 80, 84, 89])) else (pb (dep d t) (i + 1) l).map fun p => (t :: p.1, p.2)
theorem pb_nil (d : Int) (i : Nat) : pb d i [] = none := rfl
theorem pb_end (d : Int) (i : Nat) (t : ByteArray) (l : List ByteArray) (h : dep d t = 0) : pb d i (t :: l) = some ([t], decide (0 < i ∨ t.data.toList = [69, 77, 80, 84, 89])) := by rw [pb, if_pos h]
theorem pb_on (d : Int) (i : Nat) (t : ByteArray) (l : List ByteArray) (h : dep d t ≠ 0) : pb d i (t :: l) = (pb (dep d t) (i + 1) l).map fun p => (t :: p.1, p.2) := by rw [pb, if_neg h]
theorem pb_prefix : ∀ (l : List ByteArray) (d : Int) (i : Nat) (p : List ByteArray) (b : Bool), pb d i l = some (p, b) → ∃ r, l = p ++ r := by
  intro l
  induction l with
  | nil => intro d i p b h; rw [pb_nil] at h; exact absurd h (by simp)
  | cons t l ih =>
    intro d i p b h
    by_cases hd : dep d t = 0
    · rw [pb_end _ _ _ _ hd] at h
      have := Option.some.inj h
      simp only [Prod.mk.injEq] at this
      obtain ⟨rfl, _⟩ := this
      exact ⟨l, rfl⟩
    · rw [pb_on _ _ _ _ hd] at h
      obtain ⟨⟨p', b'⟩, hp, he⟩ := Option.map_eq_some_iff.mp h
      simp only [Prod.mk.injEq] at he
      obtain ⟨rfl, rfl⟩ := he
      obtain ⟨r, rfl⟩ := ih _ _ _ _ hp
      exact ⟨r, rfl⟩
theorem pb_head {l p : List ByteArray} (h : pb 0 0 l = some (p, true)) : ∃ t p', p = t :: p' ∧ (t.data.toList = [69, 77, 80, 84, 89] ∨ t.data.toList = [40] ∨ t.data.toList = [41]) := by
  cases l with
  | nil => rw [pb_nil] at h; exact absurd h (by simp)
  | cons t l =>
    by_cases hd : dep 0 t = 0
    · rw [pb_end _ _ _ _ hd] at h
      have := Option.some.inj h
      simp only [Prod.mk.injEq, decide_eq_true_eq] at this
      obtain ⟨rfl, h1⟩ := this
      exact ⟨t, [], rfl, Or.inl (h1.resolve_left (Nat.lt_irrefl 0))⟩
    · have ht : t.data.toList = [40] ∨ t.data.toList = [41] := by
        by_cases h1 : t.data.toList = [40]
        · exact Or.inl h1
        · by_cases h2 : t.data.toList = [41]
          · exact Or.inr h2
          · exfalso
            apply hd
            rw [dep, if_neg h1, if_neg h2]
      rw [pb_on _ _ _ _ hd] at h
      obtain ⟨⟨p', b'⟩, hp, he⟩ := Option.map_eq_some_iff.mp h
      simp only [Prod.mk.injEq] at he
      obtain ⟨rfl, rfl⟩ := he
      exact ⟨t, p', rfl, Or.inr ht⟩
/-- No parenthesis among tokens. -/
def NoPar (p : List ByteArray) : Prop := ∀ t ∈ p, t.data.toList ≠ [40] ∧ t.data.toList ≠ [41]
theorem NoPar.app {p q} (h : NoPar p) (k : NoPar q) : NoPar (p ++ q) := fun t ht => by
  rcases List.mem_append.mp ht with h1 | h1
  · exact h t h1
  · exact k t h1
theorem num_nopar {t} (h : TNum t) : t.data.toList ≠ [40] ∧ t.data.toList ≠ [41] := by
  have key : ∀ c : Nat, (c = 40 ∨ c = 41) → t.data.toList ≠ [UInt8.ofNat c] := by
    intro c hc he
    have h0 := h.ch 0 h.pos
    have : (t[0]'h.pos).toNat = c := by
      have e2 : t.data.toList[0]? = some (UInt8.ofNat c) := by rw [he]; rfl
      have e3 : t.data.toList[0]? = some (t[0]'h.pos) := by
        rw [Array.getElem?_toList]
        exact Array.getElem?_eq_getElem h.pos
      rw [e3] at e2
      rw [Option.some.inj e2]
      simp
      omega
    unfold NumCh at h0
    omega
  exact ⟨key 40 (by omega), key 41 (by omega)⟩
theorem Lit.frame {T F ts x ts'} (h : Lit T F ts x ts') : ∃ p, ts = p ++ ts' ∧ NoPar p ∧ ∀ u, Lit T F (p ++ u) x u := by
  cases h with
  | pos h hx =>
    refine ⟨[_], rfl, fun t ht => ?_, fun u => .pos h hx⟩
    obtain rfl := List.mem_singleton.mp ht
    exact num_nopar h
  | neg h hx =>
    refine ⟨[_, _], rfl, fun t ht => ?_, fun u => .neg h hx⟩
    rcases List.mem_cons.mp ht with rfl | ht
    · exact ⟨by decide, by decide⟩
    · obtain rfl := List.mem_singleton.mp ht
      exact num_nopar h
theorem Lits.frame {T F ts xs ts'} (h : Lits T F ts xs ts') : ∃ p, ts = p ++ ts' ∧ NoPar p ∧ ∀ u, Lits T F (p ++ u) xs u := by
  induction h with
  | nil => exact ⟨[], rfl, fun t ht => by simp at ht, fun u => .nil⟩
  | snoc h k ih =>
    obtain ⟨p, rfl, hp, hu⟩ := ih
    obtain ⟨q, rfl, hq, hv⟩ := k.frame
    refine ⟨p ++ q, by simp, hp.app hq, fun u => ?_⟩
    have h1 := hu (q ++ u)
    rw [← List.append_assoc] at h1
    exact .snoc h1 (hv u)
theorem TailR.frame {T F N ts xs r} (h : TailR T F N ts xs r) : ∃ p t, ts = p ++ t :: r ∧ NoPar p ∧ t.data.toList = [41] ∧ ∀ u, TailR T F N (p ++ t :: u) xs u := by
  induction h with
  | close h =>
    refine ⟨[], _, rfl, fun t ht => by simp at ht, ?_, fun u => .close h⟩
    rw [← ByteArray.toList_eq]; exact h
  | comma h hl hn hz ih =>
    rename_i t ts ys ts' zs r
    obtain ⟨p, c, rfl, hp, hc, hu⟩ := ih
    obtain ⟨q, rfl, hq, hv⟩ := hl.frame
    refine ⟨t :: (q ++ p), c, by simp, ?_, hc, fun u => ?_⟩
    · intro t' ht'
      rcases List.mem_cons.mp ht' with rfl | ht'
      · rw [← ByteArray.toList_eq, h]; exact ⟨by decide, by decide⟩
      · exact (hq.app hp) t' ht'
    · have h1 := hv (p ++ c :: u)
      have h2 : TailR T F N (t :: (q ++ (p ++ c :: u))) (ys ++ zs) u := .comma h h1 hn (hu u)
      simpa using h2
theorem TailR.det {T F N ts xs r} (h : TailR T F N ts xs r) : ∀ {ys r'}, TailR T F N ts ys r' → xs = ys ∧ r = r' := by
  induction h with
  | close h =>
    intro ys r' k
    cases k with
    | close k => exact ⟨rfl, rfl⟩
    | comma k => rw [h] at k; exact absurd k (by decide)
  | comma h hl hn hz ih =>
    intro ys r' k
    cases k with
    | close k => rw [h] at k; exact absurd k (by decide)
    | comma k kl kn kz =>
      obtain ⟨rfl, rfl⟩ := hl.det kl (by omega)
      obtain ⟨rfl, rfl⟩ := ih kz
      exact ⟨rfl, rfl⟩
theorem BodyR.det {T F N ts xs r} (h : BodyR T F N ts xs r) : ∀ {ys r'}, BodyR T F N ts ys r' → xs = ys ∧ r = r' := by
  intro ys r' k
  cases h with
  | empty h =>
    cases k with
    | empty k => exact ⟨rfl, rfl⟩
    | some k => rw [h] at k; exact absurd k (by decide)
  | some h hl hn hz =>
    cases k with
    | empty k => rw [h] at k; exact absurd k (by decide)
    | some k kl kn kz =>
      obtain ⟨rfl, rfl⟩ := hl.det kl (by omega)
      obtain ⟨rfl, rfl⟩ := hz.det kz
      exact ⟨rfl, rfl⟩
theorem pb_close : ∀ (p : List ByteArray) (i : Nat) (c : ByteArray) (r : List ByteArray), NoPar p → c.data.toList = [41] → 0 < i → pb 1 i (p ++ c :: r) = some (p ++ [c], true) := by
  intro p
  induction p with
  | nil =>
    intro i c r hp hc hi
    have hd : dep 1 c = 0 := by
      rw [dep, if_neg (by rw [hc]; decide), if_pos hc]; rfl
    show pb 1 i (c :: r) = _
    rw [pb_end _ _ _ _ hd, decide_eq_true (Or.inl hi)]
    rfl
  | cons t p ih =>
    intro i c r hp hc hi
    have h1 := hp t (List.mem_cons_self ..)
    have hd : dep 1 t = 1 := by rw [dep, if_neg h1.1, if_neg h1.2]
    show pb 1 i (t :: (p ++ c :: r)) = _
    rw [pb_on _ _ _ _ (by rw [hd]; decide), hd, ih (i + 1) c r (fun q hq => hp q (List.mem_cons_of_mem _ hq)) hc (by omega)]
    rfl
theorem body_pb {T F N ts xs} (h : Body T F N ts xs) : ∃ p, pb 0 0 ts = some (p, true) ∧ BodyR T F N p xs [] := by
  obtain ⟨r, hr⟩ := h.rest
  cases hr with
  | @empty t ts hE =>
    have h' : t.data.toList = [69, 77, 80, 84, 89] := by rw [← ByteArray.toList_eq]; exact hE
    refine ⟨[t], ?_, .empty hE⟩
    rw [pb_end _ _ _ _ (by rw [dep, h']; decide), decide_eq_true (Or.inr h')]
  | @some t ts ys ts' zs r hE hl hn hz =>
    obtain ⟨p, c, rfl, hp, hc, hu⟩ := hz.frame
    obtain ⟨q, rfl, hq, hv⟩ := hl.frame
    have h' : t.data.toList = [40] := by rw [← ByteArray.toList_eq]; exact hE
    have hd : dep 0 t = 1 := by rw [dep, if_pos h']; rfl
    refine ⟨t :: ((q ++ p) ++ [c]), ?_, ?_⟩
    · have h2 := pb_close (q ++ p) 1 c r (hq.app hp) hc (by omega)
      rw [pb_on _ _ _ _ (by rw [hd]; decide), hd, ← List.append_assoc, h2]
      rfl
    · have h1 := hv (p ++ [c])
      have h2 : BodyR T F N (t :: (q ++ (p ++ [c]))) (ys ++ zs) [] := .some hE h1 hn (hu [])
      simpa using h2
theorem BodyR.more {T F N p xs} (h : BodyR T F N p xs []) (r : List ByteArray) : Body T F N (p ++ r) xs := by
  cases h with
  | empty h => exact (BodyR.empty h).body
  | some h hl hn hz =>
    obtain ⟨p, c, rfl, hp, hc, hu⟩ := hz.frame
    obtain ⟨q, rfl, hq, hv⟩ := hl.frame
    have h1 := hv (p ++ c :: r)
    have h2 := BodyR.body (BodyR.some h h1 hn (hu r))
    simpa using h2
theorem pb_body {T F N ts p b xs} (h : pb 0 0 ts = some (p, b)) (k : BodyR T F N p xs []) : Body T F N ts xs := by
  obtain ⟨r, rfl⟩ := pb_prefix _ _ _ _ _ h
  exact k.more r
end Go.Proofs.YthplmbgdcfmkgaaGreatDoor
