/- Number tokens. -/
import Derived.Test.YthplmbgdcfmkgaaGreatDoorA16
import Derived.Test.YthplmbgdcfmkgaaGreatDoorA17
import Derived.Laws.BitsAllLaws
set_option linter.unusedVariables false
set_option linter.unusedSimpArgs false
/- The parser's small steps. -/
namespace Go.Proofs.YthplmbgdcfmkgaaGreatDoor
open Go.RowKit

/-- The places of the tokens from k on. -/
inductive Spans (s : ByteArray) : Nat → List (Nat × Nat) → Prop
  | fin {k : Nat} (h : Run wsb s k s.size) : Spans s k []
  | cons {k j i : Nat} {T : List (Nat × Nat)} (h : Run wsb s k j) (hj : j < s.size) (ht : TokEnd s j i) (hji : j ≤ i) (hT : Spans s i T) : Spans s k ((j, i) :: T)
/-- The parser ahead of the tokens ts. -/
def PS (B g r : Nat) (s : ByteArray) (ts : List ByteArray) (w : World) : Prop := ∃ k T, LexS B g r s k w ∧ Spans s k T ∧ ts = T.map fun p => sub s p.1 p.2
/-- What the text is, and what the program's own variables hold. -/
structure Env (B : Nat) (s : ByteArray) (w : World) : Prop where
  pl : Plain s
  nu : ∀ t, t < s.size → chAt s t ≠ 95
  we : WEof w
  b24 : 16 ≤ B
theorem Env.below {B s w w'} (h : Env B s w) (k : Below B w w') : Env B s w' := ⟨h.pl, h.nu, h.we.below k h.b24, h.b24⟩
theorem PS.kept {B g r s ts w w'} (h : PS B g r s ts w) (k : Below w.heap.size w w') (hB : B ≤ w.heap.size) : PS B g r s ts w' := by
  obtain ⟨n, T, h1, h2, h3⟩ := h
  exact ⟨n, T, h1.kept (fun i o hi => by rw [k.block i (Array.getElem?_eq_some_iff.mp hi).1]; exact hi) (k.mono hB), h2, h3⟩
theorem PS.blk {B g r s ts w} (h : PS B g r s ts w) : Blk g w ∧ B ≤ g ∧ r ≠ g := by
  obtain ⟨n, T, h1, h2, h3⟩ := h
  exact h1.blk
/-- An error. -/
def IsErr (e : Ending) : Prop := ∃ u v, e = .returned (.tuple #[.string ⟨#[]⟩, .iface u v])
theorem lex_tok {B g r s ts w} (he : Env B s w) (h : PS B g r s ts w) :
    Calls Tryz.prog 58 #[.pointer (some ⟨g, 0, none⟩)] w fun e w' => GX B g r w w' ∧ ((ts = [] ∧ ∃ v, e = .returned (.tuple #[.string ⟨#[]⟩, .iface 132 v])) ∨ (∃ t ts', ts = t :: ts' ∧ e = .returned (.tuple #[.string t, .nilIface]) ∧ PS B g r s ts' w')) := by
  obtain ⟨k, T, h1, h2, h3⟩ := h
  cases h2 with
  | fin hR =>
    refine (lex_next B g r s k s.size s.size w he.pl he.nu h1 he.we hR (Or.inl ⟨rfl, rfl⟩) (Nat.le_refl _)).mono ?_
    rintro e w' ⟨hg, ⟨hlt, _⟩ | ⟨_, hv⟩⟩
    · omega
    · exact ⟨hg, Or.inl ⟨h3, hv⟩⟩
  | cons hR hj hT hji hS =>
    refine (lex_next B g r s k _ _ w he.pl he.nu h1 he.we hR hT hji).mono ?_
    rintro e w' ⟨hg, ⟨_, hv, hL⟩ | ⟨hlt, _⟩⟩
    · exact ⟨hg, Or.inr ⟨_, _, h3, hv, ⟨_, _, hL, hS, rfl⟩⟩⟩
    · omega
set_option maxRecDepth 100000 in
theorem want_err (a b : ByteArray) (w : World) : Calls Tryz.prog 59 #[.string a, .string b] w fun e w' => (∃ v, e = .returned (.iface 132 v)) ∧ w' = w := by
  go_enter Tryz.func59, Tryz.ntmps59
  go_wp2_with fail
  go_ret
  exact ⟨⟨_, rfl⟩, rfl⟩
/-- EMPTY or a parenthesis. -/
def empty_or_parenPost (B g r : Nat) (s : ByteArray) (ts : List ByteArray) (w : World) (e : Ending) (w' : World) : Prop :=
  GX B g r w w' ∧ ((∃ t ts', ts = t :: ts' ∧ (t.toList = [69, 77, 80, 84, 89] ∨ t.toList = [40]) ∧ e = .returned (.tuple #[.string t, .nilIface]) ∧ PS B g r s ts' w') ∨ ((ts = [] ∨ ∃ t ts', ts = t :: ts' ∧ t.toList ≠ [69, 77, 80, 84, 89] ∧ t.toList ≠ [40]) ∧ IsErr e))
set_option maxRecDepth 100000 in
theorem empty_or_paren {B g r s ts w} (he : Env B s w) (h : PS B g r s ts w) : Calls Tryz.prog 41 #[.pointer (some ⟨g, 0, none⟩)] w (empty_or_parenPost B g r s ts w) := by
  have HE := Lib.hid he
  have HP := Lib.hid h
  clear he h
  go_enter Tryz.func41, Tryz.ntmps41
  go_wp2_with fail
  refine (lex_tok HE.out HP.out).mono ?_
  rintro e w1 ⟨hG, ⟨hts, v, rfl⟩ | ⟨t, ts', hts, rfl, hP1⟩⟩
  · have HG := Lib.hid hG
    have HT := Lib.hid hts
    clear hG hts
    go_wp2_with fail
    go_ret2
    exact ⟨HG.out, Or.inr ⟨Or.inl HT.out, _, _, rfl⟩⟩
  · have HG := Lib.hid hG
    have HT := Lib.hid hts
    have HP1 := Lib.hid hP1
    clear hG hts hP1
    by_cases h1 : t.toList = [69, 77, 80, 84, 89]
    · have t1 : (t.toList == [69, 77, 80, 84, 89]) = true := by rw [beq_iff_eq]; exact h1
      have H1 := Lib.hid h1
      clear h1
      go_wp2_with fail
      go_ret2
      exact ⟨HG.out, Or.inl ⟨t, ts', HT.out, Or.inl H1.out, rfl, HP1.out⟩⟩
    · have t1 : (t.toList == [69, 77, 80, 84, 89]) = false := by rw [beq_eq_false_iff_ne]; exact h1
      have H1 := Lib.hid h1
      clear h1
      by_cases h2 : t.toList = [40]
      · have t2 : (t.toList == [40]) = true := by rw [beq_iff_eq]; exact h2
        have H2 := Lib.hid h2
        clear h2
        go_wp2_with fail
        go_ret2
        exact ⟨HG.out, Or.inl ⟨t, ts', HT.out, Or.inr H2.out, rfl, HP1.out⟩⟩
      · have t2 : (t.toList == [40]) = false := by rw [beq_eq_false_iff_ne]; exact h2
        have H2 := Lib.hid h2
        clear h2
        go_wp2_with fail
        refine (want_err _ _ _).mono ?_
        rintro e w2 ⟨⟨v, rfl⟩, hw⟩
        obtain rfl := hw.symm
        go_wp2_with fail
        go_ret2
        exact ⟨HG.out, Or.inr ⟨Or.inr ⟨t, ts', HT.out, H1.out, H2.out⟩, _, _, rfl⟩⟩
/-- A parenthesis or a comma. -/
def comma_or_parenPost (B g r : Nat) (s : ByteArray) (ts : List ByteArray) (w : World) (e : Ending) (w' : World) : Prop :=
  GX B g r w w' ∧ ((∃ t ts', ts = t :: ts' ∧ (t.toList = [41] ∨ t.toList = [44]) ∧ e = .returned (.tuple #[.string t, .nilIface]) ∧ PS B g r s ts' w') ∨ ((ts = [] ∨ ∃ t ts', ts = t :: ts' ∧ t.toList ≠ [41] ∧ t.toList ≠ [44]) ∧ IsErr e))
set_option maxRecDepth 100000 in
theorem comma_or_paren {B g r s ts w} (he : Env B s w) (h : PS B g r s ts w) : Calls Tryz.prog 43 #[.pointer (some ⟨g, 0, none⟩)] w (comma_or_parenPost B g r s ts w) := by
  have HE := Lib.hid he
  have HP := Lib.hid h
  clear he h
  go_enter Tryz.func43, Tryz.ntmps43
  go_wp2_with fail
  refine (lex_tok HE.out HP.out).mono ?_
  rintro e w1 ⟨hG, ⟨hts, v, rfl⟩ | ⟨t, ts', hts, rfl, hP1⟩⟩
  · have HG := Lib.hid hG
    have HT := Lib.hid hts
    clear hG hts
    go_wp2_with fail
    go_ret2
    exact ⟨HG.out, Or.inr ⟨Or.inl HT.out, _, _, rfl⟩⟩
  · have HG := Lib.hid hG
    have HT := Lib.hid hts
    have HP1 := Lib.hid hP1
    clear hG hts hP1
    by_cases h1 : t.toList = [41]
    · have t1 : (t.toList == [41]) = true := by rw [beq_iff_eq]; exact h1
      have H1 := Lib.hid h1
      clear h1
      go_wp2_with fail
      go_ret2
      exact ⟨HG.out, Or.inl ⟨t, ts', HT.out, Or.inl H1.out, rfl, HP1.out⟩⟩
    · have t1 : (t.toList == [41]) = false := by rw [beq_eq_false_iff_ne]; exact h1
      have H1 := Lib.hid h1
      clear h1
      by_cases h2 : t.toList = [44]
      · have t2 : (t.toList == [44]) = true := by rw [beq_iff_eq]; exact h2
        have H2 := Lib.hid h2
        clear h2
        go_wp2_with fail
        go_ret2
        exact ⟨HG.out, Or.inl ⟨t, ts', HT.out, Or.inr H2.out, rfl, HP1.out⟩⟩
      · have t2 : (t.toList == [44]) = false := by rw [beq_eq_false_iff_ne]; exact h2
        have H2 := Lib.hid h2
        clear h2
        go_wp2_with fail
        refine (want_err _ _ _).mono ?_
        rintro e w2 ⟨⟨v, rfl⟩, hw⟩
        obtain rfl := hw.symm
        go_wp2_with fail
        go_ret2
        exact ⟨HG.out, Or.inr ⟨Or.inr ⟨t, ts', HT.out, H1.out, H2.out⟩, _, _, rfl⟩⟩
end Go.Proofs.YthplmbgdcfmkgaaGreatDoor
/- Numbers: no NaN, no infinity; the sign turned. -/
namespace Go.Proofs.YthplmbgdcfmkgaaGreatDoor
open Go.RowKit

theorem log2_up (m k : Nat) (hm : m ≠ 0) : (m * 2 ^ k).log2 = m.log2 + k := by
  have h0 : 0 < 2 ^ k := Nat.two_pow_pos k
  rw [Nat.log2_eq_iff (Nat.mul_ne_zero hm (by omega))]
  have h1 := Nat.log2_self_le hm
  have h2 : m < 2 ^ (m.log2 + 1) := Nat.lt_log2_self
  refine ⟨?_, ?_⟩
  · rw [Nat.pow_add]; exact Nat.mul_le_mul_right _ h1
  · rw [show m.log2 + k + 1 = m.log2 + 1 + k by omega, Nat.pow_add]; exact (Nat.mul_lt_mul_right h0).2 h2
theorem cut_back (m k : Nat) : Ieee.Toward.even.cut false (m * 2 ^ k) k = m := by
  unfold Ieee.Toward.cut
  by_cases hm : m = 0
  · subst hm
    simp
  · have hlog : (m * 2 ^ k).log2 = m.log2 + k := by
      rw [log2_up _ _ hm]
    have hgap : (1 <<< min k ((m * 2 ^ k).log2 + 2)) = 2 ^ k := by
      rw [Nat.min_eq_left (by omega), Nat.one_shiftLeft]
    simp only [hgap]
    have h0 : 0 < 2 ^ k := Nat.two_pow_pos k
    rw [Nat.mul_div_cancel _ h0, Nat.mul_mod_left]
    simp
theorem mg_log_sub {a : Nat} (h : a < 4503599627370496) (h0 : a ≠ 0) : (mg a).log2 ≤ 51 := by
  unfold mg
  rw [if_pos h]
  exact log_le_of_lt h
theorem mulR_one (a : Nat) (ha : a < 9218868437227405312) : mulR a 4607182418800017408 = a := by
  have h1 : mg 4607182418800017408 = 4503599627370496 := by decide
  have h2 : pl 4607182418800017408 = -52 := by decide
  unfold mulR
  rw [h1, h2]
  by_cases h0 : a = 0
  · subst h0; decide
  · have hm0 : mg a ≠ 0 := by unfold mg; split <;> omega
    have hp : (4503599627370496 : Nat) = 2 ^ 52 := by decide
    have hlog : (mg a * 4503599627370496).log2 = (mg a).log2 + 52 := by rw [hp, log2_up _ _ hm0]
    unfold near
    rw [if_neg (Nat.mul_ne_zero hm0 (by decide)), hlog]
    by_cases hs : a < 4503599627370496
    · have hl := mg_log_sub hs h0
      have hpl : pl a = -1074 := by unfold pl; rw [if_pos hs]
      have hmx : max (pl a + -52 + (((mg a).log2 + 52 : Nat) : Int) - 52) (-1074) = -1074 := by rw [hpl]; omega
      rw [hmx, hpl]
      have hc := cut_back (mg a) 52
      rw [← hp] at hc
      show min ((-1074 + 1074 : Int).toNat * 4503599627370496 + Ieee.Toward.even.cut false ((mg a * 4503599627370496) <<< 0) 52) 9218868437227405312 = a
      rw [Nat.shiftLeft_zero, hc]
      have : mg a = a := by unfold mg; rw [if_pos hs]
      rw [this]
      simp
      omega
    · have hmg : mg a = 4503599627370496 + a % 4503599627370496 := by unfold mg; rw [if_neg hs]
      have hl : (mg a).log2 = 52 := by
        rw [hmg]
        have h3 : 4503599627370496 + a % 4503599627370496 < 2 ^ 53 := by omega
        have h4 : 2 ^ 52 ≤ 4503599627370496 + a % 4503599627370496 := by omega
        exact (Nat.log2_eq_iff (by omega)).2 ⟨h4, h3⟩
      obtain ⟨q, hq⟩ : ∃ q, q = a / 4503599627370496 := ⟨_, rfl⟩
      have hpl : pl a = -1074 + ((q - 1 : Nat) : Int) := by unfold pl; rw [if_neg hs, hq]
      have hmx : max (pl a + -52 + (((mg a).log2 + 52 : Nat) : Int) - 52) (-1074) = pl a := by rw [hl, hpl]; omega
      rw [hmx]
      have hz : (pl a + -52 - pl a).toNat = 0 := by omega
      have hz2 : (pl a - (pl a + -52)).toNat = 52 := by omega
      have hc := cut_back (mg a) 52
      rw [← hp] at hc
      rw [hz, hz2, Nat.shiftLeft_zero, hc]
      have hq1 : (pl a + 1074).toNat = q - 1 := by rw [hpl]; omega
      rw [hq1, hmg]
      have hdm := Nat.div_add_mod a 4503599627370496
      rw [← hq] at hdm
      have hqpos : 1 ≤ q := by omega
      obtain ⟨q', rfl⟩ : ∃ q', q = q' + 1 := ⟨q - 1, by omega⟩
      obtain ⟨u, hu⟩ : ∃ u, u = a % 4503599627370496 := ⟨_, rfl⟩
      rw [← hu] at hdm ⊢
      rw [Nat.add_sub_cancel]
      have : q' * 4503599627370496 + (4503599627370496 + u) = a := by omega
      rw [this]
      omega
theorem neg_one (neg : Bool) (a : Nat) (ha : a < 9218868437227405312) : floatBits .mul .f64 (sgn neg + a) 13830554455654793216 = some (sgn (!neg) + a) := by
  have h := mul_sgn neg true a 4607182418800017408 ha (by omega)
  have e : sgn true + 4607182418800017408 = 13830554455654793216 := by simp [sgn]
  have h2 := (congrArg (fun z => floatBits .mul .f64 (sgn neg + a) z) e).symm.trans h
  refine h2.trans ?_
  have h3 := mulR_one a ha
  have h4 : (neg ^^ true) = !neg := by cases neg <;> rfl
  exact (congrArg (fun z => some (sgn (neg ^^ true) + z)) h3).trans (by rw [h4])
theorem order_self (neg : Bool) (a : Nat) (ha : a < 9218868437227405312) : (Ieee.double.order (sgn neg + a) (sgn neg + a) == some .eq) = true := by
  rw [order_sgn _ _ _ _ ha ha, Int.compare_eq_eq.2 rfl]; rfl
theorem order_max (a : Nat) (ha : a < 9218868437227405312) : (Ieee.double.order a 9218868437227405311 == some .gt) = false := by
  have e : Ieee.double.order a 9218868437227405311 = Ieee.double.order (sgn false + a) (sgn false + 9218868437227405311) := by rw [sgn_no, sgn_no]
  rw [e, order_sgn _ _ _ _ ha (by decide), cmp_gt, decide_eq_false_iff_not]
  have h1 : mg 9218868437227405311 = 9007199254740991 := by decide
  have h2 : pl 9218868437227405311 = 971 := by decide
  rw [h1, h2]
  have hpa : pl a ≤ 971 := by
    unfold pl
    split
    · omega
    · have : a / 4503599627370496 ≤ 2046 := by omega
      omega
  have hma : mg a ≤ 9007199254740991 := by
    unfold mg
    split <;> omega
  rw [Int.min_eq_left hpa]
  have hz : (pl a - pl a).toNat = 0 := by omega
  rw [hz]
  unfold Ieee.signed
  simp only [Bool.false_eq_true, if_false, Nat.shiftLeft_zero]
  have : 9007199254740991 ≤ 9007199254740991 <<< (971 - pl a).toNat := by
    rw [Nat.shiftLeft_eq]
    exact Nat.le_mul_of_pos_right _ (Nat.two_pow_pos _)
  omega
theorem abs_bits (neg : Bool) (a : Nat) (ha : a < 9223372036854775808) : bits .andNot .u64 ((sgn neg + a : Nat) : Int) 9223372036854775808 = (a : Int) := by
  have h1 : sgn neg + a < 18446744073709551616 := by cases neg <;> simp [sgn] <;> omega
  have := u64_andNot_nat (sgn neg + a) 9223372036854775808 h1 (by decide)
  rw [show (18446744073709551615 - 9223372036854775808 : Nat) = 2 ^ 63 - 1 by decide, Nat.and_two_pow_sub_one_eq_mod] at this
  have h2 : (sgn neg + a) % 2 ^ 63 = a := by
    cases neg
    · simp [sgn]; omega
    · simp only [sgn, if_true]; omega
  rw [h2] at this
  exact this
set_option maxRecDepth 100000 in
theorem bits_run (x : Nat) (w : World) : (callFunc 39 #[.float .f64 x]).run Tryz.prog w = .ok (.value (.int .u64 x)) w := by
  rw [run_callFunc_extern (fn := Tryz.f39) (e := Extern.MathFloatBits.float64bits) rfl (by kernel_rfl) rfl (by kernel_rfl) (by kernel_rfl)]
  rfl
set_option maxRecDepth 100000 in
theorem frombits2_run (x : Int) (w : World) : (callFunc 102 #[.int .u64 x]).run Tryz.prog w = .ok (.value (.float .f64 x.toNat)) w := by
  rw [run_callFunc_extern (fn := Tryz.f102) (e := Extern.MathFloatBits.float64frombits) rfl (by kernel_rfl) rfl (by kernel_rfl) (by kernel_rfl)]
  rfl
end Go.Proofs.YthplmbgdcfmkgaaGreatDoor
/- A signed number. -/
namespace Go.Proofs.YthplmbgdcfmkgaaGreatDoor
open Go.RowKit

set_option maxRecDepth 100000 in
theorem is_nan (f : Nat) (b : Bool) (w : World) (h : (Ieee.double.order f f == some .eq) = !b) : Calls Tryz.prog 67 #[.float .f64 f] w fun e w' => e = .returned (.bool b) ∧ w' = w := by
  have H := Lib.hid h
  clear h
  go_enter Tryz.func67, Tryz.ntmps67
  go_wp2_with fail
  go_ret
  refine ⟨congrArg (fun b => Ending.returned (Value.bool b)) ?_, rfl⟩
  show (!(Ieee.double.order f f == some .eq)) = b
  rw [H.out]
  cases b <;> rfl
set_option maxRecDepth 100000 in
theorem abs_ok (neg : Bool) (a : Nat) (ha : a < 9223372036854775808) (w : World) : Calls Tryz.prog 85 #[.float .f64 (sgn neg + a)] w fun e w' => e = .returned (.float .f64 a) ∧ w' = w := by
  have hb := abs_bits neg a ha
  have h1 := bits_run
  have h2 := frombits2_run
  obtain ⟨x, hx⟩ : ∃ x, x = sgn neg + a := ⟨_, rfl⟩
  rw [← hx] at hb ⊢
  clear hx
  go_enter Tryz.func85, Tryz.ntmps85
  go_wp2_with fail
  go_ret
  exact ⟨rfl, rfl⟩
set_option maxRecDepth 100000 in
theorem is_inf (neg : Bool) (a : Nat) (b : Bool) (ha : a < 9223372036854775808) (w : World) (h : (Ieee.double.order a 9218868437227405311 == some .gt) = b) :
    Calls Tryz.prog 68 #[.float .f64 (sgn neg + a), .int .i64 0] w fun e w' => e = .returned (.bool b) ∧ w' = w := by
  have hq' : (FloatKind.f64.format.order a 9218868437227405311 == some Ordering.gt) = b := h
  have HA := Lib.hid (abs_ok neg a ha w)
  obtain ⟨x, hx⟩ : ∃ x, x = sgn neg + a := ⟨_, rfl⟩
  rw [← hx] at HA ⊢
  clear h hx
  cases b with
  | true =>
    go_enter Tryz.func68, Tryz.ntmps68
    go_wp2_with fail
    refine HA.out.mono ?_
    rintro e w2 ⟨rfl, hw⟩
    obtain rfl := hw.symm
    go_wp2_with fail
    go_ret
    exact ⟨rfl, rfl⟩
  | false =>
    go_enter Tryz.func68, Tryz.ntmps68
    go_wp2_with fail
    refine HA.out.mono ?_
    rintro e w2 ⟨rfl, hw⟩
    obtain rfl := hw.symm
    go_wp2_with fail
    go_ret
    exact ⟨rfl, rfl⟩
theorem nan_no (neg : Bool) (a : Nat) (ha : a < 9218868437227405312) (w : World) : Calls Tryz.prog 67 #[.float .f64 (sgn neg + a)] w fun e w' => e = .returned (.bool false) ∧ w' = w :=
  is_nan _ false w (by rw [order_self neg a ha]; rfl)
theorem inf_no (neg : Bool) (a : Nat) (ha : a < 9218868437227405312) (w : World) : Calls Tryz.prog 68 #[.float .f64 (sgn neg + a), .int .i64 0] w fun e w' => e = .returned (.bool false) ∧ w' = w :=
  is_inf neg a false (by omega) w (order_max a ha)
theorem nonum_yes (f : Nat) (h : NoNum f) (w : World) : (Calls Tryz.prog 67 #[.float .f64 f] w fun e w' => e = .returned (.bool true) ∧ w' = w) ∨
    ((Calls Tryz.prog 67 #[.float .f64 f] w fun e w' => e = .returned (.bool false) ∧ w' = w) ∧ Calls Tryz.prog 68 #[.float .f64 f, .int .i64 0] w fun e w' => e = .returned (.bool true) ∧ w' = w) := by
  rcases h with rfl | rfl | rfl
  · right
    refine ⟨is_nan _ false w (by decide), ?_⟩
    have := is_inf false 9218868437227405312 true (by omega) w (by decide)
    rwa [sgn_no] at this
  · right
    refine ⟨is_nan _ false w (by decide), ?_⟩
    have := is_inf true 9218868437227405312 true (by omega) w (by decide)
    rwa [show sgn true + 9218868437227405312 = 18442240474082181120 by simp [sgn]] at this
  · left
    exact is_nan _ true w (by decide)
end Go.Proofs.YthplmbgdcfmkgaaGreatDoor
/- The parser's signed number. -/
namespace Go.Proofs.YthplmbgdcfmkgaaGreatDoor
open Go.RowKit

/-- A token that is a decimal. -/
structure TNum (t : ByteArray) : Prop where
  size : t.size ≤ 3000
  pos : 0 < t.size
  ch : ∀ j (h : j < t.size), NumCh (t[j]'h).toNat
  first : isD (t[0]'pos).toNat ∨ (t[0]'pos).toNat = 46
/-- A word, a parenthesis or a comma. -/
structure TJunk (t : ByteArray) : Prop where
  size : t.size ≤ 3000
  pos : 0 < t.size
  pr : ∀ j (h : j < t.size), PrB (t[j]'h).toNat ∧ (t[j]'h).toNat ≠ 95
  first : ¬ isD (t[0]'pos).toNat ∧ (t[0]'pos).toNat ≠ 46 ∧ (t[0]'pos).toNat ≠ 43 ∧ (t[0]'pos).toNat ≠ 45
def TK (t : ByteArray) : Prop := TNum t ∨ t = ⟨#[45]⟩ ∨ TJunk t
theorem NumCh.pr {c : Nat} (h : NumCh c) : PrB c := by unfold NumCh at h; unfold PrB; omega
theorem TK.pr {t : ByteArray} (h : TK t) : t.size ≤ 3000 ∧ ∀ j (h : j < t.size), PrB (t[j]'h).toNat := by
  rcases h with h | rfl | h
  · exact ⟨h.size, fun j hj => (h.ch j hj).pr⟩
  · refine ⟨by decide, fun j hj => ?_⟩
    have : j = 0 := by have h1 : (⟨#[45]⟩ : ByteArray).size = 1 := rfl; omega
    subst this
    have h2 : ((⟨#[45]⟩ : ByteArray)[0]'hj).toNat = 45 := rfl
    rw [h2]
    unfold PrB
    omega
  · exact ⟨h.size, fun j hj => (h.pr j hj).1⟩
theorem TNum.not_minus (h : TNum ⟨#[45]⟩) : False := by
  rcases h.first with h | h
  · have h1 : (48 : Nat) ≤ 45 := h.1
    omega
  · have h1 : (45 : Nat) = 46 := h
    omega
theorem TNum.not_junk {t : ByteArray} (h : TNum t) (k : TJunk t) : False := by
  rcases h.first with h1 | h1
  · exact k.first.1 h1
  · exact k.first.2.1 h1
/-- A number from the tokens ts, and the tokens behind it. -/
inductive Lit (T : Nat → Nat × Nat) (F : Nat → Nat) : List ByteArray → Nat → List ByteArray → Prop
  | pos {t ts x} (h : TNum t) (hx : pfN T F t.data.toList = some (x, false)) : Lit T F (t :: ts) (sgn false + x) ts
  | neg {t ts x} (h : TNum t) (hx : pfN T F t.data.toList = some (x, false)) : Lit T F (⟨#[45]⟩ :: t :: ts) (sgn true + x) ts
/-- ParseFloat at a token. -/
def PfPost (T : Nat → Nat × Nat) (F : Nat → Nat) (B : Nat) (t : ByteArray) (w : World) (e : Ending) (w' : World) : Prop :=
  Below w.heap.size w w' ∧ ((∃ x, TNum t ∧ pfN T F t.data.toList = some (x, false) ∧ x < 9218868437227405312 ∧ e = .returned (.tuple #[.float .f64 (sgn false + x), .nilIface])) ∨
    ((¬ ∃ x, TNum t ∧ pfN T F t.data.toList = some (x, false)) ∧ ((∃ f, NoNum f ∧ e = .returned (.tuple #[.float .f64 f, .nilIface])) ∨ NumErr B t w e w')))
theorem pf_any {T F B t w} (h : TK t) (ht : TB B T F w) (hB : B ≤ w.heap.size) : Calls Tryz.prog 66 #[.string t, .int .i64 64] w (PfPost T F B t w) := by
  rcases h with h | rfl | h
  · have hf := h.first
    unfold isD at hf
    refine (parse_num T F B t w false 0 h.size (Sign.none h.pos (by omega) (by omega)) h.ch ht hB).mono ?_
    rintro e w' ⟨h1, ⟨x, h2, h3⟩ | ⟨h2, h3⟩⟩
    · exact ⟨h1, Or.inl ⟨x, h, h2, pfN_fin ht h2, h3⟩⟩
    · exact ⟨h1, Or.inr ⟨fun ⟨x, _, hx⟩ => h2 x hx, Or.inr h3⟩⟩
  · refine (parse_minus T F B _ w rfl rfl ht hB).mono ?_
    rintro e w' ⟨h1, h2⟩
    exact ⟨h1, Or.inr ⟨fun ⟨x, hx, _⟩ => hx.not_minus, h2⟩⟩
  · refine (parse_junk T F B t w h.size h.pos (fun j hj => (h.pr j hj).2) h.first.1 h.first.2.1 h.first.2.2.1 h.first.2.2.2 ht hB).mono ?_
    rintro e w' ⟨h1, h2⟩
    exact ⟨h1, Or.inr ⟨fun ⟨x, hx, _⟩ => hx.not_junk h, h2⟩⟩
theorem GX.of_below {B g r w w'} (h : Below w.heap.size w w') (hB : B ≤ w.heap.size) : GX B g r w w' :=
  ⟨h.mono hB, fun k o hk _ _ _ => by rw [h.block k (Array.getElem?_eq_some_iff.mp hk).1]; exact hk⟩
/-- What nextSignedNumericLiteral does. -/
def LitPost (T : Nat → Nat × Nat) (F : Nat → Nat) (B g r : Nat) (s : ByteArray) (ts : List ByteArray) (w : World) (e : Ending) (w' : World) : Prop :=
  GX B g r w w' ∧ ((∃ x ts', Lit T F ts x ts' ∧ e = .returned (.tuple #[.float .f64 x, .nilIface]) ∧ PS B g r s ts' w') ∨ ((¬ ∃ x ts', Lit T F ts x ts') ∧ ∃ f u v, e = .returned (.tuple #[.float .f64 f, .iface u v])))
theorem mul_run (neg : Bool) (x : Nat) (hx : x < 9218868437227405312) : ∀ t w, (binOp .mul t (.float .f64 (sgn neg + x)) (.float .f64 13830554455654793216)).run Tryz.prog w = .ok (.float .f64 (sgn (!neg) + x)) w := by
  intro t w
  exact run_float_arith w .mul t .f64 _ _ _ (neg_one neg x hx)
set_option maxHeartbeats 2000000 in
set_option maxRecDepth 100000 in
theorem signed_lit {T F B g r s ts w} (he : Env B s w) (h : PS B g r s ts w) (ht : TB B T F w) (hk : ∀ t ∈ ts, TK t) : Calls Tryz.prog 61 #[.pointer (some ⟨g, 0, none⟩)] w (LitPost T F B g r s ts w) := by
  have HE := Lib.hid he
  have HP := Lib.hid h
  have HT := Lib.hid ht
  have HK := Lib.hid hk
  clear he h ht hk
  go_enter Tryz.func61, Tryz.ntmps61
  go_wp2_with fail
  refine (lex_tok HE.out HP.out).mono ?_
  rintro e w1 ⟨hG, ⟨hts, v, rfl⟩ | ⟨t, ts', hts, rfl, hP1⟩⟩
  · have HG := Lib.hid hG
    have Hts := Lib.hid hts
    clear hG hts
    go_wp2_with fail
    go_ret2
    exact ⟨HG.out, Or.inr ⟨fun ⟨x, ts', hl⟩ => (by rw [Hts.out] at hl; cases hl), _, _, _, rfl⟩⟩
  · have HG := Lib.hid hG
    have Hts := Lib.hid hts
    have HP1 := Lib.hid hP1
    have hBs : B ≤ w1.heap.size := by have h1 := hP1.blk.2.1; have h2 := hP1.blk.1.lt; omega
    clear hG hts hP1
    by_cases h1 : t = ⟨#[45]⟩
    · have t1 : (t.toList == [45]) = true := by rw [h1, ByteArray.toList_eq]; decide
      have H1 := Lib.hid h1
      clear h1
      go_wp2_with fail
      refine (lex_tok (HE.out.below HG.out.below) HP1.out).mono ?_
      rintro e w2 ⟨hG2, ⟨hts, v, rfl⟩ | ⟨u, ts2, hts, rfl, hP2⟩⟩
      · have HG2 := Lib.hid hG2
        have Hts2 := Lib.hid hts
        clear hG2 hts
        go_wp2_with fail
        go_ret2
        refine ⟨HG.out.trans HG2.out, Or.inr ⟨fun ⟨x, ts', hl⟩ => ?_, _, _, _, rfl⟩⟩
        rw [Hts.out, Hts2.out, H1.out] at hl
        cases hl with
        | pos h _ => exact h.not_minus
      · have HG2 := Lib.hid hG2
        have Hts2 := Lib.hid hts
        have HP2 := Lib.hid hP2
        have hBs2 : B ≤ w2.heap.size := by have h1 := hP2.blk.2.1; have h2 := hP2.blk.1.lt; omega
        have hTK : Hid (TK u) := HK.out u (by rw [Hts.out, Hts2.out]; simp)
        have hgx : Hid (GX B g r w w2) := HG.out.trans HG2.out
        have hno : Hid ((¬ ∃ x, TNum u ∧ pfN T F u.data.toList = some (x, false)) → ¬ ∃ x ts', Lit T F ts x ts') := by
          rintro h ⟨x, ts', hl⟩
          rw [Hts.out, Hts2.out, H1.out] at hl
          cases hl with
          | pos h _ => exact h.not_minus
          | neg h1 h2 => exact h ⟨_, h1, h2⟩
        have hyes : Hid (∀ x, TNum u → pfN T F u.data.toList = some (x, false) → Lit T F ts (sgn true + x) ts2) := fun x h1 h2 => by
          rw [Hts.out, Hts2.out, H1.out]; exact Lit.neg h1 h2
        clear hG2 hts hP2
        go_wp2_with fail
        refine (pf_any hTK.out (HT.out.below hgx.out.below) hBs2).mono ?_
        rintro e w3 ⟨hb3, ⟨x, hn, hx, hfin, rfl⟩ | ⟨hbad, ⟨f, hf, rfl⟩ | herr⟩⟩
        · have HB3 := Lib.hid hb3
          have HL := Lib.hid (hyes.out x hn hx)
          have hp3 : Hid (PS B g r s ts2 w3) := HP2.out.kept hb3 hBs2
          have cn := fun W : World => nan_no false x hfin W
          have ci := fun W : World => inf_no false x hfin W
          have hmul := mul_run false x hfin
          have hn2 : sgn (!false) + x = sgn true + x := rfl
          rw [hn2] at hmul
          obtain ⟨f, hf⟩ : ∃ f, f = sgn false + x := ⟨_, rfl⟩
          obtain ⟨f2, hf2⟩ : ∃ f2, f2 = sgn true + x := ⟨_, rfl⟩
          rw [← hf] at cn ci hmul
          rw [← hf]
          rw [← hf2] at hmul
          have CN := Lib.hid cn
          have CI := Lib.hid ci
          have HF := Lib.hid hf
          have HF2 := Lib.hid hf2
          clear hb3 cn ci hf hf2 hn hx hfin hn2
          go_wp2_with fail
          refine (CN.out _).mono ?_
          rintro e w4 ⟨rfl, hw⟩
          obtain rfl := hw.symm
          go_wp2_with fail
          refine (CI.out _).mono ?_
          rintro e w4 ⟨rfl, hw⟩
          obtain rfl := hw.symm
          go_wp2_with fail
          go_ret2
          exact ⟨hgx.out.trans (GX.of_below HB3.out hBs2), Or.inl ⟨_, _, HL.out, by rw [← HF2.out]; rfl, hp3.out⟩⟩
        · have HB3 := Lib.hid hb3
          have HN := Lib.hid (hno.out hbad)
          have cf := nonum_yes f hf w3
          clear hb3 hbad hf
          rcases cf with c1 | ⟨c1, c2⟩
          · have C1 := Lib.hid c1
            clear c1
            go_wp2_with fail
            refine C1.out.mono ?_
            rintro e w4 ⟨rfl, hw⟩
            obtain rfl := hw.symm
            go_wp2_with fail
            go_ret2
            exact ⟨hgx.out.trans (GX.of_below HB3.out hBs2), Or.inr ⟨HN.out, _, _, _, rfl⟩⟩
          · have C1 := Lib.hid c1
            have C2 := Lib.hid c2
            clear c1 c2
            go_wp2_with fail
            refine C1.out.mono ?_
            rintro e w4 ⟨rfl, hw⟩
            obtain rfl := hw.symm
            go_wp2_with fail
            refine C2.out.mono ?_
            rintro e w4 ⟨rfl, hw⟩
            obtain rfl := hw.symm
            go_wp2_with fail
            go_ret2
            exact ⟨hgx.out.trans (GX.of_below HB3.out hBs2), Or.inr ⟨HN.out, _, _, _, rfl⟩⟩
        · obtain ⟨f, N, q, o, m, rfl, hN1, hN2, hq, hqc, hm⟩ := herr
          have HB3 := Lib.hid hb3
          have HN := Lib.hid (hno.out hbad)
          have cE := num_error B N q o u m w3 hTK.out.pr.1 hTK.out.pr.2 hm hN2 hq (by have := hb3.size; omega) hqc
          have CE := Lib.hid cE
          clear hb3 hbad cE hN1 hN2 hq hqc hm
          go_wp2_with fail
          refine CE.out.mono ?_
          rintro e w4 ⟨⟨msg, rfl⟩, hb4⟩
          have HB4 := Lib.hid hb4
          clear hb4
          go_wp2_with fail
          go_ret2
          exact ⟨(hgx.out.trans (GX.of_below HB3.out hBs2)).trans (GX.of_below HB4.out (by have := HB3.out.size; omega)), Or.inr ⟨HN.out, _, _, _, rfl⟩⟩
    · have t1 : (t.toList == [45]) = false := by
        rw [beq_eq_false_iff_ne]
        intro e
        apply h1
        have h2 : t.data.toList = [45] := by rw [← ByteArray.toList_eq]; exact e
        exact ByteArray.ext (Array.toList_inj.mp h2)
      have H1 := Lib.hid h1
      clear h1
      obtain ⟨u, hu⟩ : ∃ u, u = t := ⟨_, rfl⟩
      obtain ⟨w2, hw2⟩ : ∃ w2, w2 = w1 := ⟨_, rfl⟩
      obtain rfl := hu
      obtain rfl := hw2
      have HP2 := HP1
      have hBs2 := hBs
      have hTK : Hid (TK u) := HK.out u (by rw [Hts.out]; simp)
      have hgx : Hid (GX B g r w w2) := HG.out
      have hno : Hid ((¬ ∃ x, TNum u ∧ pfN T F u.data.toList = some (x, false)) → ¬ ∃ x ts', Lit T F ts x ts') := by
        rintro h ⟨x, ts'', hl⟩
        rw [Hts.out] at hl
        cases hl with
        | pos h1 h2 => exact h ⟨_, h1, h2⟩
        | neg h1 h2 => exact H1.out rfl
      have hyes : Hid (∀ x, TNum u → pfN T F u.data.toList = some (x, false) → Lit T F ts (sgn false + x) ts') := fun x h1 h2 => by
        rw [Hts.out]; exact Lit.pos h1 h2
      go_wp2_with fail
      refine (pf_any hTK.out (HT.out.below hgx.out.below) hBs2).mono ?_
      rintro e w3 ⟨hb3, ⟨x, hn, hx, hfin, rfl⟩ | ⟨hbad, ⟨f, hf, rfl⟩ | herr⟩⟩
      · have HB3 := Lib.hid hb3
        have HL := Lib.hid (hyes.out x hn hx)
        have hp3 : Hid (PS B g r s ts' w3) := HP2.out.kept hb3 hBs2
        have cn := fun W : World => nan_no false x hfin W
        have ci := fun W : World => inf_no false x hfin W
        have hmul := mul_run false x hfin
        have hn2 : sgn (!false) + x = sgn true + x := rfl
        rw [hn2] at hmul
        obtain ⟨f, hf⟩ : ∃ f, f = sgn false + x := ⟨_, rfl⟩
        obtain ⟨f2, hf2⟩ : ∃ f2, f2 = sgn true + x := ⟨_, rfl⟩
        rw [← hf] at cn ci hmul
        rw [← hf]
        rw [← hf2] at hmul
        have CN := Lib.hid cn
        have CI := Lib.hid ci
        have HF := Lib.hid hf
        have HF2 := Lib.hid hf2
        clear hb3 cn ci hf hf2 hn hx hfin hn2
        go_wp2_with fail
        refine (CN.out _).mono ?_
        rintro e w4 ⟨rfl, hw⟩
        obtain rfl := hw.symm
        go_wp2_with fail
        refine (CI.out _).mono ?_
        rintro e w4 ⟨rfl, hw⟩
        obtain rfl := hw.symm
        go_wp2_with fail
        go_ret2
        exact ⟨hgx.out.trans (GX.of_below HB3.out hBs2), Or.inl ⟨_, _, HL.out, by rw [← HF.out]; rfl, hp3.out⟩⟩
      · have HB3 := Lib.hid hb3
        have HN := Lib.hid (hno.out hbad)
        have cf := nonum_yes f hf w3
        clear hb3 hbad hf
        rcases cf with c1 | ⟨c1, c2⟩
        · have C1 := Lib.hid c1
          clear c1
          go_wp2_with fail
          refine C1.out.mono ?_
          rintro e w4 ⟨rfl, hw⟩
          obtain rfl := hw.symm
          go_wp2_with fail
          go_ret2
          exact ⟨hgx.out.trans (GX.of_below HB3.out hBs2), Or.inr ⟨HN.out, _, _, _, rfl⟩⟩
        · have C1 := Lib.hid c1
          have C2 := Lib.hid c2
          clear c1 c2
          go_wp2_with fail
          refine C1.out.mono ?_
          rintro e w4 ⟨rfl, hw⟩
          obtain rfl := hw.symm
          go_wp2_with fail
          refine C2.out.mono ?_
          rintro e w4 ⟨rfl, hw⟩
          obtain rfl := hw.symm
          go_wp2_with fail
          go_ret2
          exact ⟨hgx.out.trans (GX.of_below HB3.out hBs2), Or.inr ⟨HN.out, _, _, _, rfl⟩⟩
      · obtain ⟨f, N, q, o, m, rfl, hN1, hN2, hq, hqc, hm⟩ := herr
        have HB3 := Lib.hid hb3
        have HN := Lib.hid (hno.out hbad)
        have cE := num_error B N q o u m w3 hTK.out.pr.1 hTK.out.pr.2 hm hN2 hq (by have := hb3.size; omega) hqc
        have CE := Lib.hid cE
        clear hb3 hbad cE hN1 hN2 hq hqc hm
        go_wp2_with fail
        refine CE.out.mono ?_
        rintro e w4 ⟨⟨msg, rfl⟩, hb4⟩
        have HB4 := Lib.hid hb4
        clear hb4
        go_wp2_with fail
        go_ret2
        exact ⟨(hgx.out.trans (GX.of_below HB3.out hBs2)).trans (GX.of_below HB4.out (by have := HB3.out.size; omega)), Or.inr ⟨HN.out, _, _, _, rfl⟩⟩
end Go.Proofs.YthplmbgdcfmkgaaGreatDoor
