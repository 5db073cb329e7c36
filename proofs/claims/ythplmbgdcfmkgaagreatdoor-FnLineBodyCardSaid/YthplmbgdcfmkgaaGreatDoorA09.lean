/- atof64, ParseFloat. -/
import Derived.Test.YthplmbgdcfmkgaaGreatDoorA08
import Derived.Test.YthplmbgdcfmkgaaGreatDoorA04
import Derived.Test.YthplmbgdcfmkgaaGreatDoorA07
import Derived.Test.YthplmbgdcfmkgaaGreatDoorA05
set_option linter.unusedVariables false
set_option linter.unusedSimpArgs false
/- The library's atof64. -/
namespace Go.Proofs.YthplmbgdcfmkgaaGreatDoor
open Go.RowKit

/-- The library's tables. -/
structure FT (B : Nat) (T : Nat → Nat × Nat) (F : Nat → Nat) (w : World) : Prop where
  info : Info B w
  powtab : Powtab B w
  cheats : Cheats B w
  pow10 : Pow10 B T w
  flo10 : Flo10 B F w
  opt : w.cell? ⟨9, 0, none⟩ = some (.bool true)
theorem FT.below {B T F w w'} (h : FT B T F w) (k : Below B w w') : FT B T F w' :=
  ⟨h.info.below k, h.powtab.below k, h.cheats.below k, h.pow10.below k, h.flo10.below k, by rw [k.cell (show 9 < B by have := h.info.b; omega)]; exact h.opt⟩

theorem fb_calls (s : DS) (hs : s.n ≤ 800 ∧ (1 ≤ s.n → s.Good)) (neg : Bool) (w : World) (g B : Nat) (hgB : B ≤ g) (h : DecS w g s neg) (hi : Info B w) (hp : Powtab B w) (hc : Cheats B w) :
    Calls Tryz.prog 122 #[.pointer (some ⟨g, 0, none⟩), .pointer (some ⟨10, 0, none⟩)] w fun e w' => e = .returned (.tuple #[.int .u64 ((sgn neg + (fbF s).1 : Nat) : Int), .bool (fbF s).2]) ∧ Only g w w' := by
  by_cases h0 : s.n = 0
  · have hr : fbRes s = (0, -1023, false) := by rw [fbRes, if_pos h0]
    have hd : Dec w g s.D 0 s.dp neg s.tr := by have := h; unfold DecS at this; rw [h0] at this; exact this
    refine (fb_zero s.D s.dp s.tr neg w g hd B hi).mono fun e w' h => ⟨?_, h.2.only g⟩
    rw [h.1, fbOut_sgn, fbF, hr]
  · have hn : 1 ≤ s.n := by omega
    by_cases h1 : 310 < s.dp
    · have hr : fbRes s = (0, 1024, true) := by rw [fbRes, if_neg h0, if_pos h1]
      refine (fb_over s hn h1 neg w g h B hi).mono fun e w' h => ⟨?_, h.2.only g⟩
      rw [h.1, fbOut_sgn, fbF, hr]
    · by_cases h2 : s.dp < -330
      · have hr : fbRes s = (0, -1023, false) := by rw [fbRes, if_neg h0, if_neg h1, if_pos h2]
        refine (fb_under s hn h2 neg w g h B hi).mono fun e w' h => ⟨?_, h.2.only g⟩
        rw [h.1, fbOut_sgn, fbF, hr]
      · refine (fb_main s (hs.2 hn) (by omega) (by omega) neg w g B hgB h hi hp hc).mono fun e w' h => ⟨?_, h.2⟩
        rw [h.1, fbOut_sgn, fbF]

theorem pair_snd {p : Nat × Bool} {b : Bool} (h : p.2 = b) : p = (p.1, b) := by subst h; rfl
theorem bitLenAux_le : ∀ f x, Lib.bitLenAux f x ≤ f
  | 0, x => Nat.le_refl _
  | f + 1, x => by
    rw [Lib.bitLenAux]
    split
    · omega
    · have := bitLenAux_le f (x / 2); omega
theorem bitLen_64 (m : Nat) : Lib.bitLen m ≤ 64 := bitLenAux_le 64 m
theorem take_drop_bytes (s : ByteArray) (o n : Nat) : (s.extract 0 (o + n)).data.toList.drop o = (s.data.toList.drop o).take n := by
  simp [List.drop_take]

/-- atof64's answer: R is atF's. -/
def AtPost (neg : Bool) (o n : Nat) (R : Option (Nat × Bool)) (w : World) (e : Ending) (w' : World) : Prop :=
  Below w.heap.size w w' ∧ match R with
  | none => ∃ k : Nat, k ≤ 4000 ∧ e = .returned (.tuple #[.float .f64 0, .int .i64 k, .iface 160 (.int .i64 2)])
  | some (x, b) => e = .returned (.tuple #[.float .f64 (sgn neg + x), .int .i64 ((o + n : Nat) : Int), errv b])
theorem at_no {neg o n R w w'} {k : Int} (hR : R = none) (hk0 : 0 ≤ k) (hk : k ≤ 4000) (hb : Below w.heap.size w w') : AtPost neg o n R w (.returned (.tuple #[.float .f64 0, .int .i64 k, .iface 160 (.int .i64 2)])) w' := by
  subst hR; exact ⟨hb, k.toNat, by omega, by rw [Int.toNat_of_nonneg hk0]⟩
theorem at_yes {neg o n R w w' x b v} {y : Nat} {k : Int} (hR : R = some (x, b)) (hy : y = sgn neg + x) (hv : v = errv b) (hk : k = ((o + n : Nat) : Int)) (hb : Below w.heap.size w w') : AtPost neg o n R w (.returned (.tuple #[.float .f64 y, .int .i64 k, v])) w' := by
  subst hR hy hv hk; exact ⟨hb, rfl⟩

set_option maxHeartbeats 4000000 in
set_option maxRecDepth 100000 in
theorem at_walk (T : Nat → Nat × Nat) (F : Nat → Nat) (B : Nat) (s : ByteArray) (w : World) (neg : Bool) (o : Nat) (hs : s.size ≤ 3000) (hg : Sign s neg o) (hsp : ¬ SpStart s)
    (hu : ∀ j (h : j < s.size), (s[j]'h).toNat ≠ 95) (hx : ∀ (h : o + 2 < s.size), ((s[o]'(by omega)).toNat = 48) → lw (s[o + 1]'(by omega)).toNat ≠ 120)
    (hft : FT B T F w) (hB : B ≤ w.heap.size) :
    Calls Tryz.prog 108 #[.string s] w (AtPost neg o (rfF (s.data.toList.drop o)).n (atF T F (s.data.toList.drop o)) w) := by
  obtain ⟨l, hl⟩ : ∃ l, l = s.data.toList.drop o := ⟨_, rfl⟩
  have hrb := rfF_rb l
  have hlen : l.length = s.size - o := by rw [hl]; simp
  have ho1 : o ≤ 1 := by cases hg <;> omega
  have hos : o ≤ s.size := by cases hg <;> omega
  have HRF := rf_plain s w neg o hs hg hu hx
  rw [← hl] at HRF ⊢
  obtain ⟨r, hr⟩ : ∃ r, r = rfF l := ⟨_, rfl⟩
  obtain ⟨R, hR⟩ : ∃ R, R = atF T F l := ⟨_, rfl⟩
  rw [← hr] at HRF hrb ⊢
  rw [← hR]
  have hrn : r.n ≤ s.size - o := by have := hrb.n; omega
  have hpos := hrb.pos
  have hm0 := hrb.m.1
  have hm1 := hrb.m.2
  have Hr := Lib.hid hr
  have HR := Lib.hid hR
  have Hl := Lib.hid hl
  have HG := Lib.hid hg
  have HSP := Lib.hid hsp
  have HU := Lib.hid hu
  have HFT := Lib.hid hft
  have HHRF := Lib.hid HRF
  clear HRF hr hR hl hg hsp hu hx hft hrb hlen
  go_enter Tryz.func108, Tryz.ntmps108
  go_wp2_with fail
  refine (special_calls s hs w).mono ?_
  rintro e w1 ⟨rfl, f, k, ok, rfl, hk9, hok⟩
  have hokf : ok = false := by
    cases ok with
    | false => rfl
    | true => exact absurd (hok rfl).2 HSP.out
  subst hokf
  clear hok
  go_wp2_with fail
  refine HHRF.out.mono ?_
  rintro e w1 ⟨rfl, hD⟩
  clear HHRF
  have hb1 : Below w.heap.size w w1 := hD.below _
  have HFT1 : Hid (FT B T F w1) := HFT.out.below (hb1.mono hB)
  have HB1 := Lib.hid hb1
  have hBsz : Hid (B ≤ w1.heap.size) := Nat.le_trans hB hb1.size
  have hwsz : Hid (w.heap.size ≤ w1.heap.size) := hb1.size
  have hopt : w1.cell? ⟨9, 0, none⟩ = some (.bool true) := HFT1.out.opt
  have hfb := frombits_run
  rcases r with ⟨m, ex, tr, n, ok⟩
  simp only at hrn hpos hm0 hm1
  obtain ⟨M, rfl⟩ := Int.eq_ofNat_of_zero_le hm0
  simp only
  clear hb1 hD HFT hm0 hB
  cases ok with
  | false =>
    have hRn : Hid (R = none) := by rw [Hid, HR.out, atF, if_pos (by rw [← Hr.out])]
    go_wp2
    go_ret3
    exact at_no hRn.out (by omega) (by omega) HB1.out
  | true =>
  have hn1 : 1 ≤ n := hpos rfl
  clear hpos
  have HR1 : Hid (R = if (M : Int) = 0 then some (0, false) else if 310 < ex then some (9218868437227405312, true) else if ex < -345 then some (0, false)
      else if tr = false then (match exF F M ex with | some x => some (x, false) | none => some (pfF T M ex))
      else if eqR (pfF T M ex).1 (pfF T (IntKind.u64.wrap ((M : Int) + 1)).toNat ex).1 = true then some (pfF T M ex) else (srF (l.take n)).map fbF) := by
    rw [Hid, HR.out, atF, if_neg (by rw [← Hr.out]; simp), ← Hr.out]
    rfl
  clear HR Hr
  go_upto_region 11 with fail
  go_cut [16] from 65 to 67 (fun sg wx => sg = .int .u64 (sgn neg : Nat) ∧ w1 = wx)
  case first =>
    cases neg with
    | true =>
      go_wp2_with (go_at_call 123; refine (bool2u_calls _ _).mono ?_; rintro e w2 ⟨rfl, rfl⟩)
      go_meet
      case rel => exact ⟨rfl, rfl⟩
    | false =>
      go_wp2_with (go_at_call 123; refine (bool2u_calls _ _).mono ?_; rintro e w2 ⟨rfl, rfl⟩)
      go_meet
      case rel => exact ⟨rfl, rfl⟩
  case rest =>
  obtain ⟨rfl, rfl⟩ := hcut
  clear hopt
  by_cases hz : (M : Int) = 0
  · have hzb : ((M : Int) == 0) = true := by rw [beq_iff_eq]; exact hz
    have hRn : Hid (R = some (0, false)) := by rw [Hid, HR1.out, if_pos hz]
    have hor := sgn_or0 neg
    clear hz
    go_wp2
    go_ret3
    exact at_yes hRn.out rfl rfl rfl HB1.out
  · have hzb : ((M : Int) == 0) = false := by rw [beq_eq_false_iff_ne]; exact hz
    by_cases h310 : 310 < ex
    · have hRn : Hid (R = some (9218868437227405312, true)) := by rw [Hid, HR1.out, if_neg hz, if_pos h310]
      have hor : bits .or .u64 (sgn neg : Nat) 9218868437227405312 = ((sgn neg + 9218868437227405312 : Nat) : Int) := sgn_or neg 9218868437227405312 (by decide)
      clear hz
      go_wp2
      go_ret3
      exact at_yes hRn.out rfl rfl rfl HB1.out
    · by_cases h345 : ex < -345
      · have hRn : Hid (R = some (0, false)) := by rw [Hid, HR1.out, if_neg hz, if_neg h310, if_pos h345]
        have hor := sgn_or0 neg
        clear hz
        go_wp2
        go_ret3
        exact at_yes hRn.out rfl rfl rfl HB1.out
      · have hM : M < 18446744073709551616 := by omega
        have hp0 : -345 ≤ ex := by omega
        have hp1 : ex ≤ 310 := by omega
        have hbl : ∀ m, m < 18446744073709551616 → Lib.bitLen m ≤ 64 := fun m _ => bitLen_64 m
        cases tr with
        | false =>
          have HR2 : Hid (R = (match exF F M ex with | some x => some (x, false) | none => some (pfF T M ex))) := by rw [Hid, HR1.out, if_neg hz, if_neg h310, if_neg h345, if_pos rfl]
          clear hz HR1
          go_wp2_with fail
          refine (exact_calls neg M ex hM (by omega) (by omega) w1 B HFT1.out.info F HFT1.out.flo10).mono ?_
          rintro e w2 ⟨hD, he⟩
          have HB2 : Hid (Below w.heap.size w w2) := HB1.out.trans (hD.below _)
          have HFT2 : Hid (FT B T F w2) := HFT1.out.below (hD.below _)
          have hsz : w1.heap.size = w2.heap.size := by rw [hD.heap]
          cases hex : exF F M ex with
          | some x =>
            rw [hex] at he
            subst he
            have hRn : Hid (R = some (x, false)) := by rw [Hid, HR2.out, hex]
            go_wp2_with fail
            go_ret3
            exact at_yes hRn.out rfl rfl rfl HB2.out
          | none =>
            rw [hex] at he
            obtain ⟨y, he⟩ := he
            subst he
            have hRn : Hid (R = some (pfF T M ex)) := by rw [Hid, HR2.out, hex]
            go_wp2_with fail
            refine (pf_calls T B neg M ex hM hp0 hp1 w2 HFT2.out.pow10 (by rw [← hsz]; exact hBsz.out) (hbl M hM)).mono ?_
            rintro e w3 ⟨rfl, hb3⟩
            have HB3 : Hid (Below w.heap.size w w3) := HB2.out.trans (hb3.mono (by rw [← hsz]; exact hwsz.out))
            go_wp2_with fail
            go_ret3
            exact at_yes hRn.out rfl rfl rfl HB3.out
        | true =>
          obtain ⟨M1, hM1⟩ : ∃ M1 : Nat, IntKind.u64.wrap ((M : Int) + 1) = (M1 : Int) := ⟨(IntKind.u64.wrap ((M : Int) + 1)).toNat, by rw [IntKind.wrap_u64]; omega⟩
          have hM1l : M1 < 18446744073709551616 := by have := hM1; rw [IntKind.wrap_u64] at this; omega
          have HR2 : Hid (R = if eqR (pfF T M ex).1 (pfF T M1 ex).1 = true then some (pfF T M ex) else (srF (l.take n)).map fbF) := by
            rw [Hid, HR1.out, if_neg hz, if_neg h310, if_neg h345, if_neg (by decide), hM1, Int.toNat_natCast]
          clear hz HR1
          go_wp2_with fail
          refine (pf_calls T B neg M ex hM hp0 hp1 w1 HFT1.out.pow10 hBsz.out (hbl M hM)).mono ?_
          rintro e w2 ⟨rfl, hb2⟩
          have HB2 : Hid (Below w.heap.size w w2) := HB1.out.trans (hb2.mono hwsz.out)
          have HFT2 : Hid (FT B T F w2) := HFT1.out.below (hb2.mono hBsz.out)
          have hBsz2 : Hid (B ≤ w2.heap.size) := Nat.le_trans hBsz.out hb2.size
          have hwsz2 : Hid (w.heap.size ≤ w2.heap.size) := Nat.le_trans hwsz.out hb2.size
          clear hb2
          go_wp2_with fail
          refine (pf_calls T B neg M1 ex hM1l hp0 hp1 w2 HFT2.out.pow10 hBsz2.out (hbl M1 hM1l)).mono ?_
          rintro e w3 ⟨rfl, hb3⟩
          have HB3 : Hid (Below w.heap.size w w3) := HB2.out.trans (hb3.mono hwsz2.out)
          have HFT3 : Hid (FT B T F w3) := HFT2.out.below (hb3.mono hBsz2.out)
          have hBsz3 : Hid (B ≤ w3.heap.size) := Nat.le_trans hBsz2.out hb3.size
          have hwsz3 : Hid (w.heap.size ≤ w3.heap.size) := Nat.le_trans hwsz2.out hb3.size
          clear hb3 HB1 HB2 hwsz hwsz2 hBsz hBsz2 HFT1 HFT2
          have hT := HFT3.out.pow10.hi64 (ex + 348).toNat (by omega)
          have heq := eq_sgn neg (pfF T M ex).1 (pfF T M1 ex).1 (pfF_fin T M ex hT).1 (pfF_fin T M1 ex hT).1
          obtain ⟨q, hq⟩ : ∃ q, eqR (pfF T M ex).1 (pfF T M1 ex).1 = q := ⟨_, rfl⟩
          rw [hq] at heq
          have heq' : (FloatKind.f64.format.order (sgn neg + (pfF T M ex).1) (sgn neg + (pfF T M1 ex).1) == some Ordering.eq) = q := heq
          have HR3 : Hid (R = if q = true then some (pfF T M ex) else (srF (l.take n)).map fbF) := by rw [Hid, HR2.out, hq]
          clear heq hq HR2 hT
          cases q with
          | true =>
            have hRn : Hid (R = some (pfF T M ex)) := by rw [Hid, HR3.out, if_pos rfl]
            go_wp2_with fail
            go_ret3
            exact at_yes hRn.out rfl rfl rfl HB3.out
          | false =>
            have HR4 : Hid (R = (srF (l.take n)).map fbF) := by rw [Hid, HR3.out, if_neg (by decide)]
            clear HR3
            go_upto_region 28 with fail
            clear heq'
            go_upto_region 29 with fail
            obtain ⟨W, hW⟩ : ∃ W, W = w3.alloc (.cells Tryz.zeroCells195 195) := ⟨_, rfl⟩
            have hbW : Below w3.heap.size w3 W := by rw [hW]; exact (Below.refl _ w3).alloc (Nat.le_refl _) _
            have HDW : Hid (Dec W w3.heap.size (fun _ => 0) 0 0 false false) := by rw [hW]; exact zc_dec w3
            have HBW := Lib.hid hbW
            rw [← hW]
            clear hW hbW
            obtain ⟨g, hg⟩ : ∃ g, g = w3.heap.size := ⟨_, rfl⟩
            rw [← hg] at HDW HBW ⊢
            have Hg := Lib.hid hg
            have hon : (o : Int) + n ≤ s.size := by omega
            obtain ⟨s', hs'⟩ : ∃ s', s' = s.extract 0 (o + n) := ⟨_, rfl⟩
            have hsz' : s'.size = o + n := by rw [hs', ByteArray.size_extract]; omega
            have hget : ∀ j (h : j < s'.size), (s'[j]'h) = s[j]'(by omega) := by
              intro j h
              subst hs'
              rw [ByteArray.getElem_extract]
              simp only [Nat.zero_add]
            have hl' : s'.data.toList.drop o = l.take n := by rw [hs', Hl.out]; exact take_drop_bytes s o n
            have hsg : Sign s' neg o := by
              cases HG.out with
              | none h a b => exact Sign.none (by omega) (by rw [hget 0 (by omega)]; exact a) (by rw [hget 0 (by omega)]; exact b)
              | minus h a => exact Sign.minus (by omega) (by rw [hget 0 (by omega)]; exact a)
            have hu' : ∀ j (h : j < s'.size), (s'[j]'h).toNat ≠ 95 := fun j h => by rw [hget j h]; exact HU.out j (by omega)
            have HSET := set_walk s' W g neg false false o (by omega) hsg hu' HDW.out
            rw [hl'] at HSET
            have HS := Lib.hid HSET
            have hex : s.extract 0 (o + n) = s' := hs'.symm
            clear hg HSET hs' hget hl' hsg hu' HU HG HSP
            go_wp2_with fail
            refine HS.out.mono ?_
            rintro e w4 ⟨ho4, he⟩
            have HB4 : Hid (Below w.heap.size w w4) := HB3.out.trans (((HBW.out.mono (by rw [Hg.out]; exact Nat.le_refl _)).trans (ho4.below (Nat.le_refl _))).mono (by rw [Hg.out]; exact hwsz3.out))
            have HFT4 : Hid (FT B T F w4) := HFT3.out.below ((HBW.out.trans (ho4.below (Nat.le_refl _))).mono (by rw [Hg.out]; exact hBsz3.out))
            clear ho4 HS HBW HDW
            cases hsr : srF (l.take n) with
            | none =>
              rw [hsr] at he
              simp only at he
              subst he
              have hRn : Hid (R = none) := by rw [Hid, HR4.out, hsr]; rfl
              go_wp2_with fail
              go_ret3
              exact at_no hRn.out (by omega) (by omega) HB4.out
            | some S =>
              rw [hsr] at he
              obtain ⟨rfl, hdS⟩ := he
              have hRn : Hid (R = some (fbF S)) := by rw [Hid, HR4.out, hsr]; rfl
              have hS := srF_some hsr
              have HFB := fb_calls S ⟨hS.1, hS.2.1⟩ neg w4 g B (by rw [Hg.out]; exact hBsz3.out) hdS HFT4.out.info HFT4.out.powtab HFT4.out.cheats
              clear hS hdS
              go_wp2_with fail
              refine HFB.mono ?_
              rintro e w5 ⟨rfl, ho5⟩
              have HB5 : Hid (Below w.heap.size w w5) := HB4.out.trans (ho5.below (by rw [Hg.out]; exact hwsz3.out))
              clear ho5 HFB
              cases hov : (fbF S).2 with
              | true =>
                go_wp2
                go_ret3
                exact at_yes (hRn.out.trans (congrArg some (pair_snd hov))) rfl rfl rfl HB5.out
              | false =>
                go_wp2
                go_ret3
                exact at_yes (hRn.out.trans (congrArg some (pair_snd hov))) rfl rfl rfl HB5.out
end Go.Proofs.YthplmbgdcfmkgaaGreatDoor
/- The library's ParseFloat. -/
namespace Go.Proofs.YthplmbgdcfmkgaaGreatDoor
open Go.RowKit

set_option maxRecDepth 100000 in
theorem rf_empty (w : World) : Calls Tryz.prog 115 #[.string ByteArray.empty] w fun e w' => e = .returned (.tuple #[.int .u64 0, .int .i64 0, .bool false, .bool false, .bool false, .int .i64 0, .bool false]) ∧ w = w' := by
  go_enter Tryz.func115, Tryz.ntmps115
  go_wp2_with fail
  refine wp_scope_straight ?_
  go_wp2_with fail
  try rw [Exit.noGoto_ret]
  refine bodyPost_ret (results_tmp7 rfl _ _ _) rfl ?_
  exact ⟨rfl, rfl⟩

/-- What atof64 says of a text that is no decimal. -/
def AtJ (w : World) (e : Ending) (w' : World) : Prop :=
  Below w.heap.size w w' ∧ ((∃ f k : Nat, NoNum f ∧ k ≤ 9 ∧ e = .returned (.tuple #[.float .f64 f, .int .i64 k, .nilIface])) ∨
    (∃ k : Nat, k ≤ 4000 ∧ e = .returned (.tuple #[.float .f64 0, .int .i64 k, .iface 160 (.int .i64 2)])))
theorem atj_sp {w w' : World} {f k : Nat} (hb : Below w.heap.size w w') (hf : NoNum f) (hk : k ≤ 9) : AtJ w (.returned (.tuple #[.float .f64 f, .int .i64 k, .nilIface])) w' := ⟨hb, Or.inl ⟨f, k, hf, hk, rfl⟩⟩
theorem atj_no {w w' : World} {k : Int} (hb : Below w.heap.size w w') (hk0 : 0 ≤ k) (hk : k ≤ 4000) : AtJ w (.returned (.tuple #[.float .f64 0, .int .i64 k, .iface 160 (.int .i64 2)])) w' :=
  ⟨hb, Or.inr ⟨k.toNat, by omega, by rw [Int.toNat_of_nonneg hk0]⟩⟩

set_option maxHeartbeats 4000000 in
set_option maxRecDepth 100000 in
theorem at_junk (s : ByteArray) (w : World) (neg : Bool) (o : Nat) (hs : s.size ≤ 3000) (hg : Sign s neg o)
    (hu : ∀ j (h : j < s.size), (s[j]'h).toNat ≠ 95) (hx : ∀ (h : o + 2 < s.size), ((s[o]'(by omega)).toNat = 48) → lw (s[o + 1]'(by omega)).toNat ≠ 120)
    (hok : (rfF (s.data.toList.drop o)).ok = false) :
    Calls Tryz.prog 108 #[.string s] w (AtJ w) := by
  have hlen : (s.data.toList.drop o).length = s.size - o := by simp
  have ho1 : o ≤ 1 := by cases hg <;> omega
  have hrb := rfF_rb (s.data.toList.drop o)
  have HRF := rf_plain s w neg o hs hg hu hx
  obtain ⟨r, hr⟩ : ∃ r, r = rfF (s.data.toList.drop o) := ⟨_, rfl⟩
  rw [← hr] at HRF hrb hok
  have hrn : r.n ≤ 3000 := by have := hrb.n; omega
  rcases r with ⟨m, ex, tr, n, ok⟩
  simp only at hrn hok
  subst hok
  clear hr hg hu hx hrb hlen
  go_enter Tryz.func108, Tryz.ntmps108
  go_wp2_with fail
  refine (special_calls s hs w).mono ?_
  rintro e w1 ⟨rfl, f, k, ok, rfl, hk9, hok⟩
  have HOK := Lib.hid hok
  clear hok
  cases ok with
  | true =>
    go_wp2_with fail
    go_ret3
    exact atj_sp (Below.refl _ _) (HOK.out trivial).1 hk9
  | false =>
    go_wp2_with fail
    refine HRF.mono ?_
    rintro e w1 ⟨rfl, hD⟩
    have HB1 : Hid (Below w.heap.size w w1) := hD.below _
    clear HRF hD
    go_wp2_with fail
    go_ret3
    exact atj_no HB1.out (by omega) (by omega)

set_option maxHeartbeats 4000000 in
set_option maxRecDepth 100000 in
theorem at_empty (w : World) : Calls Tryz.prog 108 #[.string ByteArray.empty] w (AtJ w) := by
  have h0 : SpPost ByteArray.empty w = SpPost ByteArray.empty w := rfl
  go_enter Tryz.func108, Tryz.ntmps108
  go_wp2_with fail
  refine (special_calls ByteArray.empty (by decide) w).mono ?_
  rintro e w1 ⟨rfl, f, k, ok, rfl, hk9, hok⟩
  have HOK := Lib.hid hok
  clear hok
  cases ok with
  | true =>
    go_wp2_with fail
    go_ret3
    exact atj_sp (Below.refl _ _) (HOK.out trivial).1 hk9
  | false =>
    go_wp2_with fail
    refine (rf_empty w).mono ?_
    rintro e w1 ⟨rfl, rfl⟩
    go_wp2_with fail
    go_ret3
    exact atj_no (k := 0) (Below.refl _ _) (by omega) (by omega)

set_option maxRecDepth 100000 in
theorem pp_num {neg : Bool} {o n : Nat} {R : Option (Nat × Bool)} {s : ByteArray} {w : World} (h : Calls Tryz.prog 108 #[.string s] w (AtPost neg o n R w)) :
    Calls Tryz.prog 97 #[.string s, .int .i64 64] w (AtPost neg o n R w) := by
  go_enter Tryz.func97, Tryz.ntmps97
  go_wp2_with fail
  refine h.mono ?_
  rintro e w1 ⟨hb, he⟩
  cases R with
  | none =>
    obtain ⟨k, hk, rfl⟩ := he
    go_wp2
    go_ret3
    exact ⟨hb, k, hk, rfl⟩
  | some p =>
    obtain ⟨x, b⟩ := p
    simp only at he
    subst he
    go_wp2
    go_ret3
    exact ⟨hb, rfl⟩
set_option maxRecDepth 100000 in
theorem pp_junk {s : ByteArray} {w : World} (h : Calls Tryz.prog 108 #[.string s] w (AtJ w)) :
    Calls Tryz.prog 97 #[.string s, .int .i64 64] w (AtJ w) := by
  go_enter Tryz.func97, Tryz.ntmps97
  go_wp2_with fail
  refine h.mono ?_
  rintro e w1 ⟨hb, ⟨f, k, hf, hk, rfl⟩ | ⟨k, hk, rfl⟩⟩
  · go_wp2
    go_ret3
    exact ⟨hb, Or.inl ⟨f, k, hf, hk, rfl⟩⟩
  · go_wp2
    go_ret3
    exact ⟨hb, Or.inr ⟨k, hk, rfl⟩⟩

/-- The inner ParseFloat's answer at a decimal. -/
def IpPost (neg : Bool) (R : Option (Nat × Bool)) (w : World) (e : Ending) (w' : World) : Prop :=
  Below w.heap.size w w' ∧ match R with
  | none => e = .returned (.tuple #[.float .f64 0, .iface 160 (.int .i64 2)])
  | some (x, b) => e = .returned (.tuple #[.float .f64 (sgn neg + x), errv b])
theorem ip_no {neg R w w'} (hR : R = none) (hb : Below w.heap.size w w') : IpPost neg R w (.returned (.tuple #[.float .f64 0, .iface 160 (.int .i64 2)])) w' := by subst hR; exact ⟨hb, rfl⟩
theorem ip_yes {neg R w w' x b} (hR : R = some (x, b)) (hb : Below w.heap.size w w') : IpPost neg R w (.returned (.tuple #[.float .f64 (sgn neg + x), errv b])) w' := by subst hR; exact ⟨hb, rfl⟩
set_option maxRecDepth 100000 in
theorem ip_num {neg : Bool} {o n : Nat} {R : Option (Nat × Bool)} {s : ByteArray} {w : World} (h : Calls Tryz.prog 108 #[.string s] w (AtPost neg o n R w)) :
    Calls Tryz.prog 83 #[.string s, .int .i64 64] w (IpPost neg (if o + n = s.size then R else none) w) := by
  obtain ⟨R2, hR2⟩ : ∃ R2, R2 = if o + n = s.size then R else none := ⟨_, rfl⟩
  rw [← hR2]
  have HR2 := Lib.hid hR2
  have H := Lib.hid (pp_num h)
  clear hR2 h
  go_enter Tryz.func83, Tryz.ntmps83
  go_wp2_with fail
  refine H.out.mono ?_
  rintro e w1 ⟨hb, he⟩
  cases R with
  | none =>
    obtain ⟨k, hk, rfl⟩ := he
    by_cases hks : (k : Int) = s.size
    · have hkb : ((k : Int) != (s.size : Int)) = false := by rw [bne_eq_false_iff_eq]; exact hks
      clear hks
      go_wp2
      go_ret2
      exact ip_no (by rw [HR2.out]; split <;> rfl) hb
    · have hkb : ((k : Int) != (s.size : Int)) = true := by rw [bne_iff_ne]; exact hks
      clear hks
      go_wp2
      go_ret2
      exact ip_no (by rw [HR2.out]; split <;> rfl) hb
  | some p =>
    obtain ⟨x, b⟩ := p
    simp only at he
    subst he
    by_cases hks : o + n = s.size
    · have hkb : ((o : Int) + (n : Int) != (s.size : Int)) = false := by rw [bne_eq_false_iff_eq]; omega
      have hR : Hid (R2 = some (x, b)) := by rw [Hid, HR2.out, if_pos hks]
      clear hks
      go_wp2
      go_ret2
      exact ip_yes hR.out hb
    · have hkb : ((o : Int) + (n : Int) != (s.size : Int)) = true := by rw [bne_iff_ne]; omega
      have hR : Hid (R2 = none) := by rw [Hid, HR2.out, if_neg hks]
      clear hks
      go_wp2
      go_ret2
      exact ip_no hR.out hb
def IpJ (w : World) (e : Ending) (w' : World) : Prop :=
  Below w.heap.size w w' ∧ ((∃ f : Nat, NoNum f ∧ e = .returned (.tuple #[.float .f64 f, .nilIface])) ∨ e = .returned (.tuple #[.float .f64 0, .iface 160 (.int .i64 2)]))
set_option maxRecDepth 100000 in
theorem ip_junk {s : ByteArray} {w : World} (h : Calls Tryz.prog 108 #[.string s] w (AtJ w)) :
    Calls Tryz.prog 83 #[.string s, .int .i64 64] w (IpJ w) := by
  go_enter Tryz.func83, Tryz.ntmps83
  go_wp2_with fail
  refine (pp_junk h).mono ?_
  rintro e w1 ⟨hb, ⟨f, k, hf, hk, rfl⟩ | ⟨k, hk, rfl⟩⟩
  · by_cases hks : (k : Int) = s.size
    · have hkb : ((k : Int) != (s.size : Int)) = false := by rw [bne_eq_false_iff_eq]; exact hks
      clear hks
      go_wp2
      go_ret2
      exact ⟨hb, Or.inl ⟨f, hf, rfl⟩⟩
    · have hkb : ((k : Int) != (s.size : Int)) = true := by rw [bne_iff_ne]; exact hks
      clear hks
      go_wp2
      go_ret2
      exact ⟨hb, Or.inr rfl⟩
  · by_cases hks : (k : Int) = s.size
    · have hkb : ((k : Int) != (s.size : Int)) = false := by rw [bne_eq_false_iff_eq]; exact hks
      clear hks
      go_wp2
      go_ret2
      exact ⟨hb, Or.inr rfl⟩
    · have hkb : ((k : Int) != (s.size : Int)) = true := by rw [bne_iff_ne]; exact hks
      clear hks
      go_wp2
      go_ret2
      exact ⟨hb, Or.inr rfl⟩

/-- The library's two errors. -/
structure Errs (B : Nat) (w : World) : Prop where
  syn : ∃ q o t, w.cell? ⟨6, 0, none⟩ = some (.iface 202 (.pointer (some ⟨q, o, none⟩))) ∧ q < B ∧ w.cell? ⟨q, o, none⟩ = some (.string t) ∧ t.size ≤ 1000
  rng : ∃ q o t, w.cell? ⟨7, 0, none⟩ = some (.iface 202 (.pointer (some ⟨q, o, none⟩))) ∧ q < B ∧ w.cell? ⟨q, o, none⟩ = some (.string t) ∧ t.size ≤ 1000
  b : 16 ≤ B
theorem Errs.below {B w w'} (h : Errs B w) (k : Below B w w') : Errs B w' := by
  obtain ⟨⟨q, o, t, h1, h2, h3, h4⟩, ⟨q', o', t', h1', h2', h3', h4'⟩, hb⟩ := h
  exact ⟨⟨q, o, t, by rw [k.cell (show 6 < B by omega)]; exact h1, h2, by rw [k.cell h2]; exact h3, h4⟩, ⟨q', o', t', by rw [k.cell (show 7 < B by omega)]; exact h1', h2', by rw [k.cell h2']; exact h3', h4'⟩, hb⟩
def pfName : ByteArray := ⟨#[80, 97, 114, 115, 101, 70, 108, 111, 97, 116]⟩
def NumErr (B : Nat) (s : ByteArray) (w : World) (e : Ending) (w' : World) : Prop :=
  ∃ (f N q o : Nat) (t : ByteArray), e = .returned (.tuple #[.float .f64 f, .iface 161 (.pointer (some ⟨N, 0, none⟩))]) ∧ w.heap.size ≤ N ∧
    w'.heap[N]? = some (.cells #[.string pfName, .string s, .iface 202 (.pointer (some ⟨q, o, none⟩))] 176 (0, 0)) ∧ q < B ∧ w'.cell? ⟨q, o, none⟩ = some (.string t) ∧ t.size ≤ 1000
/-- strconv.ParseFloat's answer at a decimal. -/
def PN (B : Nat) (neg : Bool) (R : Option (Nat × Bool)) (s : ByteArray) (w : World) (e : Ending) (w' : World) : Prop :=
  Below w.heap.size w w' ∧ ((∃ x, R = some (x, false) ∧ e = .returned (.tuple #[.float .f64 (sgn neg + x), .nilIface])) ∨ ((∀ x, R ≠ some (x, false)) ∧ NumErr B s w e w'))
def PJ (B : Nat) (s : ByteArray) (w : World) (e : Ending) (w' : World) : Prop :=
  Below w.heap.size w w' ∧ ((∃ f, NoNum f ∧ e = .returned (.tuple #[.float .f64 f, .nilIface])) ∨ NumErr B s w e w')

set_option maxRecDepth 100000 in
theorem toerr_syn {B : Nat} {s : ByteArray} {w w1 : World} (hs : s.size ≤ 3000) (he : Errs B w) (hB : B ≤ w.heap.size) (hb1 : Below w.heap.size w w1) :
    Calls Tryz.prog 84 #[.string ⟨#[80, 97, 114, 115, 101, 70, 108, 111, 97, 116]⟩, .string s, .int .i64 0, .int .i64 64, .iface 160 (.int .i64 2)] w1 fun e w2 =>
      ∃ N, e = .returned (.iface 161 (.pointer (some ⟨N, 0, none⟩))) ∧ Below w.heap.size w w2 ∧ ∀ f, NumErr B s w (.returned (.tuple #[.float .f64 f, .iface 161 (.pointer (some ⟨N, 0, none⟩))])) w2 := by
  have he1 := he.below (hb1.mono hB)
  obtain ⟨q, o, t, h1, h2, h3, h4⟩ := he1.syn
  refine (Tryz.strconv_toError_syntax _ s 0 64 _ w1 (by omega) h1 (Or.inr ⟨_, _, rfl⟩)).mono ?_
  rintro e w2 ⟨N, rfl, hN, hcell, hbw⟩
  have hsz := hb1.size
  exact ⟨N, rfl, hb1.trans (hbw.mono hsz), fun f => ⟨f, N, q, o, t, rfl, Nat.le_trans hsz hN, hcell, h2, by rw [hbw.cell (show q < w1.heap.size by omega)]; exact h3, h4⟩⟩
set_option maxRecDepth 100000 in
theorem toerr_rng {B : Nat} {s : ByteArray} {w w1 : World} (hs : s.size ≤ 3000) (he : Errs B w) (hB : B ≤ w.heap.size) (hb1 : Below w.heap.size w w1) :
    Calls Tryz.prog 84 #[.string ⟨#[80, 97, 114, 115, 101, 70, 108, 111, 97, 116]⟩, .string s, .int .i64 0, .int .i64 64, .iface 160 (.int .i64 1)] w1 fun e w2 =>
      ∃ N, e = .returned (.iface 161 (.pointer (some ⟨N, 0, none⟩))) ∧ Below w.heap.size w w2 ∧ ∀ f, NumErr B s w (.returned (.tuple #[.float .f64 f, .iface 161 (.pointer (some ⟨N, 0, none⟩))])) w2 := by
  have he1 := he.below (hb1.mono hB)
  obtain ⟨q, o, t, h1, h2, h3, h4⟩ := he1.rng
  refine (Tryz.strconv_toError_range _ s 0 64 _ w1 (by omega) h1 (Or.inr ⟨_, _, rfl⟩)).mono ?_
  rintro e w2 ⟨N, rfl, hN, hcell, hbw⟩
  have hsz := hb1.size
  exact ⟨N, rfl, hb1.trans (hbw.mono hsz), fun f => ⟨f, N, q, o, t, rfl, Nat.le_trans hsz hN, hcell, h2, by rw [hbw.cell (show q < w1.heap.size by omega)]; exact h3, h4⟩⟩

set_option maxRecDepth 100000 in
theorem pn_calls {B : Nat} {neg : Bool} {R : Option (Nat × Bool)} {s : ByteArray} {w : World} (hs : s.size ≤ 3000) (he : Errs B w) (hB : B ≤ w.heap.size)
    (h : Calls Tryz.prog 83 #[.string s, .int .i64 64] w (IpPost neg R w)) : Calls Tryz.prog 66 #[.string s, .int .i64 64] w (PN B neg R s w) := by
  have HE := Lib.hid he
  have H := Lib.hid h
  clear he h
  go_enter Tryz.func66, Tryz.ntmps66
  go_wp2_with fail
  refine H.out.mono ?_
  rintro e w1 ⟨hb, hr⟩
  have HS := Lib.hid (toerr_syn hs HE.out hB hb)
  have HR := Lib.hid (toerr_rng hs HE.out hB hb)
  cases R with
  | none =>
    simp only at hr
    subst hr
    go_wp2_with fail
    refine HS.out.mono ?_
    rintro e w2 ⟨N, rfl, hb2, hne⟩
    go_wp2_with fail
    go_ret2
    exact ⟨hb2, Or.inr ⟨fun x h => absurd h (by simp), hne _⟩⟩
  | some p =>
    obtain ⟨x, b⟩ := p
    simp only at hr
    subst hr
    cases b with
    | true =>
      have hev : errv true = .iface 160 (.int .i64 1) := rfl
      go_wp2_with fail
      refine HR.out.mono ?_
      rintro e w2 ⟨N, rfl, hb2, hne⟩
      go_wp2_with fail
      go_ret2
      exact ⟨hb2, Or.inr ⟨fun x h => absurd h (by simp), hne _⟩⟩
    | false =>
      have hev : errv false = .nilIface := rfl
      go_wp2_with fail
      go_ret2
      exact ⟨hb, Or.inl ⟨x, rfl, rfl⟩⟩
set_option maxRecDepth 100000 in
theorem pj_calls {B : Nat} {s : ByteArray} {w : World} (hs : s.size ≤ 3000) (he : Errs B w) (hB : B ≤ w.heap.size)
    (h : Calls Tryz.prog 83 #[.string s, .int .i64 64] w (IpJ w)) : Calls Tryz.prog 66 #[.string s, .int .i64 64] w (PJ B s w) := by
  have HE := Lib.hid he
  have H := Lib.hid h
  clear he h
  go_enter Tryz.func66, Tryz.ntmps66
  go_wp2_with fail
  refine H.out.mono ?_
  rintro e w1 ⟨hb, ⟨f, hf, rfl⟩ | rfl⟩
  · go_wp2_with fail
    go_ret2
    exact ⟨hb, Or.inl ⟨f, hf, rfl⟩⟩
  · have HS := Lib.hid (toerr_syn hs HE.out hB hb)
    go_wp2_with fail
    refine HS.out.mono ?_
    rintro e w2 ⟨N, rfl, hb2, hne⟩
    go_wp2_with fail
    go_ret2
    exact ⟨hb2, Or.inr (hne _)⟩
end Go.Proofs.YthplmbgdcfmkgaaGreatDoor
/- strconv.ParseFloat, what the proofs above use. -/
namespace Go.Proofs.YthplmbgdcfmkgaaGreatDoor
open Go.RowKit

structure TB (B : Nat) (T : Nat → Nat × Nat) (F : Nat → Nat) (w : World) : Prop where
  ft : FT B T F w
  errs : Errs B w
theorem TB.below {B T F w w'} (h : TB B T F w) (k : Below B w w') : TB B T F w' := ⟨h.ft.below k, h.errs.below k⟩
/-- A decimal's rung: none where the library refuses it. -/
def pfN (T : Nat → Nat × Nat) (F : Nat → Nat) (l : List UInt8) : Option (Nat × Bool) := if (rfF l).n = l.length then atF T F l else none
/-- The bytes of a decimal. -/
def NumCh (c : Nat) : Prop := (48 ≤ c ∧ c ≤ 57) ∨ c = 46 ∨ c = 101 ∨ c = 69 ∨ c = 43 ∨ c = 45
theorem NumCh.low {c : Nat} (h : NumCh c) : lowc c ≠ 105 ∧ lowc c ≠ 110 ∧ c ≠ 95 := by
  unfold NumCh at h
  unfold lowc
  split <;> omega
theorem lw_120 {c : Nat} (h : NumCh c) : lw c ≠ 120 := by
  have hs : ∀ c, c < 128 → NumCh c → lw c ≠ 120 := by
    intro c hc
    have key : ∀ c : _root_.Fin 128, (48 ≤ c.val ∧ c.val ≤ 57) ∨ c.val = 46 ∨ c.val = 101 ∨ c.val = 69 ∨ c.val = 43 ∨ c.val = 45 → bits .or .u8 (c.val : Int) 32 ≠ 120 := by decide +kernel
    exact key ⟨c, hc⟩
  refine hs c ?_ h
  unfold NumCh at h
  omega

theorem parse_num (T : Nat → Nat × Nat) (F : Nat → Nat) (B : Nat) (s : ByteArray) (w : World) (neg : Bool) (o : Nat) (hs : s.size ≤ 3000) (hg : Sign s neg o)
    (hc : ∀ j (h : j < s.size), NumCh (s[j]'h).toNat) (ht : TB B T F w) (hB : B ≤ w.heap.size) :
    Calls Tryz.prog 66 #[.string s, .int .i64 64] w (PN B neg (pfN T F (s.data.toList.drop o)) s w) := by
  have hsp : ¬ SpStart s := by
    rintro ⟨i, h, _, hi⟩
    have := (hc i h).low
    omega
  have hu : ∀ j (h : j < s.size), (s[j]'h).toNat ≠ 95 := fun j h => (hc j h).low.2.2
  have hx : ∀ (h : o + 2 < s.size), ((s[o]'(by omega)).toNat = 48) → lw (s[o + 1]'(by omega)).toNat ≠ 120 := fun h _ => lw_120 (hc _ _)
  have h1 := ip_num (at_walk T F B s w neg o hs hg hsp hu hx ht.ft hB)
  have hlen : (s.data.toList.drop o).length = s.size - o := by simp
  have hos : o ≤ s.size := by cases hg <;> omega
  have e : (if o + (rfF (s.data.toList.drop o)).n = s.size then atF T F (s.data.toList.drop o) else none) = pfN T F (s.data.toList.drop o) := by
    unfold pfN
    by_cases h : o + (rfF (s.data.toList.drop o)).n = s.size
    · rw [if_pos h, if_pos (by omega)]
    · rw [if_neg h, if_neg (by omega)]
  rw [e] at h1
  exact pn_calls hs ht.errs hB h1
/-- A text whose first byte is no digit and no point (behind a minus, if there is one): no decimal. -/
theorem rf_junk {l : List UInt8} (h : l = [] ∨ ∃ c l', l = c :: l' ∧ ¬ isD c.toNat ∧ c.toNat ≠ 46) : (rfF l).ok = false := by
  rcases h with rfl | ⟨c, l', rfl, h1, h2⟩
  · rfl
  · unfold rfF
    rw [rfRun_stop (step_other h1 h2)]
    rfl
theorem parse_junk (T : Nat → Nat × Nat) (F : Nat → Nat) (B : Nat) (s : ByteArray) (w : World) (hs : s.size ≤ 3000) (h0 : 0 < s.size)
    (hu : ∀ j (h : j < s.size), (s[j]'h).toNat ≠ 95) (h1 : ¬ isD (s[0]'h0).toNat) (h2 : (s[0]'h0).toNat ≠ 46) (h3 : (s[0]'h0).toNat ≠ 43) (h4 : (s[0]'h0).toNat ≠ 45) (ht : TB B T F w) (hB : B ≤ w.heap.size) :
    Calls Tryz.prog 66 #[.string s, .int .i64 64] w (PJ B s w) := by
  refine pj_calls hs ht.errs hB (ip_junk (at_junk s w false 0 hs (Sign.none h0 h3 h4) hu ?_ ?_))
  · intro h e; exfalso; apply h1; unfold isD; omega
  · refine rf_junk (Or.inr ⟨_, _, drop_cons s 0 h0, h1, h2⟩)
theorem parse_minus (T : Nat → Nat × Nat) (F : Nat → Nat) (B : Nat) (s : ByteArray) (w : World) (h0 : s.size = 1) (h1 : (s[0]'(by omega)).toNat = 45) (ht : TB B T F w) (hB : B ≤ w.heap.size) :
    Calls Tryz.prog 66 #[.string s, .int .i64 64] w (PJ B s w) := by
  refine pj_calls (by omega) ht.errs hB (ip_junk (at_junk s w true 1 (by omega) (Sign.minus (by omega) h1) ?_ ?_ ?_))
  · intro j h
    have : j = 0 := by omega
    subst this; omega
  · intro h; omega
  · exact rf_junk (Or.inl (drop_end s 1 (by omega)))
theorem parse_empty (T : Nat → Nat × Nat) (F : Nat → Nat) (B : Nat) (w : World) (ht : TB B T F w) (hB : B ≤ w.heap.size) :
    Calls Tryz.prog 66 #[.string ByteArray.empty, .int .i64 64] w (PJ B ByteArray.empty w) :=
  pj_calls (by decide) ht.errs hB (ip_junk (at_empty w))
theorem pfN_fin {B : Nat} {T : Nat → Nat × Nat} {F : Nat → Nat} {w : World} {l : List UInt8} {x : Nat} (ht : TB B T F w) (h : pfN T F l = some (x, false)) : x < 9218868437227405312 := by
  unfold pfN at h
  split at h
  · exact (atF_fin ht.ft.pow10.hi64 (fun j hj => ⟨ht.ft.flo10.ge j hj, ht.ft.flo10.le j hj⟩) h).2 rfl
  · exact absurd h (by simp)
end Go.Proofs.YthplmbgdcfmkgaaGreatDoor
