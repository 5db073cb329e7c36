/- Numbers with many digits: rounding. -/
import Derived.Test.YthplmbgdcfmkgaaGreatDoorA02
set_option linter.unusedVariables false
set_option linter.unusedSimpArgs false
/- The library's decimal: floatBits. -/
namespace Go.Proofs.YthplmbgdcfmkgaaGreatDoor
open Go.RowKit

def fbOut (m e : Int) (neg : Bool) : Int :=
  if neg then bits .or .u64 (bits .or .u64 (bits .and .u64 m 4503599627370495) (IntKind.u64.wrap (IntKind.u64.wrap (bits .and .i64 (e + 1023) 2047) * 4503599627370496))) 9223372036854775808
  else bits .or .u64 (bits .and .u64 m 4503599627370495) (IntKind.u64.wrap (IntKind.u64.wrap (bits .and .i64 (e + 1023) 2047) * 4503599627370496))
theorem fbOut_yes (m e : Int) : fbOut m e true = bits .or .u64 (bits .or .u64 (bits .and .u64 m 4503599627370495) (IntKind.u64.wrap (IntKind.u64.wrap (bits .and .i64 (e + 1023) 2047) * 4503599627370496))) 9223372036854775808 := rfl
theorem fbOut_no (m e : Int) : fbOut m e false = bits .or .u64 (bits .and .u64 m 4503599627370495) (IntKind.u64.wrap (IntKind.u64.wrap (bits .and .i64 (e + 1023) 2047) * 4503599627370496)) := rfl
theorem ret_two {a a' : Int} {b : Value} (h : a = a') : Ending.returned (.tuple #[.int .u64 a', b]) = .returned (.tuple #[.int .u64 a, b]) := by rw [h]

set_option maxHeartbeats 4000000 in
set_option maxRecDepth 100000 in
theorem fb_zero (D : Nat → Int) (dp : Int) (tr neg : Bool) (w : World) (g : Nat) (h : Dec w g D 0 dp neg tr) (B : Nat) (hi : Info B w) :
    Calls Tryz.prog 122 #[.pointer (some ⟨g, 0, none⟩), .pointer (some ⟨10, 0, none⟩)] w fun e w' => e = .returned (.tuple #[.int .u64 (fbOut 0 (-1023) neg), .bool false]) ∧ Drew w w' := by
  have c0 : w.cell? ⟨g, 800, none⟩ = some (.int .i64 0) := h.nd
  have c3 : w.cell? ⟨g, 802, none⟩ = some (.bool neg) := h.neg
  have i0 := hi.c0
  have i1 := hi.c1
  have i2 := hi.c2
  go_enter Tryz.func122, Tryz.ntmps122
  go_wp2
  refine wp_scope_fwd ?_
  go_wp2
  refine wp_goto ?_
  simp only [Exit.then, Exit.inBlock]
  refine Jumps.goto rfl ?_
  go_wp2
  go_quiet (fail)
  cases neg
  all_goals
    go_wp2
    first
      | (go_quiet (fail); go_wp2)
      | skip
    rw [Exit.noGoto_ret]
    go_ret2
    exact ⟨ret_two (by simp [fbOut]), by first | exact ⟨_, rfl⟩ | exact Drew.drewN ⟨_, rfl⟩ _ | exact Drew.drewN (Drew.drewN ⟨_, rfl⟩ _) _⟩

set_option maxHeartbeats 4000000 in
set_option maxRecDepth 100000 in
theorem fb_over (s : DS) (hn : 1 ≤ s.n) (hdp : 310 < s.dp) (neg : Bool) (w : World) (g : Nat) (h : DecS w g s neg) (B : Nat) (hi : Info B w) :
    Calls Tryz.prog 122 #[.pointer (some ⟨g, 0, none⟩), .pointer (some ⟨10, 0, none⟩)] w fun e w' => e = .returned (.tuple #[.int .u64 (fbOut 0 1024 neg), .bool true]) ∧ Drew w w' := by
  have c0 : w.cell? ⟨g, 800, none⟩ = some (.int .i64 s.n) := h.nd
  have c1 : w.cell? ⟨g, 801, none⟩ = some (.int .i64 s.dp) := h.dp
  have c3 : w.cell? ⟨g, 802, none⟩ = some (.bool neg) := h.neg
  have hz : ((s.n : Int) == 0) = false := by rw [beq_eq_false_iff_ne]; omega
  have i0 := hi.c0
  have i1 := hi.c1
  have i2 := hi.c2
  go_enter Tryz.func122, Tryz.ntmps122
  go_wp2
  refine wp_scope_fwd ?_
  go_wp2
  refine wp_goto ?_
  simp only [Exit.then, Exit.inBlock]
  refine Jumps.goto rfl ?_
  go_wp2
  go_quiet (fail)
  go_wp2
  go_step3
  go_wp2
  go_quiet (fail)
  cases neg
  all_goals
    go_wp2
    first
      | (go_quiet (fail); go_wp2)
      | skip
    rw [Exit.noGoto_ret]
    go_ret2
    exact ⟨ret_two (by simp [fbOut]), by first | exact ⟨_, rfl⟩ | exact Drew.drewN ⟨_, rfl⟩ _ | exact Drew.drewN (Drew.drewN ⟨_, rfl⟩ _) _⟩

set_option maxHeartbeats 4000000 in
set_option maxRecDepth 100000 in
theorem fb_under (s : DS) (hn : 1 ≤ s.n) (hdp : s.dp < -330) (neg : Bool) (w : World) (g : Nat) (h : DecS w g s neg) (B : Nat) (hi : Info B w) :
    Calls Tryz.prog 122 #[.pointer (some ⟨g, 0, none⟩), .pointer (some ⟨10, 0, none⟩)] w fun e w' => e = .returned (.tuple #[.int .u64 (fbOut 0 (-1023) neg), .bool false]) ∧ Drew w w' := by
  have c0 : w.cell? ⟨g, 800, none⟩ = some (.int .i64 s.n) := h.nd
  have c1 : w.cell? ⟨g, 801, none⟩ = some (.int .i64 s.dp) := h.dp
  have c3 : w.cell? ⟨g, 802, none⟩ = some (.bool neg) := h.neg
  have hz : ((s.n : Int) == 0) = false := by rw [beq_eq_false_iff_ne]; omega
  have i0 := hi.c0
  have i1 := hi.c1
  have i2 := hi.c2
  go_enter Tryz.func122, Tryz.ntmps122
  go_wp2
  refine wp_scope_fwd ?_
  go_wp2
  refine wp_goto ?_
  simp only [Exit.then, Exit.inBlock]
  refine Jumps.goto rfl ?_
  go_wp2
  go_quiet (fail)
  cases neg
  all_goals
    go_wp2
    first
      | (go_quiet (fail); go_wp2)
      | skip
    rw [Exit.noGoto_ret]
    go_ret2
    exact ⟨ret_two (by simp [fbOut]), by first | exact ⟨_, rfl⟩ | exact Drew.drewN ⟨_, rfl⟩ _ | exact Drew.drewN (Drew.drewN ⟨_, rfl⟩ _) _⟩
end Go.Proofs.YthplmbgdcfmkgaaGreatDoor
/- The library's decimal: floatBits, where the point is near. -/
namespace Go.Proofs.YthplmbgdcfmkgaaGreatDoor
open Go.RowKit

theorem shR_dp : ∀ (k : Nat) (s : DS), s.Good → s.dp - k - 60 ≤ (shR k s).dp ∧ (shR k s).dp ≤ s.dp
  | k, s, hs => by
    by_cases h : 60 < k
    · rw [shR_big h]
      have h1 := shR_dp (k - 60) (rsF 60 s) (rsF_good hs (by omega))
      have h2 := rsF_dp (k := 60) hs (by omega)
      omega
    · rw [shR_small h]
      have h2 := rsF_dp (k := k) hs (by omega)
      omega
  termination_by k => k

def fbL (s : DS) : DS × Int := fb2 1000 (fb1 1000 s 0).1 (fb1 1000 s 0).2
def fbM (s : DS) : DS × Int := if (fbL s).2 - 1 < -1022 then (shR (-1022 - ((fbL s).2 - 1)).toNat (fbL s).1, -1022) else ((fbL s).1, (fbL s).2 - 1)
def fbRd (t : DS) : Int := riF (lsF 53 t).D (lsF 53 t).n (lsF 53 t).tr (lsF 53 t).dp
/-- The mantissa, the exponent, and whether there is none. -/
def fbEnd (m e : Int) : Int × Int × Bool :=
  if m = 9007199254740992 then (if 2047 ≤ e + 1 + 1023 then (0, 1024, true) else (4503599627370496, e + 1, false))
  else if bits .and .u64 m 4503599627370496 = 0 then (m, -1023, false) else (m, e, false)
def fbRes (s : DS) : Int × Int × Bool :=
  if s.n = 0 then (0, -1023, false) else if 310 < s.dp then (0, 1024, true) else if s.dp < -330 then (0, -1023, false)
  else if 2047 ≤ (fbM s).2 + 1023 then (0, 1024, true) else fbEnd (fbRd (fbM s).1) (fbM s).2

theorem fb1_stop {f : Nat} {s : DS} {e : Int} (h : ¬ 0 < s.dp) : fb1 f s e = (s, e) := by
  cases f with
  | zero => rfl
  | succ f => rw [fb1, if_neg h]
theorem fb1_go {f : Nat} {s : DS} {e : Int} (h : 0 < s.dp) : fb1 (f + 1) s e = fb1 f (rsF (pw s.dp.toNat) s) (e + pw s.dp.toNat) := by rw [fb1, if_pos h]
theorem fb2_stop {f : Nat} {s : DS} {e : Int} (h : ¬ (s.dp < 0 ∨ (s.dp = 0 ∧ s.D 0 < 53))) : fb2 f s e = (s, e) := by
  cases f with
  | zero => rfl
  | succ f => rw [fb2, if_neg h]
theorem fb2_go {f : Nat} {s : DS} {e : Int} (h : s.dp < 0 ∨ (s.dp = 0 ∧ s.D 0 < 53)) : fb2 (f + 1) s e = fb2 f (lsF (pw (-s.dp).toNat) s) (e - pw (-s.dp).toNat) := by rw [fb2, if_pos h]

/-- What the tail of floatBits does. -/
def FbPost (g : Nat) (w : World) (r : Int × Int × Bool) (neg : Bool) (e : Ending) (w' : World) : Prop :=
  e = .returned (.tuple #[.int .u64 (fbOut r.1 r.2.1 neg), .bool r.2.2]) ∧ Only g w w'

set_option maxHeartbeats 8000000 in
set_option maxRecDepth 100000 in
theorem fb_main (s : DS) (hs : s.Good) (hdp1 : -330 ≤ s.dp) (hdp2 : s.dp ≤ 310) (neg : Bool) (w : World) (g B : Nat) (hgB : B ≤ g) (h : DecS w g s neg) (hi : Info B w) (hp : Powtab B w) (hc : Cheats B w) :
    Calls Tryz.prog 122 #[.pointer (some ⟨g, 0, none⟩), .pointer (some ⟨10, 0, none⟩)] w (FbPost g w (fbRes s) neg) := by
  have HS := Lib.hid hs
  have H := Lib.hid h
  have HI := Lib.hid hi
  have HP := Lib.hid hp
  have HC := Lib.hid hc
  have hn1 := hs.n1
  have c0 : w.cell? ⟨g, 800, none⟩ = some (.int .i64 s.n) := h.nd
  have c1 : w.cell? ⟨g, 801, none⟩ = some (.int .i64 s.dp) := h.dp
  have hz : ((s.n : Int) == 0) = false := by rw [beq_eq_false_iff_ne]; omega
  have hr0 : Hid (fbRes s = if 2047 ≤ (fbM s).2 + 1023 then (0, 1024, true) else fbEnd (fbRd (fbM s).1) (fbM s).2) := by
    unfold Hid fbRes
    rw [if_neg (by omega), if_neg (by omega), if_neg (by omega)]
  obtain ⟨R, hR⟩ : ∃ R, R = fbRes s := ⟨_, rfl⟩
  have HR := Lib.hid hR
  rw [← hR]
  have hd1 : decide (310 < s.dp) = false := by simp; omega
  have hd2 : decide (s.dp < -330) = false := by simp; omega
  clear h hs hi hp hc hR
  go_enter Tryz.func122, Tryz.ntmps122
  go_wp2
  refine wp_scope_fwd ?_
  go_wp2
  go_loopg [6] 1000 (fun q x wr => ∃ (t : DS) (e : Int), x = .int .i64 e ∧ 0 ≤ e ∧ e + 27 * q ≤ 27000 ∧ -330 ≤ t.dp ∧ t.dp ≤ 310 ∧ mu1 t ≤ q ∧ Hid t.Good ∧ Hid (fb1 1000 s 0 = fb1 q t e) ∧ Hid (DecS wr g t neg) ∧ Hid (Only g w wr))
  case atStart => exact ⟨s, 0, rfl, by omega, by omega, hdp1, hdp2, Nat.le_trans (mu1_le s hdp2) (by omega), HS, rfl, H, Only.refl _ _⟩
  case round =>
    obtain ⟨t, e, rfl, he0, he1, ht1, ht2, hmu, htg, hfb, hd, ho⟩ := hrel
    have hb := ho.out.below hgB
    have HI1 := Lib.hid (HI.out.below hb)
    have HP1 := Lib.hid (HP.out.below hb)
    have HC1 := Lib.hid (HC.out.below hb)
    have HMU := Lib.hid hmu
    clear hb hmu
    have c0 : wr.cell? ⟨g, 800, none⟩ = some (.int .i64 t.n) := hd.out.nd
    by_cases hpos : 0 < t.dp
    · obtain ⟨m, hm⟩ : ∃ m : Nat, t.dp = m := ⟨t.dp.toNat, by omega⟩
      have c1 : wr.cell? ⟨g, 801, none⟩ = some (.int .i64 m) := by rw [← hm]; exact hd.out.dp
      obtain ⟨md, m1, m2⟩ := mu1_down htg.out hpos
      have hpw := pw_spec t.dp.toNat
      have hcall := fun W (hW : DecS W g t neg) => shR_calls (pw t.dp.toNat) t htg.out hpw.1 (by omega) (by omega) (by omega) W g neg hW
      have hmt : t.dp.toNat = m := by omega
      rw [hmt] at md m1 m2 hpw hcall
      have hsm : shR (pw m) t = rsF (pw m) t := shR_small (by omega) t
      rw [hsm] at hcall
      have HCALL := Lib.hid hcall
      obtain ⟨K, hK⟩ : ∃ K, K = pw m := ⟨_, rfl⟩
      rw [← hK] at HCALL hpw md m1 m2
      have HMD := Lib.hid md
      have HM12 : Hid ((rsF K t).dp ≤ 310 ∧ -330 ≤ (rsF K t).dp) := by unfold Hid; omega
      have HGO := Lib.hid (fb1_go (f := gk - 1) (e := e) hpos)
      rw [hmt, ← hK] at HGO
      have hmpos : 0 < m := by omega
      have hdm : decide (0 < m) = true := by simp; omega
      obtain ⟨hpw1, hpw2⟩ := hpw
      obtain ⟨pb, po, p1, p2, p3, p4⟩ := HP1.out
      have hq : Hid (1 ≤ gk) := by
        unfold Hid
        have := HMU.out
        have := HMD.out
        omega
      have HGG := Lib.hid (rsF_good (k := K) htg.out (by omega))
      have hm310 : m ≤ 310 := by omega
      clear md m1 m2 hcall hsm hmt hm hpos ht1 ht2
      by_cases h9 : 9 ≤ m
      · have hKe : K = 27 := by rw [hK]; unfold pw; rw [if_pos h9]
        have h9b : decide (9 ≤ m) = true := by simp [h9]
        clear hK p4
        subst hKe
        go_wp2_with fail
        go_quiet (fail)
        go_wp2_with fail
        refine (HCALL.out _ ?_).mono ?_
        · exact hd.out.drewN _
        · rintro e2 w' ⟨rfl, hd', ho'⟩
          have HD' := Lib.hid hd'
          have HO' := Lib.hid ho'
          clear hd' ho'
          go_wp2_with fail
          have hq := hq.out
          have hmd := HMD.out
          have hmu := HMU.out
          go_roundg (gk - 1)
          case measure => omega
          case rel =>
            refine ⟨rsF 27 t, e + 27, by go_num, by omega, by omega, HM12.out.2, HM12.out.1, by omega, HGG, ?_, HD', (ho.out.drewN _).trans HO'.out⟩
            refine hfb.out.trans ?_
            have := HGO.out
            rw [show gk - 1 + 1 = gk by omega] at this
            exact this
      · have h9b : decide (9 ≤ m) = false := by simp; omega
        have hKe : K = ptab m := by rw [hK]; unfold pw; rw [if_neg h9]
        have p5 : wr.cell? ⟨pb, po + m, none⟩ = some (.int .i64 K) := by rw [hKe]; exact p4 m (by omega)
        have hm9 : m < 9 := by omega
        clear hK p4 hKe h9
        go_wp2_with fail
        go_quiet (fail)
        go_wp2_with fail
        go_quiet (fail)
        go_wp2_with fail
        refine (HCALL.out _ ?_).mono ?_
        · exact hd.out.drewN _
        · rintro e2 w' ⟨rfl, hd', ho'⟩
          have HD' := Lib.hid hd'
          have HO' := Lib.hid ho'
          clear hd' ho'
          go_wp2_with fail
          have hq := hq.out
          have hmd := HMD.out
          have hmu := HMU.out
          go_roundg (gk - 1)
          case measure => omega
          case rel =>
            refine ⟨rsF K t, e + K, by go_num, by omega, by omega, HM12.out.2, HM12.out.1, by omega, HGG, ?_, HD', (ho.out.drewN _).trans HO'.out⟩
            refine hfb.out.trans ?_
            have := HGO.out
            rw [show gk - 1 + 1 = gk by omega] at this
            exact this
    · have hdp0 : decide (0 < t.dp) = false := by simp; omega
      have hst := fb1_stop (f := gk) (e := e) hpos
      have HE1 : Hid (fb1 1000 s 0 = (t, e)) := hfb.out.trans hst
      have c1 : wr.cell? ⟨g, 801, none⟩ = some (.int .i64 t.dp) := hd.out.dp
      have hd0 := hd
      have ho0 := ho
      have htg0 := htg
      have he27 : e ≤ 27000 := by omega
      have hle0 : t.dp ≤ 0 := by omega
      clear hst hfb
      go_wp2_with fail
      go_loopg [6] 1000 (fun q x wr => ∃ (u : DS) (f : Int), x = .int .i64 f ∧ f ≤ 27000 ∧ -27000 + 27 * q ≤ f ∧ -330 ≤ u.dp ∧ u.dp ≤ 0 ∧ mu2 u ≤ q ∧ Hid u.Good ∧ Hid (fb2 1000 t e = fb2 q u f) ∧ Hid (DecS wr g u neg) ∧ Hid (Only g w wr))
      case atStart =>
        have h48 := (htg0.out.dig 0 (by have := htg0.out.n1; omega)).1
        exact ⟨t, e, rfl, he27, by omega, ht1, hle0, Nat.le_trans (mu2_le t ht1 h48) (by omega), htg0, rfl, hd0, ho0⟩
      case round =>
        obtain ⟨u, f, rfl, hf0, hf1, hu1, hu2, hmu2, hug, hfb2, hd, ho⟩ := hrel
        have hb := ho.out.below hgB
        have HI2 := Lib.hid (HI.out.below hb)
        have HP2 := Lib.hid (HP.out.below hb)
        have HC2 := Lib.hid (HC.out.below hb)
        have HMU2 := Lib.hid hmu2
        clear hb hmu2
        have c0 : wr.cell? ⟨g, 800, none⟩ = some (.int .i64 u.n) := hd.out.nd
        have c5 : wr.cell? ⟨g, 0, none⟩ = some (.int .u8 (u.D 0)) := hd.out.d 0 (by omega)
        obtain ⟨m, hm⟩ : ∃ m : Nat, u.dp = -(m : Int) := ⟨(-u.dp).toNat, by omega⟩
        have c1 : wr.cell? ⟨g, 801, none⟩ = some (.int .i64 (-(m : Int))) := by rw [← hm]; exact hd.out.dp
        by_cases hgo : u.dp < 0 ∨ (u.dp = 0 ∧ u.D 0 < 53)
        · obtain ⟨md, m1, m2⟩ := mu2_down hug.out hgo
          have hpw := pw_spec (-u.dp).toNat
          have hcall := fun W (hW : DecS W g u neg) (hCW : Cheats B W) => shL_calls (pw (-u.dp).toNat) u hug.out hpw.1 (by omega) (by omega) (by omega) W g neg hW B hCW
          have hmt : (-u.dp).toNat = m := by omega
          rw [hmt] at md m1 m2 hpw hcall
          have HCALL := Lib.hid hcall
          obtain ⟨K, hK⟩ : ∃ K, K = pw m := ⟨_, rfl⟩
          rw [← hK] at HCALL hpw md m1 m2
          have HMD := Lib.hid md
          have HM12 : Hid ((lsF K u).dp ≤ 0 ∧ -330 ≤ (lsF K u).dp) := by unfold Hid; omega
          have HGO := Lib.hid (fb2_go (f := gk - 1) (e := f) hgo)
          rw [hmt, ← hK] at HGO
          obtain ⟨hpw1, hpw2⟩ := hpw
          obtain ⟨pb, po, p1, p2, p3, p4⟩ := HP2.out
          have hq : Hid (1 ≤ gk) := by
            unfold Hid
            have := HMU2.out
            have := HMD.out
            omega
          have HGG := Lib.hid (lsF_good (k := K) hug.out (by omega) (by omega)).1
          have hm330 : m ≤ 330 := by omega
          -- the test
          have htest : (decide (-(m : Int) < 0) = true ∧ decide (0 < m) = true) ∨ (m = 0 ∧ decide (u.D 0 < 53) = true) := by
            rcases hgo with h | ⟨h, h5⟩
            · left; exact ⟨by simp; omega, by simp; omega⟩
            · right; exact ⟨by omega, by simp [h5]⟩
          clear md m1 m2 hcall hmt hm hgo hu1 hu2
          rcases htest with ⟨hdm, hdm2⟩ | ⟨hm0, hd53⟩
          · by_cases h9 : 9 ≤ m
            · have hKe : K = 27 := by rw [hK]; unfold pw; rw [if_pos h9]
              have h9b : decide (9 ≤ m) = true := by simp [h9]
              clear hK p4
              subst hKe
              go_wp2_with fail
              go_quiet (fail)
              go_wp2_with fail
              refine (HCALL.out _ ?_ ?_).mono ?_
              · exact hd.out.drewN _
              · exact HC2.out.below (Drew.below ((Drew.refl _).drewN _) B)
              · rintro e2 w' ⟨rfl, hd', ho'⟩
                have HD' := Lib.hid hd'
                have HO' := Lib.hid ho'
                clear hd' ho'
                go_wp2_with fail
                have hq := hq.out
                have hmd := HMD.out
                have hmu := HMU2.out
                go_roundg (gk - 1)
                case measure => omega
                case rel =>
                  refine ⟨lsF 27 u, f - 27, by go_num, by omega, by omega, HM12.out.2, HM12.out.1, by omega, HGG, ?_, HD', (ho.out.drewN _).trans HO'.out⟩
                  refine hfb2.out.trans ?_
                  have := HGO.out
                  rw [show gk - 1 + 1 = gk by omega] at this
                  exact this
            · have h9b : decide (9 ≤ m) = false := by simp; omega
              have hKe : K = ptab m := by rw [hK]; unfold pw; rw [if_neg h9]
              have p5 : wr.cell? ⟨pb, po + m, none⟩ = some (.int .i64 K) := by rw [hKe]; exact p4 m (by omega)
              have hm9 : m < 9 := by omega
              clear hK p4 hKe h9
              go_wp2_with fail
              go_quiet (fail)
              go_wp2_with fail
              go_quiet (fail)
              go_wp2_with fail
              refine (HCALL.out _ ?_ ?_).mono ?_
              · exact hd.out.drewN _
              · exact HC2.out.below (Drew.below ((Drew.refl _).drewN _) B)
              · rintro e2 w' ⟨rfl, hd', ho'⟩
                have HD' := Lib.hid hd'
                have HO' := Lib.hid ho'
                clear hd' ho'
                go_wp2_with fail
                have hq := hq.out
                have hmd := HMD.out
                have hmu := HMU2.out
                go_roundg (gk - 1)
                case measure => omega
                case rel =>
                  refine ⟨lsF K u, f - K, by go_num, by omega, by omega, HM12.out.2, HM12.out.1, by omega, HGG, ?_, HD', (ho.out.drewN _).trans HO'.out⟩
                  refine hfb2.out.trans ?_
                  have := HGO.out
                  rw [show gk - 1 + 1 = gk by omega] at this
                  exact this
          · subst hm0
            have hKe : K = 1 := by rw [hK]; rfl
            have p5 : wr.cell? ⟨pb, po, none⟩ = some (.int .i64 1) := p4 0 (by omega)
            clear hK p4
            subst hKe
            simp only [Int.natCast_zero, Int.neg_zero] at c1
            go_wp2_with fail
            go_quiet (fail)
            go_wp2_with fail
            go_quiet (fail)
            go_wp2_with fail
            refine (HCALL.out _ ?_ ?_).mono ?_
            · exact hd.out.drewN _
            · exact HC2.out.below (Drew.below ((Drew.refl _).drewN _) B)
            · rintro e2 w' ⟨rfl, hd', ho'⟩
              have HD' := Lib.hid hd'
              have HO' := Lib.hid ho'
              clear hd' ho'
              go_wp2_with fail
              have hq := hq.out
              have hmd := HMD.out
              have hmu := HMU2.out
              go_roundg (gk - 1)
              case measure => omega
              case rel =>
                refine ⟨lsF 1 u, f - 1, by go_num, by omega, by omega, HM12.out.2, HM12.out.1, by omega, HGG, ?_, HD', (ho.out.drewN _).trans HO'.out⟩
                refine hfb2.out.trans ?_
                have := HGO.out
                rw [show gk - 1 + 1 = gk by omega] at this
                exact this
        · have HE2 : Hid (fbL s = (u, f)) := by
            unfold Hid fbL
            rw [HE1.out]
            exact hfb2.out.trans (fb2_stop hgo)
          have htest : (decide (-(m : Int) < 0) = false ∧ decide (0 < m) = false ∧ ((-(m : Int)) == 0) = true ∧ m = 0 ∧ decide (u.D 0 < 53) = false) := by
            have hm0 : m = 0 := by omega
            subst hm0
            exact ⟨by simp, by simp, by simp, rfl, by simp; omega⟩
          obtain ⟨ha, hb, hc, hm0, hd53⟩ := htest
          subst hm0
          simp only [Int.natCast_zero, Int.neg_zero] at c1 ha hc
          have HRR : Hid (R = if 2047 ≤ (fbM s).2 + 1023 then (0, 1024, true) else fbEnd (fbRd (fbM s).1) (fbM s).2) := HR.out.trans hr0.out
          have j2 := HI2.out.c2
          clear hgo hm
          by_cases hlow : f - 1 < -1022
          · have hlb : decide (f - 1 < -1022) = true := by simp; omega
            obtain ⟨K, hK⟩ : ∃ K : Nat, (-1022 - (f - 1)) = (K : Int) := ⟨(-1022 - (f - 1)).toNat, by omega⟩
            have hE : f - 1 + (K : Int) = -1022 := by omega
            have HM : Hid (fbM s = (shR K u, -1022)) := by
              unfold Hid fbM
              rw [HE2.out, if_pos hlow]
              rw [show (-1022 - ((u, f).2 - 1)).toNat = K by simp only []; omega]
            have hcall := fun W (hW : DecS W g u neg) => shR_calls K u hug.out (by omega) (by omega) (by omega) (by omega) W g neg hW
            have HCALL := Lib.hid hcall
            have HVG := Lib.hid (shR_good K u hug.out)
            clear hcall hlow
            go_wp2_with fail
            refine (HCALL.out _ ?_).mono ?_
            · exact hd.out
            · rintro e2 w' ⟨rfl, hd', ho'⟩
              have HV := Lib.hid hd'
              have HO3 := Lib.hid (ho.out.trans ho')
              clear hd' ho'
              obtain ⟨v, hv⟩ : ∃ v, v = shR K u := ⟨_, rfl⟩
              rw [← hv] at HV HM HVG
              have HI3 := Lib.hid (HI.out.below (HO3.out.below hgB))
              have HC3 := Lib.hid (HC.out.below (HO3.out.below hgB))
              have HDPV : Hid (-1000000 ≤ v.dp ∧ v.dp ≤ 1000000) := by
                have h1 := shR_dp K u hug.out
                rw [← hv] at h1
                unfold Hid
                omega
              clear hv
              have i0 := HI3.out.c0
              have i1 := HI3.out.c1
              have i2 := HI3.out.c2
              have d3 : w'.cell? ⟨g, 802, none⟩ = some (.bool neg) := HV.out.neg
              have hov : ¬ (2047 : Int) ≤ -1022 + 1023 := by omega
              have HRF : Hid (R = fbEnd (fbRd v) (-1022)) := by
                unfold Hid
                rw [HRR.out, HM.out, if_neg hov]
              have hcall := fun W (hW : DecS W g v neg) (hCW : Cheats B W) => shL_calls 53 v HVG.out (by omega) (by omega) (HDPV.out.1) (HDPV.out.2) W g neg hW B hCW
              have HCALL2 := Lib.hid hcall
              have hcall3 := fun W (hW : DecS W g (lsF 53 v) neg) => ri_calls (lsF 53 v).D (lsF 53 v).n (lsF 53 v).tr (lsF 53 v).dp (lsF_good HVG.out (k := 53) (by omega) (by omega)).1.n8 W g neg hW
              obtain ⟨M, hM⟩ : ∃ M, M = fbRd v := ⟨_, rfl⟩
              have hM2 : riF (lsF 53 v).D (lsF 53 v).n (lsF 53 v).tr (lsF 53 v).dp = M := hM.symm
              rw [hM2] at hcall3
              rw [← hM] at HRF
              have HCALL3 := Lib.hid hcall3
              clear hcall hcall3 hov hM hM2
              go_wp2_with fail
              go_quiet (fail)
              go_wp2_with fail
              refine (HCALL2.out _ ?_ ?_).mono ?_
              · exact HV.out.drewN _
              · exact HC3.out.below (Drew.below ((Drew.refl _).drewN _) B)
              · rintro e3 w3 ⟨rfl, hd3, ho3⟩
                have HD3 := Lib.hid hd3
                have HO4 := Lib.hid ((HO3.out.drewN _).trans ho3)
                clear hd3 ho3
                go_wp2_with fail
                refine (HCALL3.out _ HD3.out).mono ?_
                rintro e4 w4 ⟨rfl, hw4⟩
                have HO5 := Lib.hid (HO4.out.trans (hw4.only g))
                have HI4 := Lib.hid (HI.out.below (HO5.out.below hgB))
                have d4 : w4.cell? ⟨g, 802, none⟩ = some (.bool neg) := (hw4.cell _).trans HD3.out.neg
                have k0 := HI4.out.c0
                have k1 := HI4.out.c1
                have k2 := HI4.out.c2
                have HW4 := Lib.hid hw4
                clear hw4
                by_cases hM1 : M = 9007199254740992
                · subst hM1
                  have hand : (bits BinOp.and IntKind.u64 4503599627370496 4503599627370496 == 0) = false := by kernel_rfl
                  · have hov2 : ¬ (2047 : Int) ≤ -1022 + 1 + 1023 := by omega
                    have HRG : Hid (R = (4503599627370496, (-1022) + 1, false)) := by
                      unfold Hid
                      rw [HRF.out]
                      unfold fbEnd
                      rw [if_pos rfl, if_neg hov2]
                    clear hov2
                    go_wp2_with fail
                    go_quiet (fail)
                    go_wp2_with fail
                    refine wp_goto ?_
                    simp only [Exit.then, Exit.inBlock]
                    refine Jumps.goto rfl ?_
                    go_wp2
                    go_quiet (fail)
                    cases neg
                    all_goals
                      go_wp2
                      first
                        | (go_quiet (fail); go_wp2)
                        | skip
                      rw [Exit.noGoto_ret]
                      go_ret2
                      rw [HRG.out]
                      exact ⟨ret_two (by simp [fbOut]), by first | exact HO5.out.drewN _ | exact (HO5.out.drewN _).drewN _ | exact ((HO5.out.drewN _).drewN _).drewN _ | exact (((HO5.out.drewN _).drewN _).drewN _).drewN _⟩
                · have hMb : (M == 9007199254740992) = false := by rw [beq_eq_false_iff_ne]; exact hM1
                  by_cases hA : bits BinOp.and IntKind.u64 M 4503599627370496 = 0
                  · have hAb : (bits BinOp.and IntKind.u64 M 4503599627370496 == 0) = true := by rw [beq_iff_eq]; exact hA
                    have HRG : Hid (R = (M, -1023, false)) := by
                      unfold Hid
                      rw [HRF.out]
                      unfold fbEnd
                      rw [if_neg hM1, if_pos hA]
                    clear hM1 hA
                    go_wp2_with fail
                    refine wp_goto ?_
                    simp only [Exit.then, Exit.inBlock]
                    refine Jumps.goto rfl ?_
                    go_wp2
                    go_quiet (fail)
                    cases neg
                    all_goals
                      go_wp2
                      first
                        | (go_quiet (fail); go_wp2)
                        | skip
                      rw [Exit.noGoto_ret]
                      go_ret2
                      rw [HRG.out]
                      exact ⟨ret_two (by simp [fbOut]), by first | exact HO5.out.drewN _ | exact (HO5.out.drewN _).drewN _ | exact ((HO5.out.drewN _).drewN _).drewN _ | exact (((HO5.out.drewN _).drewN _).drewN _).drewN _⟩
                  · have hAb : (bits BinOp.and IntKind.u64 M 4503599627370496 == 0) = false := by rw [beq_eq_false_iff_ne]; exact hA
                    have HRG : Hid (R = (M, (-1022), false)) := by
                      unfold Hid
                      rw [HRF.out]
                      unfold fbEnd
                      rw [if_neg hM1, if_neg hA]
                    clear hM1 hA
                    go_wp2_with fail
                    refine wp_goto ?_
                    simp only [Exit.then, Exit.inBlock]
                    refine Jumps.goto rfl ?_
                    go_wp2
                    go_quiet (fail)
                    cases neg
                    all_goals
                      go_wp2
                      first
                        | (go_quiet (fail); go_wp2)
                        | skip
                      rw [Exit.noGoto_ret]
                      go_ret2
                      rw [HRG.out]
                      exact ⟨ret_two (by simp [fbOut]), by first | exact HO5.out.drewN _ | exact (HO5.out.drewN _).drewN _ | exact ((HO5.out.drewN _).drewN _).drewN _ | exact (((HO5.out.drewN _).drewN _).drewN _).drewN _⟩
          · have hlb : decide (f - 1 < -1022) = false := by simp; omega
            have HM : Hid (fbM s = (u, f - 1)) := by
              unfold Hid fbM
              rw [HE2.out, if_neg hlow]
            have HV := hd
            have HVG := hug
            have HO3 := ho
            have HI3 := HI2
            have HC3 := HC2
            have HDPV : Hid (-1000000 ≤ u.dp ∧ u.dp ≤ 1000000) := by unfold Hid; omega
            have i0 := HI3.out.c0
            have i1 := HI3.out.c1
            have i2 := HI3.out.c2
            have d3 : wr.cell? ⟨g, 802, none⟩ = some (.bool neg) := HV.out.neg
            by_cases hov : 2047 ≤ f - 1 + 1023
            · have hovb : decide (2047 ≤ f - 1 + 1023) = true := by simp; omega
              have HRF : Hid (R = (0, 1024, true)) := by
                unfold Hid
                rw [HRR.out, HM.out, if_pos hov]
              clear hov
              go_wp2_with fail
              go_quiet (fail)
              go_wp2_with fail
              refine wp_goto ?_
              simp only [Exit.then, Exit.inBlock]
              refine Jumps.goto rfl ?_
              go_wp2
              go_quiet (fail)
              go_wp2
              go_step3
              go_wp2
              go_quiet (fail)
              cases neg
              all_goals
                go_wp2
                first
                  | (go_quiet (fail); go_wp2)
                  | skip
                rw [Exit.noGoto_ret]
                go_ret2
                rw [HRF.out]
                exact ⟨ret_two (by simp [fbOut]), by first | exact HO3.out.drewN _ | exact (HO3.out.drewN _).drewN _ | exact ((HO3.out.drewN _).drewN _).drewN _⟩
            · have hovb : decide (2047 ≤ f - 1 + 1023) = false := by simp; omega
              have HRF : Hid (R = fbEnd (fbRd u) (f - 1)) := by
                unfold Hid
                rw [HRR.out, HM.out, if_neg hov]
              have hcall := fun W (hW : DecS W g u neg) (hCW : Cheats B W) => shL_calls 53 u HVG.out (by omega) (by omega) (HDPV.out.1) (HDPV.out.2) W g neg hW B hCW
              have HCALL2 := Lib.hid hcall
              have hcall3 := fun W (hW : DecS W g (lsF 53 u) neg) => ri_calls (lsF 53 u).D (lsF 53 u).n (lsF 53 u).tr (lsF 53 u).dp (lsF_good HVG.out (k := 53) (by omega) (by omega)).1.n8 W g neg hW
              obtain ⟨M, hM⟩ : ∃ M, M = fbRd u := ⟨_, rfl⟩
              have hM2 : riF (lsF 53 u).D (lsF 53 u).n (lsF 53 u).tr (lsF 53 u).dp = M := hM.symm
              rw [hM2] at hcall3
              rw [← hM] at HRF
              have HCALL3 := Lib.hid hcall3
              clear hcall hcall3 hov hM hM2
              go_wp2_with fail
              go_quiet (fail)
              go_wp2_with fail
              refine (HCALL2.out _ ?_ ?_).mono ?_
              · exact HV.out.drewN _
              · exact HC3.out.below (Drew.below ((Drew.refl _).drewN _) B)
              · rintro e3 w3 ⟨rfl, hd3, ho3⟩
                have HD3 := Lib.hid hd3
                have HO4 := Lib.hid ((HO3.out.drewN _).trans ho3)
                clear hd3 ho3
                go_wp2_with fail
                refine (HCALL3.out _ HD3.out).mono ?_
                rintro e4 w4 ⟨rfl, hw4⟩
                have HO5 := Lib.hid (HO4.out.trans (hw4.only g))
                have HI4 := Lib.hid (HI.out.below (HO5.out.below hgB))
                have d4 : w4.cell? ⟨g, 802, none⟩ = some (.bool neg) := (hw4.cell _).trans HD3.out.neg
                have k0 := HI4.out.c0
                have k1 := HI4.out.c1
                have k2 := HI4.out.c2
                have HW4 := Lib.hid hw4
                clear hw4
                by_cases hM1 : M = 9007199254740992
                · subst hM1
                  have hand : (bits BinOp.and IntKind.u64 4503599627370496 4503599627370496 == 0) = false := by kernel_rfl
                  by_cases hov2 : 2047 ≤ f - 1 + 1 + 1023
                  · have hovb2 : decide (2047 ≤ f - 1 + 1 + 1023) = true := by simp; omega
                    have hovb3 : decide (2047 ≤ f + 1023) = true := by simp; omega
                    have HRG : Hid (R = (0, 1024, true)) := by
                      unfold Hid
                      rw [HRF.out]
                      unfold fbEnd
                      rw [if_pos rfl, if_pos hov2]
                    clear hov2
                    go_wp2_with fail
                    go_quiet (fail)
                    go_wp2_with fail
                    refine wp_goto ?_
                    simp only [Exit.then, Exit.inBlock]
                    refine Jumps.goto rfl ?_
                    go_wp2
                    go_quiet (fail)
                    go_wp2
                    go_step3
                    go_wp2
                    go_quiet (fail)
                    cases neg
                    all_goals
                      go_wp2
                      first
                        | (go_quiet (fail); go_wp2)
                        | skip
                      rw [Exit.noGoto_ret]
                      go_ret2
                      rw [HRG.out]
                      exact ⟨ret_two (by simp [fbOut]), by first | exact HO5.out.drewN _ | exact (HO5.out.drewN _).drewN _ | exact ((HO5.out.drewN _).drewN _).drewN _ | exact (((HO5.out.drewN _).drewN _).drewN _).drewN _⟩
      
                  · have hov2b : decide (2047 ≤ f - 1 + 1 + 1023) = false := by simp; omega
                    have hovb3 : decide (2047 ≤ f + 1023) = false := by simp; omega
                    have HRG : Hid (R = (4503599627370496, (f - 1) + 1, false)) := by
                      unfold Hid
                      rw [HRF.out]
                      unfold fbEnd
                      rw [if_pos rfl, if_neg hov2]
                    clear hov2
                    go_wp2_with fail
                    go_quiet (fail)
                    go_wp2_with fail
                    refine wp_goto ?_
                    simp only [Exit.then, Exit.inBlock]
                    refine Jumps.goto rfl ?_
                    go_wp2
                    go_quiet (fail)
                    cases neg
                    all_goals
                      go_wp2
                      first
                        | (go_quiet (fail); go_wp2)
                        | skip
                      rw [Exit.noGoto_ret]
                      go_ret2
                      rw [HRG.out]
                      exact ⟨ret_two (by simp [fbOut]), by first | exact HO5.out.drewN _ | exact (HO5.out.drewN _).drewN _ | exact ((HO5.out.drewN _).drewN _).drewN _ | exact (((HO5.out.drewN _).drewN _).drewN _).drewN _⟩
                · have hMb : (M == 9007199254740992) = false := by rw [beq_eq_false_iff_ne]; exact hM1
                  by_cases hA : bits BinOp.and IntKind.u64 M 4503599627370496 = 0
                  · have hAb : (bits BinOp.and IntKind.u64 M 4503599627370496 == 0) = true := by rw [beq_iff_eq]; exact hA
                    have HRG : Hid (R = (M, -1023, false)) := by
                      unfold Hid
                      rw [HRF.out]
                      unfold fbEnd
                      rw [if_neg hM1, if_pos hA]
                    clear hM1 hA
                    go_wp2_with fail
                    refine wp_goto ?_
                    simp only [Exit.then, Exit.inBlock]
                    refine Jumps.goto rfl ?_
                    go_wp2
                    go_quiet (fail)
                    cases neg
                    all_goals
                      go_wp2
                      first
                        | (go_quiet (fail); go_wp2)
                        | skip
                      rw [Exit.noGoto_ret]
                      go_ret2
                      rw [HRG.out]
                      exact ⟨ret_two (by simp [fbOut]), by first | exact HO5.out.drewN _ | exact (HO5.out.drewN _).drewN _ | exact ((HO5.out.drewN _).drewN _).drewN _ | exact (((HO5.out.drewN _).drewN _).drewN _).drewN _⟩
                  · have hAb : (bits BinOp.and IntKind.u64 M 4503599627370496 == 0) = false := by rw [beq_eq_false_iff_ne]; exact hA
                    have HRG : Hid (R = (M, (f - 1), false)) := by
                      unfold Hid
                      rw [HRF.out]
                      unfold fbEnd
                      rw [if_neg hM1, if_neg hA]
                    clear hM1 hA
                    go_wp2_with fail
                    refine wp_goto ?_
                    simp only [Exit.then, Exit.inBlock]
                    refine Jumps.goto rfl ?_
                    go_wp2
                    go_quiet (fail)
                    cases neg
                    all_goals
                      go_wp2
                      first
                        | (go_quiet (fail); go_wp2)
                        | skip
                      rw [Exit.noGoto_ret]
                      go_ret2
                      rw [HRG.out]
                      exact ⟨ret_two (by simp [fbOut]), by first | exact HO5.out.drewN _ | exact (HO5.out.drewN _).drewN _ | exact ((HO5.out.drewN _).drewN _).drewN _ | exact (((HO5.out.drewN _).drewN _).drewN _).drewN _⟩
end Go.Proofs.YthplmbgdcfmkgaaGreatDoor
