/- Numbers with many digits: their memory, shifts. -/
import Derived.Test.YthplmbgdcfmkgaaGreatDoorProg
import Derived.WalkKit
import Derived.WalkSpells
import Derived.WalkLawsBesides
import Derived.Deep.QuietTactic
import Derived.BigQuiet
import Derived.Deep.LoopGhost
import Derived.KernelRfl
import Derived.Handy
import Derived.Lib.Hide
set_option linter.unusedVariables false
set_option linter.unusedSimpArgs false
/- Small facts on worlds: which blocks a call leaves alone. -/
namespace Go.Proofs.YthplmbgdcfmkgaaGreatDoor
open Go.RowKit

/-- The world w' is w but for block g. -/
structure Only (g : Nat) (w w' : World) : Prop where
  os : w'.os = w.os
  tape : w'.tape = w.tape
  output : w'.output = w.output
  size : w'.heap.size = w.heap.size
  block : ∀ k, k ≠ g → w'.heap[k]? = w.heap[k]?

theorem Only.refl (g : Nat) (w : World) : Only g w w := ⟨rfl, rfl, rfl, rfl, fun _ _ => rfl⟩
theorem Only.trans {g : Nat} {a b c : World} (h : Only g a b) (k : Only g b c) : Only g a c :=
  ⟨k.os.trans h.os, k.tape.trans h.tape, k.output.trans h.output, k.size.trans h.size, fun i hi => (k.block i hi).trans (h.block i hi)⟩
theorem Only.drew {g : Nat} {a w : World} (h : Only g a w) : Only g a w.drew := ⟨h.os, h.tape, h.output, h.size, h.block⟩
theorem Only.drewN {g : Nat} {a w : World} (h : Only g a w) (n : Nat) : Only g a (w.drewN n) := ⟨h.os, h.tape, h.output, h.size, h.block⟩
theorem Only.setCell {g : Nat} {a w : World} (h : Only g a w) (i : Nat) (u : Value) : Only g a (w.setCell ⟨g, i, none⟩ u) :=
  h.trans ⟨rfl, rfl, rfl, by simp [World.setCell], fun k hk => Below.heap_setCell _ _ _ _ hk⟩
theorem Only.below {g B : Nat} {a w : World} (h : Only g a w) (hB : B ≤ g) : Below B a w :=
  ⟨h.os, h.tape, h.output, Nat.le_of_eq h.size.symm, fun k hk => h.block k (by omega)⟩
theorem Below.drewN {B : Nat} {a w : World} (h : Below B a w) (n : Nat) : Below B a (w.drewN n) := ⟨h.os, h.tape, h.output, h.size, h.block⟩
theorem Only.cell {g : Nat} {w w' : World} (h : Only g w w') {p : Addr} (hp : p.block ≠ g) : w'.cell? p = w.cell? p := World.cell?_of_block (w := w) (h.block p.block hp)
theorem Only.frozen {g : Nat} {w w' : World} (h : Only g w w') {p : Addr} (hp : p.block ≠ g) : w'.frozen? p = w.frozen? p := World.frozen?_of_block (w := w) (h.block p.block hp)

/-- The world w' is w after some draws. -/
def Drew (w w' : World) : Prop := ∃ k, w' = w.drewN k
theorem Drew.refl (w : World) : Drew w w := ⟨0, rfl⟩
theorem Drew.drewN {a w : World} (h : Drew a w) (n : Nat) : Drew a (w.drewN n) := by
  obtain ⟨k, rfl⟩ := h
  exact ⟨k + n, by simp [World.drewN, Nat.add_assoc]⟩
theorem Drew.drew {a w : World} (h : Drew a w) : Drew a w.drew := h.drewN 1
theorem Drew.trans {a b c : World} (h : Drew a b) (k : Drew b c) : Drew a c := by
  obtain ⟨n, rfl⟩ := k
  exact h.drewN n
theorem Drew.only {a w : World} (h : Drew a w) (g : Nat) : Only g a w := by
  obtain ⟨k, rfl⟩ := h
  exact (Only.refl g a).drewN k
theorem Drew.below {a w : World} (h : Drew a w) (B : Nat) : Below B a w := by
  obtain ⟨k, rfl⟩ := h
  exact Below.drewN (Below.refl B a) k
theorem Drew.heap {a w : World} (h : Drew a w) : w.heap = a.heap := by
  obtain ⟨k, rfl⟩ := h
  rfl
theorem Drew.cell {a w : World} (h : Drew a w) (p : Addr) : w.cell? p = a.cell? p := by
  obtain ⟨k, rfl⟩ := h
  rfl
theorem Drew.frozen {a w : World} (h : Drew a w) (p : Addr) : w.frozen? p = a.frozen? p := by
  obtain ⟨k, rfl⟩ := h
  rfl

theorem u64w (z : Int) (h0 : 0 ≤ z) (h1 : z < 18446744073709551616) : IntKind.u64.wrap z = z := IntWalk.u64_in _ ⟨h0, by omega⟩

/-- A decimal of the library's: block g. -/
structure Dec (w : World) (g : Nat) (D : Nat → Int) (n : Nat) (dp : Int) (neg tr : Bool) : Prop where
  d : ∀ p, p < 800 → w.cell? ⟨g, p, none⟩ = some (.int .u8 (D p))
  nd : w.cell? ⟨g, 800, none⟩ = some (.int .i64 n)
  dp : w.cell? ⟨g, 801, none⟩ = some (.int .i64 dp)
  neg : w.cell? ⟨g, 802, none⟩ = some (.bool neg)
  tr : w.cell? ⟨g, 803, none⟩ = some (.bool tr)
  fr : ∀ p, w.frozen? ⟨g, p, none⟩ = false

theorem cell_set_same {w : World} {g i : Nat} {v u : Value} (h : w.cell? ⟨g, i, none⟩ = some u) : (w.setCell ⟨g, i, none⟩ v).cell? ⟨g, i, none⟩ = some v := by
  simp [go_sem, h]
theorem cell_set_ne {w : World} {g i j : Nat} {v : Value} (h : i ≠ j) : (w.setCell ⟨g, i, none⟩ v).cell? ⟨g, j, none⟩ = w.cell? ⟨g, j, none⟩ := by
  have : (⟨g, i, none⟩ : Addr) ≠ ⟨g, j, none⟩ := by simp [h]
  simp [go_sem, this]

theorem Dec.drew {w g D n dp neg tr} (h : Dec w g D n dp neg tr) : Dec w.drew g D n dp neg tr := ⟨h.d, h.nd, h.dp, h.neg, h.tr, h.fr⟩
theorem Dec.drewN {w g D n dp neg tr} (h : Dec w g D n dp neg tr) (k : Nat) : Dec (w.drewN k) g D n dp neg tr := ⟨h.d, h.nd, h.dp, h.neg, h.tr, h.fr⟩
theorem Dec.drewN' {w w' g D n dp neg tr} (h : Dec w g D n dp neg tr) (k : Drew w w') : Dec w' g D n dp neg tr := by
  obtain ⟨k, rfl⟩ := k
  exact h.drewN k
theorem Dec.congr {w g D D' n n' dp neg tr tr'} (h : Dec w g D n dp neg tr) (hD : ∀ p, p < 800 → D p = D' p) (hn : n = n') (ht : tr = tr') : Dec w g D' n' dp neg tr' := by
  subst hn; subst ht
  exact ⟨fun p hp => by rw [← hD p hp]; exact h.d p hp, h.nd, h.dp, h.neg, h.tr, h.fr⟩
theorem frozen_set {w : World} {g i p : Nat} {v : Value} : (w.setCell ⟨g, i, none⟩ v).frozen? ⟨g, p, none⟩ = w.frozen? ⟨g, p, none⟩ := by
  simp [go_sem]
theorem Dec.setN {w g D n dp neg tr} (h : Dec w g D n dp neg tr) (m : Nat) : Dec (w.setCell ⟨g, 800, none⟩ (.int .i64 m)) g D m dp neg tr :=
  ⟨fun p hp => by rw [cell_set_ne (by omega)]; exact h.d p hp, cell_set_same h.nd, by rw [cell_set_ne (by omega)]; exact h.dp, by rw [cell_set_ne (by omega)]; exact h.neg, by rw [cell_set_ne (by omega)]; exact h.tr, fun p => by rw [frozen_set]; exact h.fr p⟩
theorem Dec.setDp {w g D n dp neg tr} (h : Dec w g D n dp neg tr) (m : Int) : Dec (w.setCell ⟨g, 801, none⟩ (.int .i64 m)) g D n m neg tr :=
  ⟨fun p hp => by rw [cell_set_ne (by omega)]; exact h.d p hp, by rw [cell_set_ne (by omega)]; exact h.nd, cell_set_same h.dp, by rw [cell_set_ne (by omega)]; exact h.neg, by rw [cell_set_ne (by omega)]; exact h.tr, fun p => by rw [frozen_set]; exact h.fr p⟩
theorem Dec.setTr {w g D n dp neg tr} (h : Dec w g D n dp neg tr) (b : Bool) : Dec (w.setCell ⟨g, 803, none⟩ (.bool b)) g D n dp neg b :=
  ⟨fun p hp => by rw [cell_set_ne (by omega)]; exact h.d p hp, by rw [cell_set_ne (by omega)]; exact h.nd, by rw [cell_set_ne (by omega)]; exact h.dp, by rw [cell_set_ne (by omega)]; exact h.neg, cell_set_same h.tr, fun p => by rw [frozen_set]; exact h.fr p⟩
theorem Dec.setNeg {w g D n dp neg tr} (h : Dec w g D n dp neg tr) (b : Bool) : Dec (w.setCell ⟨g, 802, none⟩ (.bool b)) g D n dp b tr :=
  ⟨fun p hp => by rw [cell_set_ne (by omega)]; exact h.d p hp, by rw [cell_set_ne (by omega)]; exact h.nd, by rw [cell_set_ne (by omega)]; exact h.dp, cell_set_same h.neg, by rw [cell_set_ne (by omega)]; exact h.tr, fun p => by rw [frozen_set]; exact h.fr p⟩
theorem Dec.setD {w g D n dp neg tr} (h : Dec w g D n dp neg tr) (i : Nat) (hi : i < 800) (c : Int) : Dec (w.setCell ⟨g, i, none⟩ (.int .u8 c)) g (fun p => if p = i then c else D p) n dp neg tr :=
  ⟨fun p hp => by
    by_cases e : p = i
    · subst e; rw [if_pos rfl]; exact cell_set_same (h.d p hp)
    · rw [if_neg e, cell_set_ne (by omega)]; exact h.d p hp,
   by rw [cell_set_ne (by omega)]; exact h.nd, by rw [cell_set_ne (by omega)]; exact h.dp, by rw [cell_set_ne (by omega)]; exact h.neg, by rw [cell_set_ne (by omega)]; exact h.tr, fun p => by rw [frozen_set]; exact h.fr p⟩
end Go.Proofs.YthplmbgdcfmkgaaGreatDoor
/- The library's decimal: trim. -/
namespace Go.Proofs.YthplmbgdcfmkgaaGreatDoor
open Go.RowKit

/-- How many digits are left when the zeros at the end are struck. -/
def trimN (D : Nat → Int) : Nat → Nat
  | 0 => 0
  | n + 1 => if D n = 48 then trimN D n else n + 1
def trimDp (D : Nat → Int) (n : Nat) (dp : Int) : Int := if trimN D n = 0 then 0 else dp
theorem trimN_zero (D : Nat → Int) : trimN D 0 = 0 := rfl
theorem trimN_yes {D : Nat → Int} {m : Nat} (h : D m = 48) : trimN D (m + 1) = trimN D m := by rw [trimN, if_pos h]
theorem trimN_no {D : Nat → Int} {m : Nat} (h : D m ≠ 48) : trimN D (m + 1) = m + 1 := by rw [trimN, if_neg h]

set_option maxHeartbeats 400000 in
theorem trim_calls (g : Nat) (D : Nat → Int) (n : Nat) (dp : Int) (neg tr : Bool) (w : World) (h : Dec w g D n dp neg tr) (hn : n ≤ 800) :
    Calls Tryz.prog 154 #[.pointer (some ⟨g, 0, none⟩)] w fun e w' => e = .returned (.tuple #[]) ∧ Dec w' g D (trimN D n) (trimDp D n dp) neg tr ∧ Only g w w' := by
  go_enter Tryz.func154, Tryz.ntmps154
  go_wp2
  go_loopg [] n (fun k wr => ∃ m : Nat, m ≤ 800 ∧ k = m ∧ Hid (trimN D n = trimN D m) ∧ Hid (Dec wr g D m dp neg tr) ∧ Only g w wr)
  case atStart => exact ⟨n, hn, rfl, rfl, h, Only.refl _ _⟩
  case round =>
    obtain ⟨m, hm, rfl, ht, hd, ho⟩ := hrel
    have c0 : wr.cell? ⟨g, 800, none⟩ = some (.int .i64 gk) := hd.out.nd
    have c2 : wr.cell? ⟨g, 801, none⟩ = some (.int .i64 dp) := hd.out.dp
    have f0 : wr.frozen? ⟨g, 800, none⟩ = false := hd.out.fr 800
    have f2 : wr.frozen? ⟨g, 801, none⟩ = false := hd.out.fr 801
    cases gk with
    | zero =>
      go_wp2
      go_quiet (fail)
      go_wp2
      go_end0
      refine ⟨rfl, ?_, ?_⟩
      · have e : trimN D n = 0 := ht.out
        unfold trimDp
        rw [e]
        exact (hd.out.drewN _).setDp _
      · exact (ho.drewN _).setCell _ _
    | succ m =>
      have c1 : wr.cell? ⟨g, m, none⟩ = some (.int .u8 (D m)) := hd.out.d m (by omega)
      by_cases hz : D m = 48
      · have hz' : (D m == 48) = true := by simp [hz]
        have c1 : wr.cell? ⟨g, m, none⟩ = some (.int .u8 (D m)) := hd.out.d m (by omega)
        have HZ := Lib.hid hz
        clear hz
        go_wp2
        go_quiet (fail)
        go_wp2
        go_roundg m
        case measure => omega
        case rel =>
          refine ⟨m, by omega, rfl, ?_, ?_, ?_⟩
          · exact ht.out.trans (trimN_yes HZ.out)
          · exact (hd.out.drewN _).setN m
          · exact (ho.drewN _).setCell _ _
      · have hz' : (D m == 48) = false := by simp [hz]
        have HZ := Lib.hid hz
        clear hz
        have h0 : (((m : Int) + 1) == 0) = false := by rw [beq_eq_false_iff_ne]; omega
        go_wp2
        go_quiet (fail)
        go_wp2
        go_end0
        have e : trimN D n = m + 1 := ht.out.trans (trimN_no HZ.out)
        refine ⟨rfl, ?_, ?_⟩
        · unfold trimDp
          rw [e]
          exact hd.out.drewN _
        · exact ho.drewN _
end Go.Proofs.YthplmbgdcfmkgaaGreatDoor
/- The library's decimal: prefixIsLessThan. -/
namespace Go.Proofs.YthplmbgdcfmkgaaGreatDoor
open Go.RowKit

/-- Are the digits less than a text, as far as the text goes? -/
def plt (D : Nat → Int) (n : Nat) : Nat → List UInt8 → Bool
  | _, [] => false
  | i, c :: r => if n ≤ i then true else if D i = (c.toNat : Int) then plt D n (i + 1) r else decide (D i < (c.toNat : Int))

theorem plt_nil (D n i) : plt D n i [] = false := rfl
theorem plt_end {D n i c r} (h : n ≤ i) : plt D n i (c :: r) = true := by rw [plt, if_pos h]
theorem plt_eq {D n i} {c : UInt8} {r} (h : ¬ n ≤ i) (h2 : D i = (c.toNat : Int)) : plt D n i (c :: r) = plt D n (i + 1) r := by rw [plt, if_neg h, if_pos h2]
theorem plt_ne {D n i} {c : UInt8} {r} (h : ¬ n ≤ i) (h2 : D i ≠ (c.toNat : Int)) : plt D n i (c :: r) = decide (D i < (c.toNat : Int)) := by rw [plt, if_neg h, if_neg h2]

theorem drop_cons (s : ByteArray) (k : Nat) (h : k < s.size) : s.data.toList.drop k = s[k] :: s.data.toList.drop (k + 1) := by
  have h' : k < s.data.toList.length := by simpa using h
  rw [List.drop_eq_getElem_cons h']
  rfl
theorem drop_end (s : ByteArray) (k : Nat) (h : s.size ≤ k) : s.data.toList.drop k = [] := by
  have : s.data.toList.length = s.size := by simp
  rw [List.drop_eq_nil_iff]; omega

theorem ret_bool {a b : Bool} (h : a = b) : Ending.returned (.bool b) = .returned (.bool a) := by rw [h]
theorem ret_int {k : IntKind} {a b : Int} (h : a = b) : Ending.returned (.int k b) = .returned (.int k a) := by rw [h]
set_option maxHeartbeats 400000 in
theorem plt_calls (g : Nat) (D : Nat → Int) (n cap : Nat) (s : ByteArray) (w : World) (h : ∀ p, p < n → w.cell? ⟨g, p, none⟩ = some (.int .u8 (D p))) (hn : n ≤ 800) (hs : s.size ≤ 100) :
    Calls Tryz.prog 153 #[.slice (some ⟨g, 0, none⟩) n cap, .string s] w fun e w' => e = .returned (.bool (plt D n 0 s.data.toList)) ∧ Drew w w' := by
  have HP : Hid (∀ p, p < n → w.cell? ⟨g, p, none⟩ = some (.int .u8 (D p))) := h
  clear h
  go_enter Tryz.func153, Tryz.ntmps153
  go_wp2
  go_loopg [5] s.size (fun k i wr => ∃ j : Nat, j ≤ s.size ∧ k + j = s.size ∧ i = .int .i64 j ∧ Hid (plt D n 0 s.data.toList = plt D n j (s.data.toList.drop j)) ∧ Hid (Drew w wr))
  case atStart => exact ⟨0, by omega, by omega, rfl, rfl, Drew.refl _⟩
  case round =>
    obtain ⟨j, hj, hk, rfl, hp, hw⟩ := hrel
    have HK := Lib.hid hk
    clear hk
    by_cases h1 : j < s.size
    · have hd := drop_cons s j h1
      by_cases h2 : n ≤ j
      · go_wp2
        go_ret
        refine ⟨ret_bool ?_, hw.out⟩
        rw [hp.out, hd, plt_end h2]
      · have c1 : wr.cell? ⟨g, j, none⟩ = some (.int .u8 (D j)) := (hw.out.cell _).trans (HP.out j (by omega))
        by_cases h3 : D j = (s[j].toNat : Int)
        · have h3' : (D j != (s[j].toNat : Int)) = false := by simp [h3]
          have H3 := Lib.hid h3
          have HD := Lib.hid hd
          clear h3 hd
          go_wp2
          go_quiet (fail)
          go_wp2
          have HK' := HK.out
          go_roundg (gk - 1)
          case measure => omega
          case rel =>
            refine ⟨j + 1, by omega, by omega, by go_num, ?_, (hw.out.drewN _)⟩
            exact hp.out.trans (by rw [HD.out, plt_eq h2 H3.out])
        · have h3' : (D j != (s[j].toNat : Int)) = true := by simp [h3]
          have H3 := Lib.hid h3
          have HD := Lib.hid hd
          clear h3 hd
          go_wp2
          go_quiet (fail)
          go_wp2
          go_quiet (fail)
          go_wp2
          go_ret
          refine ⟨ret_bool ?_, (hw.out.drewN _).drewN _⟩
          rw [hp.out, HD.out, plt_ne h2 H3.out]
    · go_wp2
      go_ret
      refine ⟨ret_bool ?_, hw.out⟩
      rw [hp.out, drop_end s j (by omega), plt_nil]
end Go.Proofs.YthplmbgdcfmkgaaGreatDoor
/- The library's decimal: shouldRoundUp, RoundedInteger. -/
namespace Go.Proofs.YthplmbgdcfmkgaaGreatDoor
open Go.RowKit

/-- Is a decimal rounded up at its m-th digit? -/
def sru (D : Nat → Int) (n : Nat) (tr : Bool) (m : Int) : Bool :=
  if m < 0 then false else if (n : Int) ≤ m then false else
  if D m.toNat = 53 then
    (if m + 1 = n then (if tr then true else if m = 0 then false else (D (m.toNat - 1) - 48) % 2 != 0) else true)
  else decide (53 ≤ D m.toNat)

set_option maxHeartbeats 400000 in
theorem sru_calls (D : Nat → Int) (n : Nat) (tr : Bool) (m : Int) (hn : n ≤ 800) (w : World) (g : Nat) (dp : Int) (neg : Bool) (h : Dec w g D n dp neg tr) :
    Calls Tryz.prog 148 #[.pointer (some ⟨g, 0, none⟩), .int .i64 m] w fun e w' => e = .returned (.bool (sru D n tr m)) ∧ Drew w w' := by
  by_cases h1 : m < 0
  · have h1b : decide (m < 0) = true := by simp [h1]
    have hr : sru D n tr m = false := by rw [sru, if_pos h1]
    rw [hr]
    go_enter Tryz.func148, Tryz.ntmps148
    go_wp2
    go_ret
    exact ⟨rfl, Drew.refl _⟩
  · have h1b : decide (m < 0) = false := by simp [h1]
    by_cases h2 : (n : Int) ≤ m
    · have h2b : decide ((n : Int) ≤ m) = true := by simp [h2]
      have hr : sru D n tr m = false := by rw [sru, if_neg h1, if_pos h2]
      rw [hr]
      have c0 : w.cell? ⟨g, 800, none⟩ = some (.int .i64 n) := h.nd
      go_enter Tryz.func148, Tryz.ntmps148
      go_wp2
      go_ret
      exact ⟨rfl, Drew.refl _⟩
    · have h2b : decide ((n : Int) ≤ m) = false := by simp [h2]
      obtain ⟨k, rfl⟩ := Int.eq_ofNat_of_zero_le (show 0 ≤ m by omega)
      have e0 : sru D n tr (k : Int) = if D k = 53 then
    (if (k : Int) + 1 = n then (if tr then true else if (k : Int) = 0 then false else (D (k - 1) - 48) % 2 != 0) else true)
  else decide (53 ≤ D k) := by rw [sru, if_neg h1, if_neg h2]; rfl
      have c0 : w.cell? ⟨g, 800, none⟩ = some (.int .i64 n) := h.nd
      have c1 : w.cell? ⟨g, k, none⟩ = some (.int .u8 (D k)) := h.d k (by omega)
      have c3 : w.cell? ⟨g, 803, none⟩ = some (.bool tr) := h.tr
      by_cases h3 : D k = 53
      · have h3b : (D k == 53) = true := by simp [h3]
        rw [if_pos h3] at e0
        by_cases h4 : k + 1 = n
        · subst h4
          rw [if_pos (by omega)] at e0
          cases tr with
          | true =>
            have hr : sru D (k + 1) true k = true := e0
            rw [hr]
            clear h3 e0 hr
            go_enter Tryz.func148, Tryz.ntmps148
            go_wp2
            go_ret
            exact ⟨rfl, Drew.refl _⟩
          | false =>
            cases k with
            | zero =>
              have hr : sru D (0 + 1) false ((0 : Nat) : Int) = false := e0
              rw [hr]
              clear h3 e0 hr
              go_enter Tryz.func148, Tryz.ntmps148
              go_wp2
              go_ret
              exact ⟨rfl, Drew.refl _⟩
            | succ k =>
              have hr : sru D (k + 1 + 1) false ((k + 1 : Nat) : Int) = ((D k - 48) % 2 != 0) := by rw [e0]; simp; omega
              have c2 : w.cell? ⟨g, k, none⟩ = some (.int .u8 (D k)) := h.d k (by omega)
              rw [hr]
              clear h3 e0 hr
              go_enter Tryz.func148, Tryz.ntmps148
              go_wp2
              go_ret
              exact ⟨rfl, Drew.refl _⟩
        · have h4b : (((k : Int) + 1) == (n : Int)) = false := by rw [beq_eq_false_iff_ne]; omega
          have h5 : decide (53 ≤ D k) = true := by simp [h3]
          have hr : sru D n tr (k : Int) = true := by rw [e0, if_neg (by omega)]
          rw [hr]
          clear h3 e0 hr
          go_enter Tryz.func148, Tryz.ntmps148
          go_wp2
          go_ret
          exact ⟨rfl, Drew.refl _⟩
      · have h3b : (D k == 53) = false := by simp [h3]
        have hr : sru D n tr (k : Int) = decide (53 ≤ D k) := by rw [e0, if_neg h3]
        rw [hr]
        clear h3 e0 hr
        go_enter Tryz.func148, Tryz.ntmps148
        go_wp2
        go_ret
        exact ⟨rfl, Drew.refl _⟩

/-- The number of the first i digits. -/
def riNum (D : Nat → Int) : Nat → Int
  | 0 => 0
  | i + 1 => IntKind.u64.wrap (IntKind.u64.wrap (riNum D i * 10) + (D i - 48) % 256)
/-- .. with j zeros behind. -/
def riZ (N : Int) : Nat → Int
  | 0 => N
  | j + 1 => IntKind.u64.wrap (riZ N j * 10)
def riAt (D : Nat → Int) (n d : Nat) : Int := riZ (riNum D (min n d)) (d - min n d)
/-- The whole part of a decimal, rounded. -/
def riF (D : Nat → Int) (n : Nat) (tr : Bool) (dp : Int) : Int :=
  if 20 < dp then 18446744073709551615 else if sru D n tr dp = true then IntKind.u64.wrap (riAt D n dp.toNat + 1) else riAt D n dp.toNat
theorem riF_up {D n tr dp} (h : ¬ 20 < dp) (hs : sru D n tr dp = true) : riF D n tr dp = IntKind.u64.wrap (riAt D n dp.toNat + 1) := by rw [riF, if_neg h, if_pos hs]
theorem riF_as {D n tr dp} (h : ¬ 20 < dp) (hs : sru D n tr dp = false) : riF D n tr dp = riAt D n dp.toNat := by rw [riF, if_neg h, if_neg (by rw [hs]; decide)]
theorem riF_max {D n tr dp} (h : 20 < dp) : riF D n tr dp = 18446744073709551615 := by rw [riF, if_pos h]

set_option maxHeartbeats 1000000 in
theorem ri_calls (D : Nat → Int) (n : Nat) (tr : Bool) (dp : Int) (hn : n ≤ 800) (w : World) (g : Nat) (neg : Bool) (h : Dec w g D n dp neg tr) :
    Calls Tryz.prog 142 #[.pointer (some ⟨g, 0, none⟩)] w fun e w' => e = .returned (.int .u64 (riF D n tr dp)) ∧ Drew w w' := by
  have H := Lib.hid h
  clear h
  have c0 : w.cell? ⟨g, 800, none⟩ = some (.int .i64 n) := H.out.nd
  have c1 : w.cell? ⟨g, 801, none⟩ = some (.int .i64 dp) := H.out.dp
  by_cases hbig : 20 < dp
  · have hd : decide (20 < dp) = true := by simp [hbig]
    have HR := Lib.hid (riF_max (D := D) (n := n) (tr := tr) hbig)
    go_enter Tryz.func142, Tryz.ntmps142
    go_wp2
    go_ret
    exact ⟨ret_int HR.out, Drew.refl _⟩
  have hd : decide (20 < dp) = false := by simp [hbig]
  have hdp : dp ≤ 20 := by omega
  obtain ⟨s, hs⟩ : ∃ s, s = sru D n tr dp := ⟨_, rfl⟩
  have HR : Hid (riF D n tr dp = if s = true then IntKind.u64.wrap (riAt D n dp.toNat + 1) else riAt D n dp.toNat) := by
    unfold Hid
    rw [hs, riF, if_neg hbig]
  have HS : ∀ w, Dec w g D n dp neg tr → Calls Tryz.prog 148 #[.pointer (some ⟨g, 0, none⟩), .int .i64 dp] w fun e w' => e = .returned (.bool s) ∧ Drew w w' := by
    rw [hs]; exact fun w h => sru_calls D n tr dp hn w g dp neg h
  have HS' := Lib.hid HS
  clear hs HS hbig
  go_enter Tryz.func142, Tryz.ntmps142
  go_wp2
  go_loopg [3, 4] n (fun k i N wr => ∃ j : Nat, j ≤ n ∧ k + j = n ∧ ((j : Int) ≤ dp ∨ j = 0) ∧ i = .int .i64 j ∧ N = .int .u64 (riNum D j) ∧ Hid (Drew w wr))
  case atStart => exact ⟨0, by omega, by omega, .inr rfl, rfl, rfl, Drew.refl _⟩
  case round =>
    obtain ⟨j, hj, hk, hjd, rfl, rfl, hw⟩ := hrel
    have HK := Lib.hid hk
    have HJ := Lib.hid hjd
    clear hk hjd
    have c0 : wr.cell? ⟨g, 800, none⟩ = some (.int .i64 n) := (hw.out.cell _).trans H.out.nd
    have c1 : wr.cell? ⟨g, 801, none⟩ = some (.int .i64 dp) := (hw.out.cell _).trans H.out.dp
    by_cases hgo : (j : Int) < dp ∧ j < n
    · obtain ⟨h1, h2⟩ := hgo
      have h1b : decide ((j : Int) < dp) = true := by simp [h1]
      have h2b : decide ((j : Int) < (n : Int)) = true := by simp [h2]
      have c2 : wr.cell? ⟨g, j, none⟩ = some (.int .u8 (D j)) := (hw.out.cell _).trans (H.out.d j (by omega))
      go_wp2
      have hk := HK.out
      go_roundg (gk - 1)
      case measure => omega
      case rel => exact ⟨j + 1, by omega, by omega, .inl (by omega), by go_num, rfl, hw.out⟩
    · have hmin : Hid (j = min n dp.toNat) := by
        unfold Hid
        rcases HJ.out with h | h <;> omega
      have hz : Hid (j ≤ dp.toNat) := by
        unfold Hid
        rcases HJ.out with h | h <;> omega
      have hcase : decide ((j : Int) < dp) = false ∨ (decide ((j : Int) < dp) = true ∧ decide (j < n) = false) := by
        by_cases h1 : (j : Int) < dp
        · right; exact ⟨by simp [h1], by simp; omega⟩
        · left; simp [h1]
      clear hgo
      have HG : Hid (Drew w wr) := hw
      rcases hcase with h1b | ⟨h1b, h2b⟩
      all_goals
        go_wp2
        go_loopg [3, 4] (dp.toNat - j) (fun k i N wr => ∃ q : Nat, j + q ≤ dp.toNat ∧ k + q = dp.toNat - j ∧ i = .int .i64 ((j + q : Nat) : Int) ∧ N = .int .u64 (riZ (riNum D j) q) ∧ Hid (Drew w wr))
        case atStart => exact ⟨0, hz.out, by omega, rfl, rfl, HG⟩
        case round =>
          obtain ⟨q, hq, hkq, rfl, rfl, hwq⟩ := hrel
          have HKQ := Lib.hid hkq
          have HQ := Lib.hid hq
          clear hkq hq
          have c0 : wr.cell? ⟨g, 800, none⟩ = some (.int .i64 n) := (hwq.out.cell _).trans H.out.nd
          have c1 : wr.cell? ⟨g, 801, none⟩ = some (.int .i64 dp) := (hwq.out.cell _).trans H.out.dp
          by_cases h3 : ((j + q : Nat) : Int) < dp
          · have h3b : decide (((j + q : Nat) : Int) < dp) = true := by simp only [h3, decide_true]
            go_wp2
            have hkq := HKQ.out
            have hq := HQ.out
            go_roundg (gk - 1)
            case measure => omega
            case rel => exact ⟨q + 1, by omega, by omega, by go_num, rfl, hwq.out⟩
          · have h3b : decide (((j + q : Nat) : Int) < dp) = false := by simp only [h3, decide_false]
            have hN : Hid (riZ (riNum D j) q = riAt D n dp.toNat) := by
              have h1 := hmin.out
              have h2 := HQ.out
              have h4 := hz.out
              have e : q = dp.toNat - j := by omega
              unfold Hid riAt
              rw [e, ← h1]
            cases s with
            | true =>
              go_wp2_with (go_at_call 148; refine (HS'.out _ ((H.out.drewN' hwq.out))).mono ?_; rintro e w' ⟨rfl, hw'⟩)
              go_ret
              exact ⟨ret_int (HR.out.trans ((if_pos (by simp)).trans (by rw [← hN.out]))), hwq.out.trans hw'⟩
            | false =>
              go_wp2_with (go_at_call 148; refine (HS'.out _ ((H.out.drewN' hwq.out))).mono ?_; rintro e w' ⟨rfl, hw'⟩)
              go_ret
              exact ⟨ret_int (HR.out.trans ((if_neg (by simp)).trans (by rw [← hN.out]))), hwq.out.trans hw'⟩
end Go.Proofs.YthplmbgdcfmkgaaGreatDoor
/- The library's decimal: leftShift. -/
namespace Go.Proofs.YthplmbgdcfmkgaaGreatDoor
open Go.RowKit

def dg (D : Nat → Int) (p : Nat) : Nat := (D p - 48).toNat
/-- What is carried when j digits, from the last one on, are shifted. -/
def lsA (D : Nat → Int) (k n : Nat) : Nat → Nat
  | 0 => 0
  | j + 1 => (lsA D k n j + dg D (n - 1 - j) * 2 ^ k) / 10
def lsM (D : Nat → Int) (k n j : Nat) : Nat := lsA D k n j + dg D (n - 1 - j) * 2 ^ k
/-- The digits when j are shifted, each d places to the right. -/
def lsD (D : Nat → Int) (k n d j : Nat) (p : Nat) : Int :=
  if n + d ≤ p + j ∧ p < n + d then 48 + ((lsM D k n (n + d - 1 - p) % 10 : Nat) : Int) else D p
def lsT (D : Nat → Int) (k n d : Nat) (tr : Bool) : Nat → Bool
  | 0 => tr
  | j + 1 => lsT D k n d tr j || (decide (800 ≤ n - 1 - j + d) && decide (lsM D k n j % 10 ≠ 0))
def lsE (D : Nat → Int) (k n d i : Nat) (p : Nat) : Int :=
  if d ≤ p + i ∧ p < d then 48 + ((lsA D k n n / 10 ^ (d - 1 - p) % 10 : Nat) : Int) else lsD D k n d n p

theorem lsA_succ (D k n j) : lsA D k n (j + 1) = lsM D k n j / 10 := rfl
theorem dg_le {D : Nat → Int} {p : Nat} (h : 48 ≤ D p ∧ D p ≤ 57) : dg D p ≤ 9 := by unfold dg; omega
theorem dg_eq {D : Nat → Int} {p : Nat} (h : 48 ≤ D p ∧ D p ≤ 57) : D p - 48 = (dg D p : Int) := by unfold dg; omega
theorem lsA_lt {D : Nat → Int} {k n : Nat} (h : ∀ p, p < n → 48 ≤ D p ∧ D p ≤ 57) : ∀ j, j ≤ n → lsA D k n j < 2 ^ k
  | 0, _ => Nat.two_pow_pos k
  | j + 1, hj => by
    have ih := lsA_lt (k := k) h j (by omega)
    have hd := dg_le (h (n - 1 - j) (by omega))
    rw [lsA_succ]
    unfold lsM
    have : dg D (n - 1 - j) * 2 ^ k ≤ 9 * 2 ^ k := Nat.mul_le_mul_right _ hd
    omega
theorem lsM_lt {D : Nat → Int} {k n : Nat} (h : ∀ p, p < n → 48 ≤ D p ∧ D p ≤ 57) (j : Nat) (hj : j < n) : lsM D k n j < 10 * 2 ^ k := by
  have ih := lsA_lt (k := k) h j (by omega)
  have hd := dg_le (h (n - 1 - j) (by omega))
  unfold lsM
  have : dg D (n - 1 - j) * 2 ^ k ≤ 9 * 2 ^ k := Nat.mul_le_mul_right _ hd
  omega
theorem pow60 {k : Nat} (h : k ≤ 60) : 2 ^ k ≤ 1152921504606846976 := by
  have := Nat.pow_le_pow_right (show 2 > 0 by omega) h
  simpa using this

theorem lsD_step (D k n d i) (hi : i < n) (p : Nat) : (if p = i + d then 48 + ((lsM D k n (n - (i + 1)) % 10 : Nat) : Int) else lsD D k n d (n - (i + 1)) p) = lsD D k n d (n - i) p := by
  unfold lsD
  by_cases e : p = i + d
  · subst e
    rw [if_pos rfl, if_pos (by omega), show n + d - 1 - (i + d) = n - (i + 1) by omega]
  · rw [if_neg e]
    by_cases h2 : n + d ≤ p + (n - (i + 1)) ∧ p < n + d
    · rw [if_pos h2, if_pos (by omega)]
    · rw [if_neg h2, if_neg (by omega)]
theorem lsD_far (D k n d i) (hi : i < n) (p : Nat) (hp : p < 800) (hf : 800 ≤ i + d) : lsD D k n d (n - (i + 1)) p = lsD D k n d (n - i) p := by
  rw [← lsD_step D k n d i hi p, if_neg (by omega)]
theorem lsT_near (D k n d tr i) (hi : i < n) (hf : i + d < 800) : lsT D k n d tr (n - (i + 1)) = lsT D k n d tr (n - i) := by
  rw [show n - i = n - (i + 1) + 1 by omega, lsT]
  have : decide (800 ≤ n - 1 - (n - (i + 1)) + d) = false := by simp; omega
  rw [this]; simp
theorem lsT_far0 (D k n d tr i) (hi : i < n) (h0 : lsM D k n (n - (i + 1)) % 10 = 0) : lsT D k n d tr (n - (i + 1)) = lsT D k n d tr (n - i) := by
  rw [show n - i = n - (i + 1) + 1 by omega, lsT, h0]
  simp
theorem lsT_far1 (D k n d tr i) (hi : i < n) (hf : 800 ≤ i + d) (h0 : lsM D k n (n - (i + 1)) % 10 ≠ 0) : true = lsT D k n d tr (n - i) := by
  rw [show n - i = n - (i + 1) + 1 by omega, lsT]
  have : decide (800 ≤ n - 1 - (n - (i + 1)) + d) = true := by simp; omega
  rw [this]; simp [h0]

theorem lsD_zero (D k n d) (p : Nat) : lsD D k n d 0 p = D p := by
  unfold lsD
  rw [if_neg (by omega)]
theorem lsE_zero (D k n d) (p : Nat) : lsE D k n d 0 p = lsD D k n d n p := by
  unfold lsE
  rw [if_neg (by omega)]
theorem lsE_step (D k n d i) (hi : i < d) (p : Nat) : (if p = d - (i + 1) then 48 + ((lsA D k n n / 10 ^ i % 10 : Nat) : Int) else lsE D k n d i p) = lsE D k n d (i + 1) p := by
  unfold lsE
  by_cases e : p = d - (i + 1)
  · subst e
    rw [if_pos rfl, if_pos (by omega), show d - 1 - (d - (i + 1)) = i by omega]
  · rw [if_neg e]
    by_cases h2 : d ≤ p + i ∧ p < d
    · rw [if_pos h2, if_pos (by omega)]
    · rw [if_neg h2, if_neg (by omega)]
theorem carry_more {c d i : Nat} (hc : d = 0 ∨ 10 ^ (d - 1) ≤ c) (hi : i < d) : 0 < c / 10 ^ i := by
  rcases hc with h | h
  · omega
  · have : 10 ^ i ≤ 10 ^ (d - 1) := Nat.pow_le_pow_right (by omega) (by omega)
    exact Nat.div_pos (by omega) (Nat.pow_pos (by omega))
theorem carry_done {c d : Nat} (hc : c < 10 ^ d) : c / 10 ^ d = 0 := Nat.div_eq_of_lt hc
theorem carry_div (c i : Nat) : c / 10 ^ i / 10 = c / 10 ^ (i + 1) := by rw [Nat.div_div_eq_div_mul, Nat.pow_succ]

set_option maxHeartbeats 2000000 in
set_option maxRecDepth 100000 in
theorem ls_any (b : Bool) (D : Nat → Int) (n : Nat) (tr neg : Bool) (dp : Int) (hn : n ≤ 800) (k : Nat) (hk1 : 1 ≤ k) (hk2 : k ≤ 60) (w : World) (g : Nat) (h : Dec w g D n dp neg tr)
  (lc lo d : Nat) (cut : ByteArray) (hD : ∀ p, p < n → 48 ≤ D p ∧ D p ≤ 57) (hd : d ≤ 19) (hb : plt D n 0 cut.data.toList = b)
  (g0 : w.cell? ⟨15, 0, none⟩ = some (.slice (some ⟨lc, lo, none⟩) 61 61))
  (g1 : w.cell? ⟨lc, lo + k * 2, none⟩ = some (.int .i64 ((d + b.toNat : Nat) : Int)))
  (g2 : w.cell? ⟨lc, lo + k * 2 + 1, none⟩ = some (.string cut)) (hcut : cut.size ≤ 100)
  (hdp : -1000000 ≤ dp ∧ dp ≤ 1000000) (hc1 : lsA D k n n < 10 ^ d) (hc2 : d = 0 ∨ 10 ^ (d - 1) ≤ lsA D k n n) :
    Calls Tryz.prog 146 #[.pointer (some ⟨g, 0, none⟩), .int .u64 k] w fun e w' => e = .returned (.tuple #[]) ∧
      Dec w' g (lsE D k n d d) (trimN (lsE D k n d d) (min (n + d) 800)) (trimDp (lsE D k n d d) (min (n + d) 800) (dp + d)) neg (lsT D k n d tr n) ∧ Only g w w' := by
  have H := Lib.hid h
  have HD := Lib.hid hD
  have c0 : w.cell? ⟨g, 800, none⟩ = some (.int .i64 n) := H.out.nd
  have c1 : w.cell? ⟨g, 801, none⟩ = some (.int .i64 dp) := H.out.dp
  have hP : ∀ W, Drew w W → Calls Tryz.prog 153 #[.slice (some ⟨g, 0, none⟩) n 800, .string cut] W fun e w' => e = .returned (.bool b) ∧ Drew W w' := by
    intro W hW
    rw [← hb]
    exact plt_calls g D n _ cut _ (fun p hp => (hW.cell _).trans (h.d p (by omega))) hn hcut
  have HP := Lib.hid hP
  have HC1 := Lib.hid hc1
  have HC2 := Lib.hid hc2
  clear h hD hb hP hc1 hc2
  obtain ⟨hdp1, hdp2⟩ := hdp
  have hn' : (n : Int) ≤ 800 := by omega
  cases b
  all_goals
    simp only [Bool.toNat_true, Bool.toNat_false, Nat.add_zero, Int.natCast_add, Int.natCast_one] at g1
    go_enter Tryz.func146, Tryz.ntmps146
    go_wp2_with fail
    go_quiet ((go_at_call 153; exact Calls.quiet_of (HP.out _ (Drew.drewN (Drew.refl _) _))))
    go_wp2_with fail
    go_loopg [5, 6, 7] n (fun q r x m wr => ∃ i : Nat, i ≤ n ∧ q = i ∧ r = .int .i64 ((i : Int) - 1) ∧ x = .int .i64 ((i + d : Nat) : Int) ∧ m = .int .u64 (lsA D k n (n - i) : Nat) ∧ Hid (Dec wr g (lsD D k n d (n - i)) n dp neg (lsT D k n d tr (n - i))) ∧ Hid (Only g w wr))
    case atStart => exact ⟨n, Nat.le_refl _, rfl, rfl, by go_num, by rw [Nat.sub_self]; rfl, (H.out.drewN _).congr (fun p _ => by rw [Nat.sub_self, lsD_zero]) rfl (by rw [Nat.sub_self]; rfl), (Only.refl _ _).drewN _⟩
    case round =>
      obtain ⟨i, hi, rfl, rfl, rfl, rfl, hdw, how⟩ := hrel
      cases gk with
      | zero =>
        have HW : Hid (Dec wr g (lsE D k n d 0) n dp neg (lsT D k n d tr n)) := hdw.out.congr (fun p _ => by rw [lsE_zero, Nat.sub_zero]) rfl (by rw [Nat.sub_zero])
        have HO : Hid (Only g w wr) := how
        clear hdw how
        obtain ⟨C, hC⟩ : ∃ C, C = lsA D k n n := ⟨_, rfl⟩
        rw [Nat.sub_zero, ← hC]
        have hCl := lsA_lt (k := k) HD.out n (Nat.le_refl _)
        rw [← hC] at hCl
        have hp := pow60 hk2
        have HCl : Hid (C < 1152921504606846976) := by unfold Hid; omega
        have HCe := Lib.hid hC
        clear hC hCl hp
        go_wp2
        go_loopg [6, 7] d (fun q x m wr => ∃ i : Nat, i ≤ d ∧ q + i = d ∧ x = .int .i64 (q : Int) ∧ m = .int .u64 (C / 10 ^ i : Nat) ∧ Hid (Dec wr g (lsE D k n d i) n dp neg (lsT D k n d tr n)) ∧ Hid (Only g w wr))
        case atStart => exact ⟨0, by omega, by omega, by go_num, by simp, HW, HO⟩
        case round =>
          obtain ⟨i, hi, hq, rfl, rfl, hdw, how⟩ := hrel
          have HQ := Lib.hid hq
          clear hq
          obtain ⟨M, hM⟩ : ∃ M, M = C / 10 ^ i := ⟨_, rfl⟩
          rw [← hM]
          have hMle : M ≤ C := by rw [hM]; exact Nat.div_le_self _ _
          cases gk with
          | zero =>
            have hq := HQ.out
            obtain rfl : i = d := by omega
            have hM0 : M = 0 := by rw [hM, HCe.out]; exact carry_done HC1.out
            subst hM0
            clear hM hq
            have HT : ∀ (m : Nat) (W : World), m ≤ 800 → Dec W g (lsE D k n i i) m (dp + i) neg (lsT D k n i tr n) → Calls Tryz.prog 154 #[.pointer (some ⟨g, 0, none⟩)] W fun e w' => e = .returned (.tuple #[]) ∧ Dec w' g (lsE D k n i i) (trimN (lsE D k n i i) m) (trimDp (lsE D k n i i) m (dp + i)) neg (lsT D k n i tr n) ∧ Only g W w' := fun m W hm hW => trim_calls g _ m _ neg _ W hW hm
            have HT' := Lib.hid HT
            have c4 : wr.cell? ⟨g, 800, none⟩ = some (.int .i64 n) := hdw.out.nd
            have c5 : wr.cell? ⟨g, 801, none⟩ = some (.int .i64 dp) := hdw.out.dp
            have f4 : wr.frozen? ⟨g, 800, none⟩ = false := hdw.out.fr _
            have f5 : wr.frozen? ⟨g, 801, none⟩ = false := hdw.out.fr _
            clear HT hMle
            by_cases hge : 800 ≤ n + i
            · have hm : Hid (min (n + i) 800 = 800) := by unfold Hid; omega
              go_wp2_with fail
              refine (HT'.out 800 _ (by omega) ?_).mono ?_
              · exact ((hdw.out.setN _).setN _).setDp _
              · rintro e w' ⟨rfl, hd', ho'⟩
                go_wp2
                go_end0
                rw [hm.out]
                refine ⟨rfl, hd', ?_⟩
                exact (((how.out.setCell _ _).setCell _ _).setCell _ _).trans ho'
            · have hm : Hid (min (n + i) 800 = n + i) := by unfold Hid; omega
              go_wp2_with fail
              refine (HT'.out (n + i) _ (by omega) ?_).mono ?_
              · exact (hdw.out.setN _).setDp _
              · rintro e w' ⟨rfl, hd', ho'⟩
                go_wp2
                go_end0
                rw [hm.out]
                refine ⟨rfl, hd', ?_⟩
                exact ((how.out.setCell _ _).setCell _ _).trans ho'
          | succ q =>
            have hq := HQ.out
            have hMpos : 0 < M := by rw [hM, HCe.out]; exact carry_more HC2.out (by omega)
            obtain ⟨Qv, hQ⟩ : ∃ Qv, Qv = M / 10 := ⟨_, rfl⟩
            obtain ⟨R, hR⟩ : ∃ R, R = M % 10 := ⟨_, rfl⟩
            have hR9 : R ≤ 9 := by omega
            have hCl := HCl.out
            have e3 : IntKind.u64.wrap ((M : Int) / 10) = (Qv : Int) := by
              have : ((M : Int) / 10) = (Qv : Int) := by omega
              rw [this]
              exact u64w _ (by omega) (by omega)
            have e4 : IntKind.u64.wrap ((M : Int) - IntKind.u64.wrap (10 * (Qv : Int))) = (R : Int) := by
              rw [u64w (10 * (Qv : Int)) (by omega) (by omega)]
              have : ((M : Int) - 10 * (Qv : Int)) = (R : Int) := by omega
              rw [this]
              exact u64w _ (by omega) (by omega)
            have HQe : Hid (C / 10 ^ (i + 1) = Qv) := by unfold Hid; rw [← carry_div, ← hM, hQ]
            have HRe : Hid (lsA D k n n / 10 ^ i % 10 = R) := by unfold Hid; rw [← HCe.out, ← hM, hR]
            have hqd : q < 800 := by omega
            have c3 : wr.cell? ⟨g, q, none⟩ = some (.int .u8 (lsE D k n d i q)) := hdw.out.d q (by omega)
            have f3 : wr.frozen? ⟨g, q, none⟩ = false := hdw.out.fr q
            have hi2 : i < d := by omega
            have hqe : Hid (q = d - (i + 1)) := by unfold Hid; omega
            clear hM hMle hQ hR hq hCl hi
            rw [show (((q + 1 : Nat) : Int)) = (q : Int) + 1 from by omega]
            go_wp2
            have hq := HQ.out
            go_roundg q
            case measure => omega
            case rel =>
              refine ⟨i + 1, by omega, by omega, by go_num, by rw [HQe.out], ?_, how.out.setCell _ _⟩
              refine (hdw.out.setD q (by omega) ((R : Int) + 48)).congr (fun p _ => ?_) rfl rfl
              rw [← lsE_step D k n d i (by omega) p, HRe.out, ← hqe.out]
              by_cases e : p = q
              · rw [if_pos e, if_pos e]; omega
              · rw [if_neg e, if_neg e]
      | succ i =>
        rw [show (((i + 1 : Nat) : Int) - 1) = (i : Int) from by omega]
        have c2 : wr.cell? ⟨g, i, none⟩ = some (.int .u8 (D i)) := by
          rw [hdw.out.d i (by omega)]
          unfold lsD
          rw [if_neg (by omega)]
        have f2 : ∀ p, wr.frozen? ⟨g, p, none⟩ = false := hdw.out.fr
        have hDi := HD.out i (by omega)
        have hMl := lsM_lt (k := k) HD.out (n - (i + 1)) (by omega)
        have hAl := lsA_lt (k := k) HD.out (n - (i + 1)) (by omega)
        have hp := pow60 hk2
        have hdi : n - 1 - (n - (i + 1)) = i := by omega
        have hMe : lsM D k n (n - (i + 1)) = lsA D k n (n - (i + 1)) + dg D i * 2 ^ k := by rw [lsM, hdi]
        have hQe : lsA D k n (n - i) = lsM D k n (n - (i + 1)) / 10 := by rw [show n - i = n - (i + 1) + 1 by omega, lsA_succ]
        obtain ⟨A, hAe⟩ : ∃ A, A = lsA D k n (n - (i + 1)) := ⟨_, rfl⟩
        obtain ⟨M, hM⟩ : ∃ M, M = lsM D k n (n - (i + 1)) := ⟨_, rfl⟩
        obtain ⟨S, hS⟩ : ∃ S, S = dg D i * 2 ^ k := ⟨_, rfl⟩
        obtain ⟨Qv, hQ⟩ : ∃ Qv, Qv = M / 10 := ⟨_, rfl⟩
        obtain ⟨R, hR⟩ : ∃ R, R = M % 10 := ⟨_, rfl⟩
        have hR9 : R ≤ 9 := by omega
        rw [← hM] at hMl hQe hMe
        rw [← hAe, ← hS] at hMe
        rw [← hAe] at hAl
        rw [← hQ] at hQe
        have e1 : IntKind.u64.wrap ((D i - 48) * 2 ^ k) = (S : Int) := by
          rw [dg_eq hDi, hS]
          have : ((dg D i : Int) * 2 ^ k) = ((dg D i * 2 ^ k : Nat) : Int) := by push_cast; rfl
          rw [this, ← hS]
          exact u64w _ (by omega) (by omega)
        have e2 : IntKind.u64.wrap ((A : Int) + S) = (M : Int) := by
          have : ((A : Int) + S) = (M : Int) := by omega
          rw [this]
          exact u64w _ (by omega) (by omega)
        have e3 : IntKind.u64.wrap ((M : Int) / 10) = (Qv : Int) := by
          have : ((M : Int) / 10) = (Qv : Int) := by omega
          rw [this]
          exact u64w _ (by omega) (by omega)
        have e4 : IntKind.u64.wrap ((M : Int) - IntKind.u64.wrap (10 * (Qv : Int))) = (R : Int) := by
          rw [u64w (10 * (Qv : Int)) (by omega) (by omega)]
          have : ((M : Int) - 10 * (Qv : Int)) = (R : Int) := by omega
          rw [this]
          exact u64w _ (by omega) (by omega)
        rw [← hAe]
        have HQe := Lib.hid hQe
        have HRe : Hid (lsM D k n (n - (i + 1)) % 10 = R) := by unfold Hid; rw [← hM, hR]
        clear hAe hM hS hQ hR hMl hAl hMe hQe hdi hp
        by_cases hlt : i + d < 800
        · have c3 : wr.cell? ⟨g, i + d, none⟩ = some (.int .u8 (lsD D k n d (n - (i + 1)) (i + d))) := hdw.out.d (i + d) hlt
          go_wp2
          go_roundg i
          case measure => omega
          case rel =>
            refine ⟨i, by omega, rfl, rfl, by go_num, by rw [HQe.out], ?_, how.out.setCell _ _⟩
            refine (hdw.out.setD (i + d) hlt ((R : Int) + 48)).congr (fun p _ => ?_) rfl (lsT_near D k n d tr i (by omega) hlt)
            rw [← lsD_step D k n d i (by omega) p, HRe.out]
            by_cases e : p = i + d
            · rw [if_pos e, if_pos e]; omega
            · rw [if_neg e, if_neg e]
        · by_cases hR0 : R = 0
          · have hR0b : ((R : Int) != 0) = false := by simp [hR0]
            have HR0 := Lib.hid hR0
            clear hR0
            go_wp2
            go_roundg i
            case measure => omega
            case rel =>
              refine ⟨i, by omega, rfl, rfl, by go_num, by rw [HQe.out], ?_, how.out⟩
              exact hdw.out.congr (fun p hp => lsD_far D k n d i (by omega) p hp (by omega)) rfl (lsT_far0 D k n d tr i (by omega) (by rw [HRe.out]; exact HR0.out))
          · have hR0b : ((R : Int) != 0) = true := by simp [hR0]
            have c3 : wr.cell? ⟨g, 803, none⟩ = some (.bool (lsT D k n d tr (n - (i + 1)))) := hdw.out.tr
            have HR0 := Lib.hid hR0
            clear hR0
            go_wp2
            go_roundg i
            case measure => omega
            case rel =>
              refine ⟨i, by omega, rfl, rfl, by go_num, by rw [HQe.out], ?_, how.out.setCell _ _⟩
              exact (hdw.out.setTr true).congr (fun p hp => lsD_far D k n d i (by omega) p hp (by omega)) rfl (lsT_far1 D k n d tr i (by omega) (by omega) (by rw [HRe.out]; exact HR0.out))
end Go.Proofs.YthplmbgdcfmkgaaGreatDoor
