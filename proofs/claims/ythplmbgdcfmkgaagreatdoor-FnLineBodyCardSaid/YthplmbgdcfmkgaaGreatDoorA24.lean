/- The reference: places. -/
import Derived.Test.YthplmbgdcfmkgaaGreatDoorA23
import Derived.Test.YthplmbgdcfmkgaaGreatDoorA19
set_option linter.unusedVariables false
set_option linter.unusedSimpArgs false
/- The reference: the reader's small steps. -/
namespace Go.Proofs.YthplmbgdcfmkgaaGreatDoor
open Go.RowKit Go.Proofs Go.Sort

/-- The reader's memory: its block, the tokens R that are left. -/
structure RdS (w : World) (rb q o cap : Nat) (R : List (Nat × ByteArray)) (bad : Bool) : Prop where
  sl : w.cell? ⟨rb, 0, none⟩ = some (.slice (some ⟨q, o, none⟩) R.length cap)
  bd : w.cell? ⟨rb, 1, none⟩ = some (.bool bad)
  f0 : w.frozen? ⟨rb, 0, none⟩ = false
  f1 : w.frozen? ⟨rb, 1, none⟩ = false
  le : R.length ≤ cap
  tk : ∀ i (h : i < R.length), w.cell? ⟨q, o + 2 * i, none⟩ = some (.int .u8 ((R[i]'h).1 : Int)) ∧ w.cell? ⟨q, o + 2 * i + 1, none⟩ = some (.string (R[i]'h).2)
  ne : rb ≠ q
  big : R.length ≤ 1000000 ∧ cap ≤ 9223372036854775807
  ql : q < w.heap.size
theorem RdS.kept {w w' rb q o cap R bad} (h : RdS w rb q o cap R bad) (h1 : w'.heap[rb]? = w.heap[rb]?) (h2 : w'.heap[q]? = w.heap[q]?) (h3 : w.heap.size ≤ w'.heap.size) : RdS w' rb q o cap R bad := by
  have o1 : ∀ i, w'.cell? ⟨rb, i, none⟩ = w.cell? ⟨rb, i, none⟩ := fun i => cell_of_block' h1 i
  have o2 : ∀ i, w'.cell? ⟨q, i, none⟩ = w.cell? ⟨q, i, none⟩ := fun i => cell_of_block' h2 i
  exact ⟨(o1 _).trans h.sl, (o1 _).trans h.bd, (frozen_of_block' h1 _).trans h.f0, (frozen_of_block' h1 _).trans h.f1, h.le, fun i hi => ⟨(o2 _).trans (h.tk i hi).1, (o2 _).trans (h.tk i hi).2⟩, h.ne, h.big, Nat.lt_of_lt_of_le h.ql h3⟩
theorem set_size (w : World) (a : Addr) (v : Value) : (w.setCell a v).heap.size = w.heap.size := by simp [World.setCell]
theorem RdS.setBad {w rb q o cap R bad} (h : RdS w rb q o cap R bad) : RdS (w.setCell ⟨rb, 1, none⟩ (.bool true)) rb q o cap R true :=
  ⟨(cell_set_ne (by decide)).trans h.sl, cell_set_same h.bd, frozen_set.trans h.f0, frozen_set.trans h.f1, h.le, fun i hi => ⟨(cell_other h.ne.symm).trans (h.tk i hi).1, (cell_other h.ne.symm).trans (h.tk i hi).2⟩, h.ne, h.big, by rw [set_size]; exact h.ql⟩
theorem RdS.drop {w rb q o cap p R bad} (h : RdS w rb q o cap (p :: R) bad) : RdS (w.setCell ⟨rb, 0, none⟩ (.slice (some ⟨q, o + 2, none⟩) R.length (cap - 1))) rb q (o + 2) (cap - 1) R bad := by
  have hl := h.le
  have hb := h.big
  simp only [List.length_cons] at hl hb
  refine ⟨cell_set_same h.sl, (cell_set_ne (by decide)).trans h.bd, frozen_set.trans h.f0, frozen_set.trans h.f1, by omega, fun i hi => ?_, h.ne, ⟨by omega, by omega⟩, by rw [set_size]; exact h.ql⟩
  have := h.tk (i + 1) (by simp only [List.length_cons]; omega)
  rw [show o + 2 * (i + 1) = o + 2 + 2 * i by omega] at this
  exact ⟨(cell_other h.ne.symm).trans this.1, (cell_other h.ne.symm).trans this.2⟩
theorem RdS.zero {w rb q o cap R bad} (h : RdS w rb q o cap R bad) (o' : Nat) : RdS (w.setCell ⟨rb, 0, none⟩ (.slice (some ⟨q, o', Option.none⟩) 0 0)) rb q o' 0 [] bad :=
  ⟨cell_set_same h.sl, (cell_set_ne (by decide)).trans h.bd, frozen_set.trans h.f0, frozen_set.trans h.f1, Nat.le_refl _, fun i hi => absurd hi (by simp), h.ne, ⟨by simp, by omega⟩, by rw [set_size]; exact h.ql⟩
/-- The kind of the next token. -/
def nx (R : List (Nat × ByteArray)) (bad : Bool) : Nat := if bad then 0 else match R with
  | [] => 0
  | p :: _ => p.1
theorem nx_bad (R : List (Nat × ByteArray)) : nx R true = 0 := rfl
theorem nx_nil (b : Bool) : nx [] b = 0 := by cases b <;> rfl
theorem nx_cons (p : Nat × ByteArray) (R : List (Nat × ByteArray)) : nx (p :: R) false = p.1 := rfl
set_option maxRecDepth 100000 in
theorem next_ok {rb q o cap R bad} (w : World) (h : RdS w rb q o cap R bad) : Calls Tryz.prog 54 #[.pointer (some ⟨rb, 0, none⟩)] w fun e w' => e = .returned (.int .u8 (nx R bad : Int)) ∧ w' = w := by
  obtain ⟨hsl, hbd, hf0, hf1, hle, htk, hne, ⟨hbigl, hbig⟩, hql⟩ := h
  cases R with
  | nil =>
    have hsl' : w.cell? ⟨rb, 0, none⟩ = some (.slice (some ⟨q, o, none⟩) 0 cap) := hsl
    clear hsl htk
    rw [nx_nil]
    go_enter Tryz.func54, Tryz.ntmps54
    go_wp2_with fail
    go_ret
    exact ⟨rfl, rfl⟩
  | cons p R =>
    have ht := (htk 0 (by simp)).1
    simp only [Nat.mul_zero, Nat.add_zero, List.getElem_cons_zero] at ht
    have hsl' : w.cell? ⟨rb, 0, none⟩ = some (.slice (some ⟨q, o, none⟩) (R.length + 1) cap) := hsl
    have z0 : ((R.length : Int) + 1 == 0) = false := by rw [beq_eq_false_iff_ne]; omega
    clear hsl htk
    cases bad with
    | true =>
      rw [nx_bad]
      go_enter Tryz.func54, Tryz.ntmps54
      go_wp2_with fail
      go_ret
      exact ⟨rfl, rfl⟩
    | false =>
      rw [nx_cons]
      go_enter Tryz.func54, Tryz.ntmps54
      go_wp2_with fail
      go_ret
      exact ⟨rfl, rfl⟩
def TakePost (rb q o cap : Nat) (R : List (Nat × ByteArray)) (bad : Bool) (c : Nat) (w : World) (e : Ending) (w' : World) : Prop :=
  Only rb w w' ∧ ((nx R bad ≠ c ∧ e = .returned (.string ⟨#[]⟩) ∧ RdS w' rb q o cap R true) ∨ (∃ t R', bad = false ∧ R = (c, t) :: R' ∧ e = .returned (.string t) ∧ ∃ o' cap', RdS w' rb q o' cap' R' false))
set_option maxRecDepth 100000 in
theorem take_ok {rb q o cap R bad} (c : Nat) (hc : 0 < c) (w : World) (h : RdS w rb q o cap R bad) : Calls Tryz.prog 34 #[.pointer (some ⟨rb, 0, none⟩), .int .u8 (c : Int)] w (TakePost rb q o cap R bad c w) := by
  have H := Lib.hid h
  have cN := fun (W : World) (hW : RdS W rb q o cap R bad) => next_ok W hW
  have CN := Lib.hid cN
  obtain ⟨hsl, hbd, hf0, hf1, hle, htk, hne, ⟨hbigl, hbig⟩, hql⟩ := h
  clear cN
  by_cases hn : nx R bad = c
  · obtain ⟨p, R', rfl, rfl⟩ : ∃ p R', bad = false ∧ R = p :: R' := by
      cases bad with
      | true => rw [nx_bad] at hn; omega
      | false =>
        cases R with
        | nil => rw [nx_nil] at hn; omega
        | cons p R' => exact ⟨p, R', rfl, rfl⟩
    obtain ⟨pc, t⟩ := p
    have hpc : pc = c := hn
    subst hpc
    have ht := (htk 0 (by simp)).2
    simp only [Nat.mul_zero, Nat.add_zero, List.getElem_cons_zero] at ht
    have hsl' : w.cell? ⟨rb, 0, none⟩ = some (.slice (some ⟨q, o, none⟩) (R'.length + 1) cap) := hsl
    have hc1 : (1 : Int) ≤ (cap : Int) := by simp only [List.length_cons] at hle; omega
    clear hsl htk
    go_enter Tryz.func34, Tryz.ntmps34
    go_wp2_with fail
    refine (CN.out _ H.out).mono ?_
    rintro e w1 ⟨rfl, hw⟩
    obtain rfl := hw.symm
    rw [nx_cons]
    by_cases h1 : cap = 1
    · subst h1
      obtain rfl : R' = [] := by simp only [List.length_cons] at hle; exact List.eq_nil_of_length_eq_zero (by omega)
      go_wp2_with fail
      go_ret
      exact ⟨(Only.refl _ _).setCell _ _, Or.inr ⟨t, [], rfl, rfl, rfl, _, _, H.out.zero _⟩⟩
    · go_wp2_with fail
      go_ret
      exact ⟨(Only.refl _ _).setCell _ _, Or.inr ⟨t, R', rfl, rfl, rfl, _, _, H.out.drop⟩⟩
  · have hz : ((nx R bad : Int) == (c : Int)) = false := by rw [beq_eq_false_iff_ne]; omega
    have Hn := Lib.hid hn
    clear hn htk
    go_enter Tryz.func34, Tryz.ntmps34
    go_wp2_with fail
    refine (CN.out _ H.out).mono ?_
    rintro e w1 ⟨rfl, hw⟩
    obtain rfl := hw.symm
    go_wp2_with fail
    go_ret
    exact ⟨(Only.refl _ _).setCell _ _, Or.inl ⟨Hn.out, rfl, H.out.setBad⟩⟩
def WordPost (rb q o cap : Nat) (R : List (Nat × ByteArray)) (bad : Bool) (u : ByteArray) (w : World) (e : Ending) (w' : World) : Prop :=
  Only rb w w' ∧ ((¬ (bad = false ∧ ∃ R', R = (97, u) :: R') ∧ e = .returned (.bool false) ∧ w' = w) ∨ (∃ R', bad = false ∧ R = (97, u) :: R' ∧ e = .returned (.bool true) ∧ ∃ o' cap', RdS w' rb q o' cap' R' false))
set_option maxRecDepth 100000 in
theorem word_ok {rb q o cap R bad} (u : ByteArray) (w : World) (h : RdS w rb q o cap R bad) : Calls Tryz.prog 36 #[.pointer (some ⟨rb, 0, none⟩), .string u] w (WordPost rb q o cap R bad u w) := by
  have H := Lib.hid h
  have cN := fun (W : World) (hW : RdS W rb q o cap R bad) => next_ok W hW
  have CN := Lib.hid cN
  obtain ⟨hsl, hbd, hf0, hf1, hle, htk, hne, ⟨hbigl, hbig⟩, hql⟩ := h
  clear cN
  by_cases hn : nx R bad = 97
  · obtain ⟨p, R', rfl, rfl⟩ : ∃ p R', bad = false ∧ R = p :: R' := by
      cases bad with
      | true => rw [nx_bad] at hn; omega
      | false =>
        cases R with
        | nil => rw [nx_nil] at hn; omega
        | cons p R' => exact ⟨p, R', rfl, rfl⟩
    obtain ⟨pc, t⟩ := p
    have hpc : pc = 97 := hn
    subst hpc
    have ht := (htk 0 (by simp)).2
    simp only [Nat.mul_zero, Nat.add_zero, List.getElem_cons_zero] at ht
    have hsl' : w.cell? ⟨rb, 0, none⟩ = some (.slice (some ⟨q, o, none⟩) (R'.length + 1) cap) := hsl
    have hc1 : (1 : Int) ≤ (cap : Int) := by simp only [List.length_cons] at hle; omega
    clear hsl htk
    by_cases htu : t = u
    · subst htu
      go_enter Tryz.func36, Tryz.ntmps36
      go_wp2_with fail
      refine (CN.out _ H.out).mono ?_
      rintro e w1 ⟨rfl, hw⟩
      obtain rfl := hw.symm
      rw [nx_cons]
      by_cases h1 : cap = 1
      · subst h1
        obtain rfl : R' = [] := by simp only [List.length_cons] at hle; exact List.eq_nil_of_length_eq_zero (by omega)
        go_wp2_with fail
        go_ret
        exact ⟨(Only.refl _ _).setCell _ _, Or.inr ⟨[], rfl, rfl, rfl, _, _, H.out.zero _⟩⟩
      · go_wp2_with fail
        go_ret
        exact ⟨(Only.refl _ _).setCell _ _, Or.inr ⟨R', rfl, rfl, rfl, _, _, H.out.drop⟩⟩
    · have hz1 : (t.toList == u.toList) = false := by
        rw [beq_eq_false_iff_ne, ByteArray.toList_eq, ByteArray.toList_eq]
        exact fun e => htu (ByteArray.ext (Array.toList_inj.mp e))
      have Htu := Lib.hid htu
      clear htu
      go_enter Tryz.func36, Tryz.ntmps36
      go_wp2_with fail
      refine (CN.out _ H.out).mono ?_
      rintro e w1 ⟨rfl, hw⟩
      obtain rfl := hw.symm
      rw [nx_cons]
      go_wp2_with fail
      go_ret
      exact ⟨Only.refl _ _, Or.inl ⟨fun ⟨_, R2, h2⟩ => Htu.out (by injection h2 with h2 _; injection h2), rfl, rfl⟩⟩
  · have hz : ((nx R bad : Int) == 97) = false := by rw [beq_eq_false_iff_ne]; omega
    have Hn := Lib.hid hn
    clear hn htk
    go_enter Tryz.func36, Tryz.ntmps36
    go_wp2_with fail
    refine (CN.out _ H.out).mono ?_
    rintro e w1 ⟨rfl, hw⟩
    obtain rfl := hw.symm
    go_wp2_with fail
    go_ret
    refine ⟨Only.refl _ _, Or.inl ⟨?_, rfl, rfl⟩⟩
    rintro ⟨rfl, R2, rfl⟩
    exact Hn.out rfl
end Go.Proofs.YthplmbgdcfmkgaaGreatDoor
/- The reference: small functions, numbers. -/
namespace Go.Proofs.YthplmbgdcfmkgaaGreatDoor
open Go.RowKit Go.Proofs Go.Sort

/-- All is kept but the block rb. -/
structure RX (rb : Nat) (w w' : World) : Prop where
  os : w'.os = w.os
  tape : w'.tape = w.tape
  output : w'.output = w.output
  size : w.heap.size ≤ w'.heap.size
  block : ∀ k, k < w.heap.size → k ≠ rb → w'.heap[k]? = w.heap[k]?
theorem RX.refl (rb : Nat) (w : World) : RX rb w w := ⟨rfl, rfl, rfl, Nat.le_refl _, fun _ _ _ => rfl⟩
theorem RX.trans {rb a b c} (h : RX rb a b) (k : RX rb b c) : RX rb a c :=
  ⟨k.os.trans h.os, k.tape.trans h.tape, k.output.trans h.output, Nat.le_trans h.size k.size, fun i hi hn => (k.block i (Nat.lt_of_lt_of_le hi h.size) hn).trans (h.block i hi hn)⟩
theorem RX.only {rb a b} (h : Only rb a b) : RX rb a b := ⟨h.os, h.tape, h.output, Nat.le_of_eq h.size.symm, fun k _ hn => h.block k hn⟩
theorem RX.blw {rb a b} (h : Below a.heap.size a b) : RX rb a b := ⟨h.os, h.tape, h.output, h.size, fun k hk _ => h.block k hk⟩
/-- Below a bound over rb, and rb as well. -/
theorem RX.blwB {rb B a b} (h : Below B a b) (hg : ∀ k, k < a.heap.size → B ≤ k → b.heap[k]? = a.heap[k]?) : RX rb a b := ⟨h.os, h.tape, h.output, h.size, fun k hk _ => by
  rcases Nat.lt_or_ge k B with h1 | h1
  · exact h.block k h1
  · exact hg k hk h1⟩
theorem RX.below {rb a b B} (h : RX rb a b) (hB : B ≤ rb) (hs : B ≤ a.heap.size) : Below B a b := ⟨h.os, h.tape, h.output, h.size, fun k hk => h.block k (Nat.lt_of_lt_of_le hk hs) (by omega)⟩
theorem RdS.rl {w rb q o cap R bad} (h : RdS w rb q o cap R bad) : rb < w.heap.size := World.block_lt_of_cell? w ⟨rb, 0, none⟩ h.sl
theorem RdS.blw {w w' rb q o cap R bad B} (h : RdS w rb q o cap R bad) (k : Below B w w') (h1 : rb < B) (h2 : q < B) : RdS w' rb q o cap R bad := h.kept (k.block _ h1) (k.block _ h2) k.size
theorem kp_blw {w w' : World} (h : Below w.heap.size w w') : Kp w w' := ⟨fun k o hk => by rw [h.block k (Array.getElem?_eq_some_iff.mp hk).1]; exact hk, fun _ hB => h.mono hB⟩
theorem row_rx {B rb : Nat} {w w' : World} {v n xs} (h : w.ownsRow B 75 1 v n xs) (k : RX rb w w') (hr : rb < B) : w'.ownsRow B 75 1 v n xs := by
  refine ⟨h.1, ?_⟩
  rcases h.2 with hn | ⟨q, cap, cur, rfl, hbq, hq, rest⟩
  · exact .inl hn
  · refine .inr ⟨q, cap, cur, rfl, hbq, ?_, rest⟩
    rw [k.block q (Array.getElem?_eq_some_iff.mp hq).1 (by omega)]
    exact hq
set_option maxRecDepth 100000 in
theorem width_ok (c : Nat) (hc : c < 4) (w : World) : Calls Tryz.prog 31 #[.int .i64 (c : Int)] w fun e w' => e = .returned (.int .i64 (wid c : Int)) ∧ w' = w := by
  have h5 : c = 0 ∨ c = 1 ∨ c = 2 ∨ c = 3 := by omega
  have h1 : bits .and .i64 0 1 = 0 := by decide
  have h2 : bits .and .i64 1 1 = 1 := by decide
  have h3 : bits .and .i64 2 1 = 0 := by decide
  have h4 : bits .and .i64 3 1 = 1 := by decide
  rcases h5 with rfl | rfl | rfl | rfl
  all_goals
    go_enter Tryz.func31, Tryz.ntmps31
    go_wp2_with fail
    go_ret
    exact ⟨rfl, rfl⟩
set_option maxRecDepth 100000 in
theorem leaf_ok (w : World) : Calls Tryz.prog 30 #[.int .i64 2] w fun e w' => e = .returned (.bool true) ∧ w' = w := by
  go_enter Tryz.func30, Tryz.ntmps30
  go_wp2_with fail
  go_ret
  exact ⟨rfl, rfl⟩
def dimN (c : Nat) : ByteArray := if c = 1 then ⟨#[90]⟩ else if c = 2 then ⟨#[77]⟩ else if c = 3 then ⟨#[90, 77]⟩ else ⟨#[]⟩
set_option maxRecDepth 100000 in
theorem dimName_ok (c : Nat) (hc : c < 4) (w : World) : Calls Tryz.prog 37 #[.int .i64 (c : Int)] w fun e w' => e = .returned (.string (dimN c)) ∧ w' = w := by
  have h5 : c = 0 ∨ c = 1 ∨ c = 2 ∨ c = 3 := by omega
  rcases h5 with rfl | rfl | rfl | rfl
  all_goals
    go_enter Tryz.func37, Tryz.ntmps37
    go_wp2_with fail
    go_ret
    exact ⟨rfl, rfl⟩
def lineS : ByteArray := ⟨#[76, 73, 78, 69, 83, 84, 82, 73, 78, 71]⟩
def kindS (k : Nat) : ByteArray := if k = 1 then ⟨#[80, 79, 73, 78, 84]⟩ else if k = 2 then lineS else if k = 3 then ⟨#[80, 79, 76, 89, 71, 79, 78]⟩ else if k = 4 then ⟨#[77, 85, 76, 84, 73, 80, 79, 73, 78, 84]⟩ else if k = 5 then ⟨#[77, 85, 76, 84, 73, 76, 73, 78, 69, 83, 84, 82, 73, 78, 71]⟩ else if k = 6 then ⟨#[77, 85, 76, 84, 73, 80, 79, 76, 89, 71, 79, 78]⟩ else ⟨#[71, 69, 79, 77, 69, 84, 82, 89, 67, 79, 76, 76, 69, 67, 84, 73, 79, 78]⟩
set_option maxRecDepth 100000 in
theorem kindName_ok (c : Nat) (hc : c < 7) (w : World) : Calls Tryz.prog 35 #[.int .i64 (c : Int)] w fun e w' => e = .returned (.string (kindS c)) ∧ w' = w := by
  have h5 : c = 0 ∨ c = 1 ∨ c = 2 ∨ c = 3 ∨ c = 4 ∨ c = 5 ∨ c = 6 := by omega
  rcases h5 with rfl | rfl | rfl | rfl | rfl | rfl | rfl
  all_goals
    go_enter Tryz.func35, Tryz.ntmps35
    go_wp2_with fail
    go_ret
    exact ⟨rfl, rfl⟩
set_option maxRecDepth 100000 in
theorem pKind_ok (w : World) : Calls Tryz.prog 9 #[.int .i64 2] w fun e w' => e = .returned (.string lineS) ∧ w' = w := by
  go_enter Tryz.func9, Tryz.ntmps9
  go_wp2_with fail
  go_ret
  exact ⟨rfl, rfl⟩
/-- ' Z ' and the like. -/
def tagS (c : Nat) : ByteArray := if c = 1 then ⟨#[32, 90, 32]⟩ else if c = 2 then ⟨#[32, 77, 32]⟩ else if c = 3 then ⟨#[32, 90, 77, 32]⟩ else ⟨#[]⟩
set_option maxRecDepth 100000 in
theorem xTag_ok (c : Nat) (hc : c < 4) (w : World) : Calls Tryz.prog 10 #[.int .i64 (c : Int)] w fun e w' => e = .returned (.string (tagS c)) ∧ Below w.heap.size w w' := by
  have h1 : bits .and .i64 0 3 = 0 := by decide
  have h2 : bits .and .i64 1 3 = 1 := by decide
  have h3 : bits .and .i64 2 3 = 2 := by decide
  have h4 : bits .and .i64 3 3 = 3 := by decide
  have h5 : c = 0 ∨ c = 1 ∨ c = 2 ∨ c = 3 := by omega
  rcases h5 with rfl | rfl | rfl | rfl
  all_goals
    go_enter Tryz.func10, Tryz.ntmps10
    go_wp2_with fail
    go_ret
    exact ⟨rfl, (Kp.alloc _ _).below _ (Nat.le_refl _)⟩
def RNPost (ox : Option Nat) (w : World) (e : Ending) (w' : World) : Prop :=
  Below w.heap.size w w' ∧ ((∃ y, ox = some y ∧ e = .returned (.tuple #[.float .f64 y, .bool true])) ∨ (ox = none ∧ ∃ f, e = .returned (.tuple #[.float .f64 f, .bool false])))
set_option maxRecDepth 100000 in
theorem readNumber_num (T : Nat → Nat × Nat) (F : Nat → Nat) (B : Nat) (s : ByteArray) (w : World) (neg : Bool) (o : Nat) (hs : s.size ≤ 3000) (hg : Sign s neg o)
    (hc : ∀ j (h : j < s.size), NumCh (s[j]'h).toNat) (ht : TB B T F w) (hB : B ≤ w.heap.size) :
    Calls Tryz.prog 62 #[.string s] w (RNPost (match pfN T F (s.data.toList.drop o) with | some (x, false) => some (sgn neg + x) | _ => none) w) := by
  have cP := parse_num T F B s w neg o hs hg hc ht hB
  have CP := Lib.hid cP
  generalize hR : pfN T F (s.data.toList.drop o) = R at CP ⊢
  clear cP hR hg hc ht hB
  go_enter Tryz.func62, Tryz.ntmps62
  go_wp2_with fail
  refine CP.out.mono ?_
  rintro e w1 ⟨hb, ⟨x, rfl, rfl⟩ | ⟨hno, f, N, q, o2, t, rfl, _⟩⟩
  · have HB := Lib.hid hb
    clear hb
    go_wp2_with fail
    go_quiet (fail)
    go_wp2_with fail
    go_ret2
    exact ⟨Below.drewN HB.out _, Or.inl ⟨_, rfl, rfl⟩⟩
  · have HB := Lib.hid hb
    have Hno := Lib.hid hno
    clear hb hno
    go_wp2_with fail
    go_quiet (fail)
    go_wp2_with fail
    go_ret2
    refine ⟨Below.drewN HB.out _, Or.inr ⟨?_, _, rfl⟩⟩
    rfl
def RNAny (w : World) (e : Ending) (w' : World) : Prop := Below w.heap.size w w' ∧ ∃ f b, e = .returned (.tuple #[.float .f64 f, .bool b])
set_option maxRecDepth 100000 in
theorem readNumber_any (B : Nat) (s : ByteArray) (w : World) (h : Calls Tryz.prog 66 #[.string s, .int .i64 64] w (PJ B s w)) : Calls Tryz.prog 62 #[.string s] w (RNAny w) := by
  have CP := Lib.hid h
  clear h
  go_enter Tryz.func62, Tryz.ntmps62
  go_wp2_with fail
  refine CP.out.mono ?_
  rintro e w1 ⟨hb, ⟨f, _, rfl⟩ | ⟨f, N, q, o2, t, rfl, _⟩⟩
  · have HB := Lib.hid hb
    clear hb
    go_wp2_with fail
    go_quiet (fail)
    go_wp2_with fail
    go_ret2
    exact ⟨Below.drewN HB.out _, _, _, rfl⟩
  · have HB := Lib.hid hb
    clear hb
    go_wp2_with fail
    go_quiet (fail)
    go_wp2_with fail
    go_ret2
    exact ⟨Below.drewN HB.out _, _, _, rfl⟩
end Go.Proofs.YthplmbgdcfmkgaaGreatDoor
/- The reference: a place. -/
namespace Go.Proofs.YthplmbgdcfmkgaaGreatDoor
open Go.RowKit Go.Proofs Go.Sort

/-- A token with its kind. -/
structure WK (p : Nat × ByteArray) : Prop where
  size : p.2.size ≤ 2900
  form : (p.1 = 49 ∧ TNum p.2) ∨ (p.1 = 97 ∧ TJunk p.2 ∧ p.2.toList ≠ [40] ∧ p.2.toList ≠ [41] ∧ p.2.toList ≠ [44]) ∨ ((p.1 = 40 ∨ p.1 = 41 ∨ p.1 = 44 ∨ p.1 = 45) ∧ p.2 = ⟨#[UInt8.ofNat p.1]⟩)
def txs (R : List (Nat × ByteArray)) : List ByteArray := R.map Prod.snd
theorem WK.minus {t} (h : WK (45, t)) : t = ⟨#[45]⟩ := by
  rcases h.form with ⟨h1, _⟩ | ⟨h1, _⟩ | ⟨_, h1⟩
  · exact absurd h1 (by simp)
  · exact absurd h1 (by simp)
  · exact h1
theorem WK.num {t} (h : WK (49, t)) : TNum t := by
  rcases h.form with ⟨_, h1⟩ | ⟨h1, _⟩ | ⟨h1, _⟩
  · exact h1
  · exact absurd h1 (by simp)
  · exact absurd h1 (by simp)
theorem minus_junk (h : TJunk ⟨#[45]⟩) : False := h.first.2.2.2 rfl
theorem sign_list (c : Nat) (hc : c < 256) : (⟨#[UInt8.ofNat c]⟩ : ByteArray).toList = [UInt8.ofNat c] := by rw [ByteArray.toList_eq]
theorem sign_num {c : Nat} (hc : c = 40 ∨ c = 41 ∨ c = 44 ∨ c = 45) (h : TNum ⟨#[UInt8.ofNat c]⟩) : False := by
  have h1 := h.first
  have h2 : ((⟨#[UInt8.ofNat c]⟩ : ByteArray)[0]'h.pos).toNat = c := by
    show (UInt8.ofNat c).toNat = c
    rw [UInt8.toNat_ofNat']; omega
  rw [h2] at h1
  unfold isD at h1
  omega
/-- What the first token has to be where a number is read. -/
theorem lit_kind {T F R x ts'} (hk : ∀ p ∈ R, WK p) (h : Lit T F (txs R) x ts') :
    (∃ t R', R = (49, t) :: R' ∧ ts' = txs R' ∧ ∃ y, pfN T F t.data.toList = some (y, false) ∧ x = sgn false + y) ∨ (∃ m t R', R = (45, m) :: (49, t) :: R' ∧ ts' = txs R' ∧ ∃ y, pfN T F t.data.toList = some (y, false) ∧ x = sgn true + y) := by
  generalize hts : txs R = ts at h
  cases h with
  | pos hn hx =>
    cases R with
    | nil => simp [txs] at hts
    | cons p R' =>
      obtain ⟨k, t⟩ := p
      simp only [txs, List.map_cons, List.cons.injEq] at hts
      obtain ⟨rfl, rfl⟩ := hts
      rcases (hk (k, t) (by simp)).form with ⟨h1, _⟩ | ⟨_, h1, _⟩ | ⟨h1, h2⟩
      · have h1' : k = 49 := h1
        subst h1'
        exact Or.inl ⟨_, _, rfl, rfl, _, hx, rfl⟩
      · exact absurd h1 (fun j => hn.not_junk j)
      · simp only at h2
        rw [h2] at hn
        exact absurd (sign_num h1 hn) id
  | neg hn hx =>
    cases R with
    | nil => simp [txs] at hts
    | cons p R' =>
      obtain ⟨k, m⟩ := p
      cases R' with
      | nil => simp [txs] at hts
      | cons p2 R2 =>
        obtain ⟨k2, t⟩ := p2
        simp only [txs, List.map_cons, List.cons.injEq] at hts
        obtain ⟨rfl, rfl, rfl⟩ := hts
        have e1 : k = 45 := by
          rcases (hk (k, ⟨#[45]⟩) (by simp)).form with ⟨_, h1⟩ | ⟨_, h1, _⟩ | ⟨h1, h2⟩
          · exact absurd h1 (fun h => h.not_minus)
          · exact absurd h1 minus_junk
          · simp only at h1 h2
            have h3 : (45 : UInt8) = UInt8.ofNat k := by injection h2 with h2; simpa using h2
            have h4 := congrArg UInt8.toNat h3
            rw [UInt8.toNat_ofNat'] at h4
            have h5 : (45 : UInt8).toNat = 45 := rfl
            omega
        have e2 : k2 = 49 := by
          rcases (hk (k2, t) (by simp)).form with ⟨h1, _⟩ | ⟨_, h1, _⟩ | ⟨h1, h2⟩
          · exact h1
          · exact absurd h1 (fun j => hn.not_junk j)
          · simp only at h2
            rw [h2] at hn
            exact absurd (sign_num h1 hn) id
        subst e1; subst e2
        exact Or.inr ⟨_, _, _, rfl, rfl, _, hx, rfl⟩
/-- No N numbers can be read. -/
def Stk (T : Nat → Nat × Nat) (F : Nat → Nat) (R : List (Nat × ByteArray)) (N : Nat) (bad : Bool) : Prop := ¬ (bad = false ∧ ∃ zs ts', Lits T F (txs R) zs ts' ∧ zs.length = N)
theorem Stk.of {T F R N ys R1} (h : Lits T F (txs R) ys (txs R1)) (hi : ys.length < N) (hno : ¬ ∃ x ts', Lit T F (txs R1) x ts') : Stk T F R N false := by
  rintro ⟨_, zs, ts', h1, h2⟩
  obtain ⟨ys', ts4, x, ts5, h3, h4, h5⟩ := h1.cut ys.length (by omega)
  obtain ⟨rfl, rfl⟩ := h4.det h (by rw [h3])
  exact hno ⟨_, _, h5⟩
/-- Where the reader stands. -/
def PlSt (T : Nat → Nat × Nat) (F : Nat → Nat) (R : List (Nat × ByteArray)) (N : Nat) (bad : Bool) (ys : List Nat) (R1 : List (Nat × ByteArray)) (bad1 : Bool) : Prop :=
  (∀ p ∈ R1, p ∈ R) ∧ ((bad = false ∧ bad1 = false ∧ Lits T F (txs R) ys (txs R1)) ∨ (bad1 = true ∧ Stk T F R N bad))
def PlacePost (T : Nat → Nat × Nat) (F : Nat → Nat) (rb q : Nat) (R : List (Nat × ByteArray)) (N : Nat) (bad : Bool) (w : World) (e : Ending) (w' : World) : Prop :=
  RX rb w w' ∧ ∃ v ys, ys.length = N ∧ e = .returned v ∧ w'.ownsRow w.heap.size 75 1 v N (flts ys) ∧ ∃ o' cap' R' bad', RdS w' rb q o' cap' R' bad' ∧ PlSt T F R N bad ys R' bad'
theorem cat_size (t : ByteArray) : ((⟨#[45]⟩ : ByteArray) ++ t).size = t.size + 1 := by simp [ByteArray.size_append]; rw [show (⟨#[45]⟩ : ByteArray).size = 1 from rfl]; omega
theorem cat_list (t : ByteArray) : ((⟨#[45]⟩ : ByteArray) ++ t).data.toList = 45 :: t.data.toList := by simp [ByteArray.data_append]
end Go.Proofs.YthplmbgdcfmkgaaGreatDoor
/- The reference: a place, the walk. -/
namespace Go.Proofs.YthplmbgdcfmkgaaGreatDoor
open Go.RowKit Go.Proofs Go.Sort

theorem RX.ext {rb a b c} (h : RX rb a b) (k : Below a.heap.size b c) : RX rb a c :=
  ⟨k.os.trans h.os, k.tape.trans h.tape, k.output.trans h.output, Nat.le_trans h.size k.size, fun i hi hn => (k.block i hi).trans (h.block i hi hn)⟩
/-- One more number, or none. -/
theorem PlSt.bad {T F R N bad ys R1 bad1} (h : PlSt T F R N bad ys R1 bad1) (hk : ∀ p ∈ R, WK p) (hi : ys.length < N) (hno : bad1 = false → ¬ ∃ x ts', Lit T F (txs R1) x ts') {R2} (h2 : ∀ p ∈ R2, p ∈ R1) (zs : List Nat) : PlSt T F R N bad zs R2 true := by
  refine ⟨fun p hp => h.1 p (h2 p hp), Or.inr ⟨rfl, ?_⟩⟩
  rcases h.2 with ⟨rfl, rfl, hL⟩ | ⟨_, hs⟩
  · exact Stk.of hL hi (hno rfl)
  · exact hs
theorem PlSt.num {T F R N bad ys R1} (h : PlSt T F R N bad ys R1 false) {x : Nat} {R2} (hl : Lit T F (txs R1) x (txs R2)) (h2 : ∀ p ∈ R2, p ∈ R1) : PlSt T F R N bad (ys ++ [x]) R2 false := by
  refine ⟨fun p hp => h.1 p (h2 p hp), ?_⟩
  rcases h.2 with ⟨rfl, _, hL⟩ | ⟨hb, _⟩
  · exact Or.inl ⟨rfl, rfl, Lits.snoc hL hl⟩
  · exact absurd hb (by decide)
/-- What the loop over a place's numbers keeps. -/
structure PlI (T : Nat → Nat × Nat) (F : Nat → Nat) (rb q : Nat) (R : List (Nat × ByteArray)) (N : Nat) (bad : Bool) (w : World) (i : Nat) (v : Value) (wr : World) (ys : List Nat) (R1 : List (Nat × ByteArray)) (bad1 : Bool) (o cap : Nat) : Prop where
  len : ys.length = i
  rx : RX rb w wr
  rd : RdS wr rb q o cap R1 bad1
  st : PlSt T F R N bad ys R1 bad1
  row : wr.ownsRow w.heap.size 75 1 v i (flts ys)
def PlS (T : Nat → Nat × Nat) (F : Nat → Nat) (rb q : Nat) (R : List (Nat × ByteArray)) (N : Nat) (bad : Bool) (w : World) (i : Nat) (v : Value) (wr : World) : Prop := ∃ ys R1 bad1 o cap, PlI T F rb q R N bad w i v wr ys R1 bad1 o cap
/-- A round's end: the number x is put behind, the reader stands at R2. -/
theorem PlI.put {T F rb q R N bad w i v wr ys R1 bad1 o cap} (h : PlI T F rb q R N bad w i v wr ys R1 bad1 o cap) {w1 w2 : World} {x : Nat} {v2 : Value} {R2 bad2 o2 cap2} (hx : RX rb wr w1) (hr : RdS w1 rb q o2 cap2 R2 bad2) (hs : PlSt T F R N bad (ys ++ [x]) R2 bad2) (hB : Below w.heap.size w1 w2) (ho : w2.ownsRow w.heap.size 75 1 v2 (i + 1) (flts ys ++ flts [x])) (hrb : rb < w.heap.size) (hq : q < w.heap.size) : PlS T F rb q R N bad w (i + 1) v2 w2 :=
  ⟨ys ++ [x], R2, bad2, o2, cap2, ⟨by rw [List.length_append, h.len]; rfl, (h.rx.trans hx).ext hB, hr.blw hB hrb hq, hs, by rw [flts, List.map_append]; exact ho⟩⟩
theorem RX.tb {rb a b B T F} (h : RX rb a b) (ht : TB B T F a) (hB : B ≤ rb) (hs : B ≤ a.heap.size) : TB B T F b := ht.below (h.below hB hs)
theorem num_ok {B T F t} (h : TNum t) (hs : t.size ≤ 2900) (w : World) (ht : TB B T F w) (hB : B ≤ w.heap.size) : Calls Tryz.prog 62 #[.string t] w (RNPost (match pfN T F t.data.toList with | some (x, false) => some (sgn false + x) | _ => none) w) := by
  have hf := h.first
  unfold isD at hf
  exact readNumber_num T F B t w false 0 (by omega) (Sign.none h.pos (by omega) (by omega)) h.ch ht hB
theorem neg_ok {B T F t} (h : TNum t) (hs : t.size ≤ 2900) (w : World) (ht : TB B T F w) (hB : B ≤ w.heap.size) : Calls Tryz.prog 62 #[.string (⟨#[45]⟩ ++ t)] w (RNPost (match pfN T F t.data.toList with | some (x, false) => some (sgn true + x) | _ => none) w) := by
  have h1 := cat_size t
  have hd : (⟨#[45]⟩ ++ t : ByteArray).data.toList.drop 1 = t.data.toList := by rw [cat_list]; rfl
  have hi : ∀ j (hj : j < (⟨#[45]⟩ ++ t : ByteArray).size), ((⟨#[45]⟩ ++ t : ByteArray)[j]'hj).toNat = 45 ∧ j = 0 ∨ ∃ k, ∃ hk : k < t.size, j = k + 1 ∧ ((⟨#[45]⟩ ++ t : ByteArray)[j]'hj).toNat = (t[k]'hk).toNat := by
    intro j hj
    have e1 : (⟨#[45]⟩ ++ t : ByteArray).data.toList[j]? = some ((⟨#[45]⟩ ++ t : ByteArray)[j]'hj) := by rw [Array.getElem?_toList]; exact Array.getElem?_eq_getElem hj
    rw [cat_list] at e1
    cases j with
    | zero =>
      simp only [List.getElem?_cons_zero, Option.some.injEq] at e1
      exact Or.inl ⟨by rw [← e1]; rfl, rfl⟩
    | succ k =>
      have hk : k < t.size := by omega
      refine Or.inr ⟨k, hk, rfl, ?_⟩
      have e2 : t.data.toList[k]? = some (t[k]'hk) := by rw [Array.getElem?_toList]; exact Array.getElem?_eq_getElem hk
      rw [List.getElem?_cons_succ, e2] at e1
      rw [Option.some.inj e1]
  have := readNumber_num T F B (⟨#[45]⟩ ++ t) w true 1 (by omega) (Sign.minus (by omega) (by
    rcases hi 0 (by omega) with ⟨h, _⟩ | ⟨k, _, h, _⟩
    · exact h
    · omega)) (fun j hj => by
    rcases hi j hj with ⟨h2, _⟩ | ⟨k, hk, _, h2⟩
    · rw [h2]; unfold NumCh; omega
    · rw [h2]; exact h.ch k hk) ht hB
  rw [hd] at this
  exact this
theorem empty_ok (B T F) (w : World) (ht : TB B T F w) (hB : B ≤ w.heap.size) : Calls Tryz.prog 62 #[.string ⟨#[]⟩] w (RNAny w) := readNumber_any B _ w (parse_empty T F B w ht hB)
theorem dash_ok (B T F) (w : World) (ht : TB B T F w) (hB : B ≤ w.heap.size) : Calls Tryz.prog 62 #[.string ⟨#[45]⟩] w (RNAny w) := readNumber_any B _ w (parse_minus T F B _ w rfl rfl ht hB)
theorem some_of {k : Nat} {R : Option (Nat × Bool)} {y : Nat} (h : (match R with | some (x, false) => some (k + x) | _ => none) = some y) : ∃ x, R = some (x, false) ∧ y = k + x := by
  split at h
  · rename_i x
    exact ⟨x, rfl, (Option.some.inj h).symm⟩
  · exact absurd h (by simp)
theorem none_of {k : Nat} {R : Option (Nat × Bool)} (h : (match R with | some (x, false) => some (k + x) | _ => none) = none) (y : Nat) : R ≠ some (y, false) := by
  rintro rfl
  exact absurd h (by simp)
set_option maxHeartbeats 4000000 in
set_option maxRecDepth 100000 in
theorem place_ok {T F B rb q o cap R bad} (c : Nat) (hc : c < 4) (w : World) (h : RdS w rb q o cap R bad) (hk : ∀ p ∈ R, WK p) (ht : TB B T F w) (hB : B ≤ rb) : Calls Tryz.prog 55 #[.pointer (some ⟨rb, 0, none⟩), .int .i64 (c : Int)] w (PlacePost T F rb q R (wid c) bad w) := by
  have hrb := h.rl
  have hql := h.ql
  have hBs : B ≤ w.heap.size := by omega
  have H := Lib.hid h
  have HK := Lib.hid hk
  have HT := Lib.hid ht
  have cW := fun W : World => width_ok c hc W
  have hN : wid c ≤ 4 := by unfold wid; split <;> (try split) <;> omega
  obtain ⟨N, hNe⟩ : ∃ N, N = wid c := ⟨_, rfl⟩
  rw [← hNe] at cW hN ⊢
  have CW := Lib.hid cW
  clear h hk ht cW hNe
  go_enter Tryz.func55, Tryz.ntmps55
  go_wp2_with fail
  refine (CW.out _).mono ?_
  rintro e w1 ⟨rfl, hw⟩
  obtain rfl := hw.symm
  go_wp2_with fail
  go_loopg [5, 6, 7, 8, 11] N (fun q' s5 s6 s7 s8 s11 wr => ∃ i : Nat, i ≤ N ∧ q' + i = N ∧ s11 = .int .i64 (i : Int) ∧ Hid (PlS T F rb q R N bad w i s5 wr))
  case atStart => exact ⟨0, by omega, by omega, rfl, [], R, bad, o, cap, ⟨rfl, RX.refl _ _, H.out, ⟨fun p hp => hp, by
    cases bad with
    | true => exact Or.inr ⟨rfl, fun h => absurd h.1 (by decide)⟩
    | false => exact Or.inl ⟨rfl, rfl, Lits.nil⟩⟩, World.ownsRow_nil _ _ _ _⟩⟩
  case round =>
    obtain ⟨i, hi, hq, rfl, hP⟩ := hrel
    by_cases hiN : i < N
    · have hlt : (i : Int) < (N : Int) := by omega
      obtain ⟨ys, R1, bad1, o1, cap1, hI⟩ := hP.out
      have HI := Lib.hid hI
      have cN := fun (W : World) (hW : RdS W rb q o1 cap1 R1 bad1) => next_ok W hW
      have CN := Lib.hid cN
      clear hI hP cN
      go_wp2_with fail
      refine (CN.out _ HI.out.rd).mono ?_
      rintro e w1 ⟨rfl, hw⟩
      obtain rfl := hw.symm
      by_cases h45 : nx R1 bad1 = 45
      · have hz : ((nx R1 bad1 : Int) == 45) = true := by rw [beq_iff_eq]; omega
        have H45 := Lib.hid h45
        clear h45
        go_wp2_with fail
        refine (take_ok 45 (by decide) _ HI.out.rd).mono ?_
        rintro e w2 ⟨ho2, ⟨hne, _⟩ | ⟨m, R2, rfl, rfl, rfl, o2, cap2, hr2⟩⟩
        · exact absurd H45.out hne
        · have HO2 := Lib.hid ho2
          have HR2 := Lib.hid hr2
          obtain rfl : m = ⟨#[45]⟩ := (HK.out _ (HI.out.st.1 _ (by simp))).minus
          clear ho2 hr2 hz
          go_wp2_with fail
          refine (take_ok 49 (by decide) _ HR2.out).mono ?_
          rintro e w3 ⟨ho3, ⟨hne, rfl, hr3⟩ | ⟨t, R3, _, rfl, rfl, o3, cap3, hr3⟩⟩
          · have HO3 := Lib.hid ho3
            have HR3 := Lib.hid hr3
            have Hne := Lib.hid hne
            clear ho3 hr3 hne
            go_wp2_with fail
            have hnl : Hid (¬ ∃ x ts', Lit T F (txs ((45, ⟨#[45]⟩) :: R2)) x ts') := by
              rintro ⟨x, ts', hl⟩
              rcases lit_kind (fun p hp => HK.out p (HI.out.st.1 p hp)) hl with ⟨t, R', h1, _⟩ | ⟨m, t, R', h1, _⟩
              · simp at h1
              · simp only [List.cons.injEq] at h1
                obtain ⟨_, rfl⟩ := h1
                exact Hne.out rfl
            have hht := HI.out.rx.tb HT.out hB hBs
            have hx3 : Hid (RX rb wr w3) := (RX.only HO2.out).trans (RX.only HO3.out)
            refine (dash_ok B T F _ ((HI.out.rx.trans hx3.out).tb HT.out hB hBs) (Nat.le_trans hB (Nat.le_of_lt HR3.out.rl))).mono ?_
            rintro e w4 ⟨hb4, f, b, rfl⟩
            have HX4 : Hid (RX rb wr w4) := (hx3.out).trans (RX.blw hb4)
            have HR4 : Hid (RdS w4 rb q _ _ _ true) := RdS.blw (HR3.out) hb4 (RdS.rl (HR3.out)) (RdS.ql (HR3.out))
            clear hb4
            cases b with
            | true =>
              have hrow5 : Hid (World.ownsRow w4 w.heap.size 75 1 u5 i (flts ys)) := row_rx HI.out.row (HX4.out) hrb
              have hBw5 : w.heap.size ≤ w4.heap.size := Nat.le_trans HI.out.rx.size (RX.size (HX4.out))
              go_wp2_with (at_builtin; refine append_flts rfl _ _ rfl w.heap.size u5 i (flts ys) rfl w4 [f] hrow5.out rfl (by show i + 1 ≤ 1000000; omega) hBw5 ?_; intro v5 w5 hO5 hK5 hB5)
              have HO5 := Lib.hid hO5
              have HB5 := Lib.hid hB5
              clear hO5 hB5 hK5
              go_wp2_with fail
              go_roundg (gk - 1)
              case measure => omega
              case rel => exact ⟨i + 1, by omega, by omega, by go_num, HI.out.put (HX4.out) (HR4.out) (HI.out.st.bad HK.out (by rw [HI.out.len]; exact hiN) (fun _ => hnl.out) (fun p hp => List.mem_cons_of_mem _ hp) _) HB5.out HO5.out hrb hql⟩
            | false =>
              have hbd4 := HR4.out.bd
              have hf4 := HR4.out.f1
              have hrow5 : Hid (World.ownsRow (w4.setCell ⟨rb, 1, none⟩ (.bool true)) w.heap.size 75 1 u5 i (flts ys)) := row_rx HI.out.row (HX4.out.trans (RX.only ((Only.refl _ _).setCell _ _))) hrb
              have hBw5 : w.heap.size ≤ (w4.setCell ⟨rb, 1, none⟩ (.bool true)).heap.size := Nat.le_trans HI.out.rx.size (RX.size (HX4.out.trans (RX.only ((Only.refl _ _).setCell _ _))))
              go_wp2_with (at_builtin; refine append_flts rfl _ _ rfl w.heap.size u5 i (flts ys) rfl (w4.setCell ⟨rb, 1, none⟩ (.bool true)) [f] hrow5.out (by rw [set_size]; rfl) (by show i + 1 ≤ 1000000; omega) hBw5 ?_; intro v5 w5 hO5 hK5 hB5)
              have HO5 := Lib.hid hO5
              have HB5 := Lib.hid hB5
              clear hO5 hB5 hK5
              go_wp2_with fail
              go_roundg (gk - 1)
              case measure => omega
              case rel => exact ⟨i + 1, by omega, by omega, by go_num, HI.out.put (HX4.out.trans (RX.only ((Only.refl _ _).setCell _ _))) (HR4.out.setBad) (HI.out.st.bad HK.out (by rw [HI.out.len]; exact hiN) (fun _ => hnl.out) (fun p hp => List.mem_cons_of_mem _ hp) _) HB5.out HO5.out hrb hql⟩
          · have HO3 := Lib.hid ho3
            have HR3 := Lib.hid hr3
            clear ho3 hr3
            have hx3 : Hid (RX rb wr w3) := (RX.only HO2.out).trans (RX.only HO3.out)
            have hwk : Hid (WK (49, t)) := HK.out _ (HI.out.st.1 _ (by simp))
            have hts : t.size ≤ 2900 := hwk.out.size
            have hlit : Hid (∀ y, pfN T F t.data.toList = some (y, false) → Lit T F (txs ((45, ⟨#[45]⟩) :: (49, t) :: R3)) (sgn true + y) (txs R3)) := fun y hy => Lit.neg hwk.out.num hy
            have hnl : Hid ((∀ y, pfN T F t.data.toList ≠ some (y, false)) → ¬ ∃ x ts', Lit T F (txs ((45, ⟨#[45]⟩) :: (49, t) :: R3)) x ts') := by
              rintro hn ⟨x, ts', hl⟩
              rcases lit_kind (fun p hp => HK.out p (HI.out.st.1 p hp)) hl with ⟨t', R', h1, _⟩ | ⟨m, t', R', h1, _, y, hy, _⟩
              · simp at h1
              · simp only [List.cons.injEq, Prod.mk.injEq] at h1
                obtain ⟨_, ⟨_, rfl⟩, _⟩ := h1
                exact hn y hy
            go_wp2_with fail
            have hnum := neg_ok hwk.out.num hwk.out.size w3 ((HI.out.rx.trans hx3.out).tb HT.out hB hBs) (Nat.le_trans hB (Nat.le_of_lt HR3.out.rl))
            generalize hR : pfN T F t.data.toList = RR at hnum
            have HN := Lib.hid hnum
            have HRR := Lib.hid hR
            clear hnum hR
            refine HN.out.mono ?_
            rintro e w4 ⟨hb4, ⟨y, hy, rfl⟩ | ⟨hno, f, rfl⟩⟩
            · have HX4 : Hid (RX rb wr w4) := (hx3.out).trans (RX.blw hb4)
              have HR4 : Hid (RdS w4 rb q _ _ _ false) := RdS.blw (HR3.out) hb4 (RdS.rl (HR3.out)) (RdS.ql (HR3.out))
              have Hy := Lib.hid hy
              clear hb4 hy
              have hrow5 : Hid (World.ownsRow w4 w.heap.size 75 1 u5 i (flts ys)) := row_rx HI.out.row (HX4.out) hrb
              have hBw5 : w.heap.size ≤ w4.heap.size := Nat.le_trans HI.out.rx.size (RX.size (HX4.out))
              go_wp2_with (at_builtin; refine append_flts rfl _ _ rfl w.heap.size u5 i (flts ys) rfl w4 [y] hrow5.out rfl (by show i + 1 ≤ 1000000; omega) hBw5 ?_; intro v5 w5 hO5 hK5 hB5)
              have HO5 := Lib.hid hO5
              have HB5 := Lib.hid hB5
              clear hO5 hB5 hK5
              go_wp2_with fail
              go_roundg (gk - 1)
              case measure => omega
              case rel => exact ⟨i + 1, by omega, by omega, by go_num, HI.out.put (HX4.out) (HR4.out) (by obtain ⟨y', hy1, hy2⟩ := some_of Hy.out; rw [hy2]; exact HI.out.st.num (hlit.out y' (HRR.out.trans hy1)) (fun p hp => List.mem_cons_of_mem _ (List.mem_cons_of_mem _ hp))) HB5.out HO5.out hrb hql⟩
            · have HX4 : Hid (RX rb wr w4) := (hx3.out).trans (RX.blw hb4)
              have HR4 : Hid (RdS w4 rb q _ _ _ false) := RdS.blw (HR3.out) hb4 (RdS.rl (HR3.out)) (RdS.ql (HR3.out))
              have Hno := Lib.hid hno
              clear hb4 hno
              have hbd4 := HR4.out.bd
              have hf4 := HR4.out.f1
              have hrow5 : Hid (World.ownsRow (w4.setCell ⟨rb, 1, none⟩ (.bool true)) w.heap.size 75 1 u5 i (flts ys)) := row_rx HI.out.row (HX4.out.trans (RX.only ((Only.refl _ _).setCell _ _))) hrb
              have hBw5 : w.heap.size ≤ (w4.setCell ⟨rb, 1, none⟩ (.bool true)).heap.size := Nat.le_trans HI.out.rx.size (RX.size (HX4.out.trans (RX.only ((Only.refl _ _).setCell _ _))))
              go_wp2_with (at_builtin; refine append_flts rfl _ _ rfl w.heap.size u5 i (flts ys) rfl (w4.setCell ⟨rb, 1, none⟩ (.bool true)) [f] hrow5.out (by rw [set_size]; rfl) (by show i + 1 ≤ 1000000; omega) hBw5 ?_; intro v5 w5 hO5 hK5 hB5)
              have HO5 := Lib.hid hO5
              have HB5 := Lib.hid hB5
              clear hO5 hB5 hK5
              go_wp2_with fail
              go_roundg (gk - 1)
              case measure => omega
              case rel => exact ⟨i + 1, by omega, by omega, by go_num, HI.out.put (HX4.out.trans (RX.only ((Only.refl _ _).setCell _ _))) (HR4.out.setBad) (HI.out.st.bad HK.out (by rw [HI.out.len]; exact hiN) (fun _ => hnl.out (fun y hy => none_of Hno.out y (HRR.out.symm.trans hy))) (fun p hp => List.mem_cons_of_mem _ (List.mem_cons_of_mem _ hp)) _) HB5.out HO5.out hrb hql⟩
      · have hz : ((nx R1 bad1 : Int) == 45) = false := by rw [beq_eq_false_iff_ne]; omega
        have H45 := Lib.hid h45
        clear h45
        go_wp2_with fail
        refine (take_ok 49 (by decide) _ HI.out.rd).mono ?_
        rintro e w3 ⟨ho3, ⟨hne, rfl, hr3⟩ | ⟨t, R3, rfl, rfl, rfl, o3, cap3, hr3⟩⟩
        · have HO3 := Lib.hid ho3
          have HR3 := Lib.hid hr3
          have Hne := Lib.hid hne
          clear ho3 hr3 hne hz
          go_wp2_with fail
          have hnl : Hid (bad1 = false → ¬ ∃ x ts', Lit T F (txs R1) x ts') := by
            rintro hb ⟨x, ts', hl⟩
            subst hb
            rcases lit_kind (fun p hp => HK.out p (HI.out.st.1 p hp)) hl with ⟨t, R', rfl, _⟩ | ⟨m, t, R', rfl, _⟩
            · exact Hne.out rfl
            · exact H45.out rfl
          have hx3 : Hid (RX rb wr w3) := RX.only HO3.out
          refine (empty_ok B T F _ ((HI.out.rx.trans hx3.out).tb HT.out hB hBs) (Nat.le_trans hB (Nat.le_of_lt HR3.out.rl))).mono ?_
          rintro e w4 ⟨hb4, f, b, rfl⟩
          have HX4 : Hid (RX rb wr w4) := (hx3.out).trans (RX.blw hb4)
          have HR4 : Hid (RdS w4 rb q _ _ _ true) := RdS.blw (HR3.out) hb4 (RdS.rl (HR3.out)) (RdS.ql (HR3.out))
          clear hb4
          cases b with
          | true =>
            have hrow5 : Hid (World.ownsRow w4 w.heap.size 75 1 u5 i (flts ys)) := row_rx HI.out.row (HX4.out) hrb
            have hBw5 : w.heap.size ≤ w4.heap.size := Nat.le_trans HI.out.rx.size (RX.size (HX4.out))
            go_wp2_with (at_builtin; refine append_flts rfl _ _ rfl w.heap.size u5 i (flts ys) rfl w4 [f] hrow5.out rfl (by show i + 1 ≤ 1000000; omega) hBw5 ?_; intro v5 w5 hO5 hK5 hB5)
            have HO5 := Lib.hid hO5
            have HB5 := Lib.hid hB5
            clear hO5 hB5 hK5
            go_wp2_with fail
            go_roundg (gk - 1)
            case measure => omega
            case rel => exact ⟨i + 1, by omega, by omega, by go_num, HI.out.put (HX4.out) (HR4.out) (HI.out.st.bad HK.out (by rw [HI.out.len]; exact hiN) hnl.out (fun p hp => hp) _) HB5.out HO5.out hrb hql⟩
          | false =>
            have hbd4 := HR4.out.bd
            have hf4 := HR4.out.f1
            have hrow5 : Hid (World.ownsRow (w4.setCell ⟨rb, 1, none⟩ (.bool true)) w.heap.size 75 1 u5 i (flts ys)) := row_rx HI.out.row (HX4.out.trans (RX.only ((Only.refl _ _).setCell _ _))) hrb
            have hBw5 : w.heap.size ≤ (w4.setCell ⟨rb, 1, none⟩ (.bool true)).heap.size := Nat.le_trans HI.out.rx.size (RX.size (HX4.out.trans (RX.only ((Only.refl _ _).setCell _ _))))
            go_wp2_with (at_builtin; refine append_flts rfl _ _ rfl w.heap.size u5 i (flts ys) rfl (w4.setCell ⟨rb, 1, none⟩ (.bool true)) [f] hrow5.out (by rw [set_size]; rfl) (by show i + 1 ≤ 1000000; omega) hBw5 ?_; intro v5 w5 hO5 hK5 hB5)
            have HO5 := Lib.hid hO5
            have HB5 := Lib.hid hB5
            clear hO5 hB5 hK5
            go_wp2_with fail
            go_roundg (gk - 1)
            case measure => omega
            case rel => exact ⟨i + 1, by omega, by omega, by go_num, HI.out.put (HX4.out.trans (RX.only ((Only.refl _ _).setCell _ _))) (HR4.out.setBad) (HI.out.st.bad HK.out (by rw [HI.out.len]; exact hiN) hnl.out (fun p hp => hp) _) HB5.out HO5.out hrb hql⟩
        · have HO3 := Lib.hid ho3
          have HR3 := Lib.hid hr3
          clear ho3 hr3
          have hx3 : Hid (RX rb wr w3) := RX.only HO3.out
          have hwk : Hid (WK (49, t)) := HK.out _ (HI.out.st.1 _ (by simp))
          have hts : t.size ≤ 2900 := hwk.out.size
          have hlit : Hid (∀ y, pfN T F t.data.toList = some (y, false) → Lit T F (txs ((49, t) :: R3)) (sgn false + y) (txs R3)) := fun y hy => Lit.pos hwk.out.num hy
          have hnl : Hid ((∀ y, pfN T F t.data.toList ≠ some (y, false)) → ¬ ∃ x ts', Lit T F (txs ((49, t) :: R3)) x ts') := by
            rintro hn ⟨x, ts', hl⟩
            rcases lit_kind (fun p hp => HK.out p (HI.out.st.1 p hp)) hl with ⟨t', R', h1, _, y, hy, _⟩ | ⟨m, t', R', h1, _⟩
            · simp only [List.cons.injEq, Prod.mk.injEq] at h1
              obtain ⟨⟨_, rfl⟩, _⟩ := h1
              exact hn y hy
            · simp at h1
          clear hz
          go_wp2_with fail
          have hnum := num_ok hwk.out.num hwk.out.size w3 ((HI.out.rx.trans hx3.out).tb HT.out hB hBs) (Nat.le_trans hB (Nat.le_of_lt HR3.out.rl))
          generalize hR : pfN T F t.data.toList = RR at hnum
          have HN := Lib.hid hnum
          have HRR := Lib.hid hR
          clear hnum hR
          refine HN.out.mono ?_
          rintro e w4 ⟨hb4, ⟨y, hy, rfl⟩ | ⟨hno, f, rfl⟩⟩
          · have HX4 : Hid (RX rb wr w4) := (hx3.out).trans (RX.blw hb4)
            have HR4 : Hid (RdS w4 rb q _ _ _ false) := RdS.blw (HR3.out) hb4 (RdS.rl (HR3.out)) (RdS.ql (HR3.out))
            have Hy := Lib.hid hy
            clear hb4 hy
            have hrow5 : Hid (World.ownsRow w4 w.heap.size 75 1 u5 i (flts ys)) := row_rx HI.out.row (HX4.out) hrb
            have hBw5 : w.heap.size ≤ w4.heap.size := Nat.le_trans HI.out.rx.size (RX.size (HX4.out))
            go_wp2_with (at_builtin; refine append_flts rfl _ _ rfl w.heap.size u5 i (flts ys) rfl w4 [y] hrow5.out rfl (by show i + 1 ≤ 1000000; omega) hBw5 ?_; intro v5 w5 hO5 hK5 hB5)
            have HO5 := Lib.hid hO5
            have HB5 := Lib.hid hB5
            clear hO5 hB5 hK5
            go_wp2_with fail
            go_roundg (gk - 1)
            case measure => omega
            case rel => exact ⟨i + 1, by omega, by omega, by go_num, HI.out.put (HX4.out) (HR4.out) (by obtain ⟨y', hy1, hy2⟩ := some_of Hy.out; rw [hy2]; exact HI.out.st.num (hlit.out y' (HRR.out.trans hy1)) (fun p hp => List.mem_cons_of_mem _ hp)) HB5.out HO5.out hrb hql⟩
          · have HX4 : Hid (RX rb wr w4) := (hx3.out).trans (RX.blw hb4)
            have HR4 : Hid (RdS w4 rb q _ _ _ false) := RdS.blw (HR3.out) hb4 (RdS.rl (HR3.out)) (RdS.ql (HR3.out))
            have Hno := Lib.hid hno
            clear hb4 hno
            have hbd4 := HR4.out.bd
            have hf4 := HR4.out.f1
            have hrow5 : Hid (World.ownsRow (w4.setCell ⟨rb, 1, none⟩ (.bool true)) w.heap.size 75 1 u5 i (flts ys)) := row_rx HI.out.row (HX4.out.trans (RX.only ((Only.refl _ _).setCell _ _))) hrb
            have hBw5 : w.heap.size ≤ (w4.setCell ⟨rb, 1, none⟩ (.bool true)).heap.size := Nat.le_trans HI.out.rx.size (RX.size (HX4.out.trans (RX.only ((Only.refl _ _).setCell _ _))))
            go_wp2_with (at_builtin; refine append_flts rfl _ _ rfl w.heap.size u5 i (flts ys) rfl (w4.setCell ⟨rb, 1, none⟩ (.bool true)) [f] hrow5.out (by rw [set_size]; rfl) (by show i + 1 ≤ 1000000; omega) hBw5 ?_; intro v5 w5 hO5 hK5 hB5)
            have HO5 := Lib.hid hO5
            have HB5 := Lib.hid hB5
            clear hO5 hB5 hK5
            go_wp2_with fail
            go_roundg (gk - 1)
            case measure => omega
            case rel => exact ⟨i + 1, by omega, by omega, by go_num, HI.out.put (HX4.out.trans (RX.only ((Only.refl _ _).setCell _ _))) (HR4.out.setBad) (HI.out.st.bad HK.out (by rw [HI.out.len]; exact hiN) (fun _ => hnl.out (fun y hy => none_of Hno.out y (HRR.out.symm.trans hy))) (fun p hp => List.mem_cons_of_mem _ hp) _) HB5.out HO5.out hrb hql⟩
    · have hlt : ¬ (i : Int) < (N : Int) := by omega
      obtain rfl : i = N := by omega
      go_wp2_with fail
      go_ret
      obtain ⟨ys, R1, bad1, o1, cap1, hI⟩ := hP.out
      exact ⟨hI.rx, _, ys, hI.len, rfl, hI.row, _, _, _, _, hI.rd, hI.st⟩
end Go.Proofs.YthplmbgdcfmkgaaGreatDoor
