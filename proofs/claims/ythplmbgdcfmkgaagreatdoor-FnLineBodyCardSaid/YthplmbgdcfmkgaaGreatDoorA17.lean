/- Errors. -/
import Derived.Test.YthplmbgdcfmkgaaGreatDoorA01
import Derived.Test.YthplmbgdcfmkgaaGreatDoorA06
import Derived.Shelf.Strconv.Quote
import Derived.Test.YthplmbgdcfmkgaaGreatDoorA09
set_option linter.unusedVariables false
set_option linter.unusedSimpArgs false
/- strconv.Quote on printable ASCII; NumError.Error. -/
namespace Go.Proofs.YthplmbgdcfmkgaaGreatDoor
open Go.RowKit Go.Proofs Go.Sort

/-- A printable byte of ASCII that needs no mark. -/
def PrB (c : Nat) : Prop := 32 ≤ c ∧ c ≤ 126 ∧ c ≠ 34 ∧ c ≠ 92
theorem byte5 : ∃ i, Tryz.prog.info? 5 = some i ∧ i.zero = some (.int .u8 0) ∧ i.size = 1 ∧ i.bytes = 1 := info_parts (P := Tryz.prog) (e := 5) (z := .int .u8 0) (size := 1) (bytes := 1) (by kernel_rfl)
set_option maxHeartbeats 4000000 in
set_option maxRecDepth 1000000 in
theorem esc_ok (B : Nat) (v : Value) (n : Nat) (xs : List Value) (c : Nat) (W0 w : World) (hb : Lib.OwnBuf B 5 v n xs W0 w) (hlen : n + 10 ≤ 140737488355328) (hc : PrB c) :
    Calls Tryz.prog 192 #[v, .int .i32 (c : Int), .int .u8 34, .bool false, .bool false] w fun e w' => ∃ v' l, e = .returned v' ∧ (l = Lib.encodeRuneZ (c : Int) ∧ l.length ≤ 4) ∧ Lib.OwnBuf B 5 v' (n + l.length) (xs ++ Lib.intCells l) W0 w' := by
  obtain ⟨h1, h2, h3, h4⟩ := hc
  have hr34 : ((c : Int) == 34) = false := by rw [beq_eq_false_iff_ne]; omega
  have hr92 : ((c : Int) == 92) = false := by rw [beq_eq_false_iff_ne]; omega
  have cP : ∀ W, Calls Tryz.prog 194 #[.int .i32 (c : Int)] W fun e w' => e = .returned (.bool true) ∧ w' = W := by
    intro W
    have := Tryz.strconv_IsPrint_latin (c : Int) W (by omega)
    rwa [show Lib.isPrintLatin (c : Int) = true by unfold Lib.isPrintLatin; rw [decide_eq_true (by omega : (32 : Int) ≤ c), decide_eq_true (by omega : (c : Int) ≤ 126)]; rfl] at this
  have cA : Calls Tryz.prog 196 #[v, .int .i32 (c : Int)] w fun e w' => ∃ v', e = .returned v' ∧ Lib.OwnBuf B 5 v' (n + (Lib.runeCells c).length) (xs ++ Lib.runeCells c) W0 w' :=
    (Tryz.utf8_AppendRune_row B v n xs c (by omega) (by omega) _ hb.1 (by omega) hb.2.2).mono fun e w' ⟨v', h1, h2, o, h3⟩ => ⟨v', h1, (hb.alloc o).grown h2 h3⟩
  have CA := Lib.hid cA
  have CP := Lib.hid cP
  clear cA cP
  go_enter Tryz.func192, Tryz.ntmps192
  go_wp2_with fail
  refine (CP.out _).mono ?_
  rintro e w1 ⟨rfl, hw⟩
  obtain rfl := hw.symm
  go_wp2_with fail
  refine CA.out.mono ?_
  rintro e w2 ⟨v2, rfl, hb2⟩
  have HB2 := Lib.hid hb2
  clear hb2
  go_wp2_with fail
  go_ret
  refine ⟨v2, Lib.encodeRuneZ c, rfl, ⟨rfl, ?_⟩, ?_⟩
  · have : ∀ c : _root_.Fin 128, (Lib.encodeRuneZ (c.val : Int)).length ≤ 4 := by decide
    exact this ⟨c, by omega⟩
  · simpa [Lib.intCells, Lib.runeCells] using HB2.out
def fm (b : ByteArray) : List Int := b.data.toList.flatMap fun c => Lib.encodeRuneZ (c.toNat : Int)
theorem fm_step (b : ByteArray) (h : 0 < b.size) : fm b = Lib.encodeRuneZ ((b[0]'h).toNat : Int) ++ fm (b.extract 1 b.size) := by
  have hl : b.data.toList.length = b.size := by simp
  unfold fm
  have e : b.data.toList = b[0]'h :: (b.extract 1 b.size).data.toList := by
    have h1 : (b.extract 1 b.size).data.toList = b.data.toList.drop 1 := by
      rw [ByteArray.data_extract, Array.toList_extract, List.extract_eq_take_drop]
      rw [List.take_of_length_le (by rw [List.length_drop, hl]; omega)]
    rw [h1]
    have h2 := List.drop_eq_getElem_cons (l := b.data.toList) (i := 0) (by rw [hl]; exact h)
    rw [List.drop_zero] at h2
    exact h2
  rw [e, List.flatMap_cons]
theorem fm_end (b : ByteArray) (h : ¬ 0 < b.size) : fm b = [] := by
  have hl : b.data.toList.length = b.size := by simp
  unfold fm
  have h0 : b.data.toList = [] := List.eq_nil_of_length_eq_zero (by omega)
  rw [h0]
  rfl
def qz (s : ByteArray) : List Int := 34 :: (fm s ++ [34])
def QPost (s : ByteArray) (B : Nat) (W0 : World) (e : Ending) (w' : World) : Prop := ∃ (v' : Value) (l : List Int), e = .returned v' ∧ l = qz s ∧ 0 < l.length ∧ l.length ≤ 13000 ∧ Lib.OwnBuf B 5 v' (0 + l.length) ([] ++ Lib.intCells l) W0 w'
set_option maxHeartbeats 4000000 in
set_option maxRecDepth 1000000 in
theorem appq_ok (a : Option Addr) (c : Nat) (s : ByteArray) (W0 w : World) (hs : s.size ≤ 3000) (hp : ∀ j (h : j < s.size), PrB (s[j]'h).toNat)
    (hb : Lib.OwnBuf W0.heap.size 5 (.slice a 0 c) 0 [] W0 w) (hroom : s.size ≤ c) (hc : c ≤ 9000) :
    Calls Tryz.prog 190 #[.slice a 0 c, .string s, .int .u8 34, .bool false, .bool false] w (QPost s W0.heap.size W0) := by
  obtain ⟨i0, hi, hz0, hz1, hz2⟩ := byte5
  have u81 : Tryz.prog.underlying 81 = some (.slice 5) := by kernel_rfl
  obtain ⟨B, hB⟩ : ∃ B, B = W0.heap.size := ⟨_, rfl⟩
  rw [← hB] at hb ⊢
  have HB : Hid (B = W0.heap.size) := hB
  have HP := Lib.hid hp
  clear hB hp
  have hroom' : ¬ ((c : Int) < (s.size : Int)) := by omega
  go_enter Tryz.func190, Tryz.ntmps190
  go_big_wp2_with (at_builtin; refine Lib.wpList_append_byte rfl _ _ 81 rfl B 5 i0 u81 hi hz0 hz1 hz2 _ _ _ rfl W0 _ _ (by assumption) rfl (by omega) ?_; intro _ _ hb)
  have Hb0 := hb
  go_loopw [0, 1, 12, 13] (fun vb vs _ _ wr => ∃ (k : Nat) (rest : ByteArray) (l : List Int), vs = .string rest ∧ k + rest.size = s.size ∧ Hid (∀ j (h : j < rest.size), PrB (rest[j]'h).toNat) ∧ Hid (Lib.OwnBuf B 5 vb (0 + 1 + l.length) ([] ++ [.int .u8 34] ++ Lib.intCells l) W0 wr) ∧ Hid (l ++ fm rest = fm s) ∧ l.length ≤ 4 * k)
    (fun _ vs _ _ _ => match vs with | .string r => r.size | _ => 0)
  case atStart => exact ⟨0, s, [], rfl, by omega, HP, by simpa [Hid, Lib.intCells] using Hb0, rfl, by simp⟩
  case round =>
    obtain ⟨k, rest, l, rfl, hk, hpr, hbr, hfm, hl⟩ := hrel
    by_cases h0 : 0 < rest.size
    · have h0' : (0 : Int) < (rest.size : Int) := by omega
      have hpc := hpr.out 0 h0
      obtain ⟨x, hx⟩ : ∃ x, x = rest[0]'h0 := ⟨_, rfl⟩
      rw [← hx] at hpc
      have hx128 : x.toNat < 128 := by have := hpc.2.1; omega
      have hx33 : ((x.toNat : Int) == 65533) = false := by rw [beq_eq_false_iff_ne]; omega
      have hne33 : ¬ (x.toNat : Int) = 65533 := by omega
      have hg0 : rest.data.toList[0]? = some x := by rw [hx, Array.getElem?_toList]; exact Array.getElem?_eq_getElem h0
      have cD := Tryz.utf8_DecodeRuneInString_ascii rest x wr hg0 hx128
      have cE := esc_ok B u0 _ _ x.toNat W0 wr hbr.out (by omega) hpc
      have CD := Lib.hid cD
      have CE := Lib.hid cE
      have Hpc := Lib.hid hpc
      have Hx := Lib.hid hx
      clear cD cE hx hg0 hpc
      go_big_wp2_with fail
      refine CD.out.mono ?_
      rintro e w1 ⟨rfl, hw1⟩
      obtain rfl := hw1.symm
      go_big_wp2_with fail
      refine CE.out.mono ?_
      rintro e w2 ⟨v2, l2, rfl, ⟨hl2e, hl2⟩, hb2⟩
      go_big_wp2_with fail
      all_goals (
        go_roundw
        case rel =>
          refine ⟨k + 1, _, l ++ l2, rfl, ?_, ?_, ?_, ?_, ?_⟩
          · have := Lib.size_rest rest 1; omega
          · intro j hj
            have hsz := Lib.size_rest rest 1
            rw [ByteArray.getElem_extract]
            exact hpr.out (1 + j) (by omega)
          · simpa [Hid, Lib.intCells, List.append_assoc, Nat.add_assoc] using hb2
          · show l ++ l2 ++ fm (rest.extract 1 rest.size) = _
            rw [← hfm.out, fm_step rest h0, ← Hx.out, hl2e, List.append_assoc]
          · simp only [List.length_append]; omega
        case measure => have := Lib.size_rest rest 1; simp only []; omega)
    · have h0' : ¬ (0 : Int) < (rest.size : Int) := by omega
      have hbx := hbr.out
      go_big_wp2_with (at_builtin; refine Lib.wpList_append_byte rfl _ _ 81 rfl B 5 i0 u81 hi hz0 hz1 hz2 _ _ _ rfl W0 _ _ (by assumption) rfl (by omega) ?_; intro _ _ hb)
      go_ret
      refine ⟨_, 34 :: (l ++ [34]), rfl, by rw [qz, ← hfm.out, fm_end rest h0, List.append_nil], by simp, by simp; omega, ?_⟩
      have e1 : 0 + (34 :: (l ++ [34]) : List Int).length = 0 + 1 + l.length + 1 := by simp; omega
      have e2 : ([] : List Value) ++ Lib.intCells (34 :: (l ++ [34])) = [] ++ [.int .u8 34] ++ Lib.intCells l ++ [.int .u8 34] := by simp [Lib.intCells]
      rw [e1, e2]
      exact hb
set_option maxHeartbeats 4000000 in
set_option maxRecDepth 1000000 in
theorem quotew_ok (s : ByteArray) (w : World) (hs : s.size ≤ 3000) (hp : ∀ j (h : j < s.size), PrB (s[j]'h).toNat) :
    Calls Tryz.prog 189 #[.string s, .int .u8 34, .bool false, .bool false] w fun e w' => e = .returned (.string (strOfNums (qz s))) ∧ Below w.heap.size w w' := by
  obtain ⟨i0, hi, hz0, hz1, hz2⟩ := byte5
  have u81 : Tryz.prog.underlying 81 = some (.slice 5) := by kernel_rfl
  have u5 : Tryz.prog.underlying 5 = some (.int .u8) := by kernel_rfl
  have u9 : Tryz.prog.underlying 9 = some .string := by kernel_rfl
  obtain ⟨c, hc⟩ : ∃ c, c = 3 * s.size / 2 := ⟨_, rfl⟩
  have hcI : 3 * (s.size : Int) / 2 = (c : Int) := by omega
  have hc1 : s.size ≤ c := by omega
  have hc2 : c ≤ 9000 := by omega
  have cQ : ∀ w1, Lib.OwnBuf w.heap.size 5 (.slice (some ⟨w.heap.size, 0, none⟩) 0 c) 0 [] w w1 → Calls Tryz.prog 190 #[.slice (some ⟨w.heap.size, 0, none⟩) 0 c, .string s, .int .u8 34, .bool false, .bool false] w1 (QPost s w.heap.size w) :=
    fun w1 hb => appq_ok _ c s w w1 hs hp hb hc1 hc2
  have CQ := Lib.hid cQ
  have Hc := Lib.hid hc
  clear cQ hc hp
  go_enter Tryz.func189, Tryz.ntmps189
  go_wp2_with (at_make; refine wpList_make_own _ rfl _ _ 81 rfl w.heap.size 5 i0 (.int .u8 0) 1 u81 hi hz0 hz1 _ _ _ c rfl rfl (by first | rfl | assumption) (by rw [hz2]; omega) (by unfold maxLen; omega) (Nat.le_refl _) ?_; intro w1 hown hg)
  refine (CQ.out _ ⟨World.ownsRowF_of hown, (Below.refl _ _).grown hg (Nat.le_refl _) (by intro k hk; cases hk), hg.size⟩).mono ?_
  rintro e w2 ⟨v2, l, rfl, rfl, hl, hl2, hb2⟩
  obtain ⟨g, cap, rfl, hcells⟩ := buf_cells hb2 hl
  have hcv := run_convert_bytes_arg w2 81 5 u81 u5 g 0 _ cap (qz s) rfl hcells 9 u9
  have HB := Lib.hid hb2
  clear hb2 hcells
  go_wp2_with fail
  go_ret
  exact ⟨rfl, HB.out.2.1⟩
theorem quote_ok (s : ByteArray) (w : World) (hs : s.size ≤ 3000) (hp : ∀ j (h : j < s.size), PrB (s[j]'h).toNat) :
    Calls Tryz.prog 188 #[.string s] w fun e w' => e = .returned (.string (strOfNums (qz s))) ∧ Below w.heap.size w w' := by
  have CQ := Lib.hid (quotew_ok s w hs hp)
  clear hp
  go_enter Tryz.func188, Tryz.ntmps188
  go_wp2_with fail
  refine CQ.out.mono ?_
  rintro e w2 ⟨rfl, hb⟩
  have HB := Lib.hid hb
  clear hb
  go_wp2_with fail
  go_ret
  exact ⟨rfl, HB.out⟩
end Go.Proofs.YthplmbgdcfmkgaaGreatDoor
/- NumError.Error on printable ASCII. -/
namespace Go.Proofs.YthplmbgdcfmkgaaGreatDoor
open Go.RowKit

theorem fm_len : ∀ l : List UInt8, (∀ c ∈ l, c.toNat < 128) → (l.flatMap fun c => Lib.encodeRuneZ (c.toNat : Int)).length ≤ 4 * l.length := by
  intro l
  induction l with
  | nil => intro _; simp
  | cons c l ih =>
    intro h
    rw [List.flatMap_cons, List.length_append, List.length_cons]
    have h1 : (Lib.encodeRuneZ (c.toNat : Int)).length ≤ 4 := by
      have : ∀ c : _root_.Fin 128, (Lib.encodeRuneZ (c.val : Int)).length ≤ 4 := by decide
      exact this ⟨c.toNat, h c List.mem_cons_self⟩
    have h2 := ih (fun x hx => h x (List.mem_cons_of_mem _ hx))
    omega
theorem qz_size (s : ByteArray) (hs : s.size ≤ 3000) (hp : ∀ j (h : j < s.size), PrB (s[j]'h).toNat) : (strOfNums (qz s)).size ≤ 13000 := by
  rw [strOfNums_size, qz, List.length_cons, List.length_append]
  have hl : s.data.toList.length = s.size := by simp
  have := fm_len s.data.toList (fun c hc => by
    obtain ⟨j, hj, rfl⟩ := List.getElem_of_mem hc
    have h := hp j (by omega)
    have h2 := h.2.1
    have e : s.data.toList[j] = s[j]'(by omega) := rfl
    rw [e]; omega)
  simp only [List.length_singleton]
  unfold fm
  omega
theorem errs_error (q o : Nat) (t : ByteArray) (w : World) (h : w.cell? ⟨q, o, none⟩ = some (.string t)) :
    Calls Tryz.prog 201 #[.pointer (some ⟨q, o, none⟩)] w fun e w' => e = .returned (.string t) ∧ w' = w := by
  go_enter Tryz.func201, Tryz.ntmps201
  go_wp2_with fail
  go_ret
  exact ⟨rfl, rfl⟩
theorem num_error (B N q o : Nat) (s t : ByteArray) (w : World) (hs : s.size ≤ 3000) (hp : ∀ j (h : j < s.size), PrB (s[j]'h).toNat) (ht : t.size ≤ 1000)
    (hN : w.heap[N]? = some (.cells #[.string pfName, .string s, .iface 202 (.pointer (some ⟨q, o, none⟩))] 176 (0, 0))) (hq : q < B) (hB : B ≤ w.heap.size) (hc : w.cell? ⟨q, o, none⟩ = some (.string t)) :
    Calls Tryz.prog 187 #[.pointer (some ⟨N, 0, none⟩)] w fun e w' => (∃ m, e = .returned (.string m)) ∧ Below w.heap.size w w' := by
  refine (Tryz.NumError_Error N 0 pfName s (strOfNums (qz s)) t 202 (.pointer (some ⟨q, o, none⟩)) 201 (.pointer (some ⟨q, o, none⟩)) w ?_ ?_ ?_ ?_ (fun W hW => quote_ok s W hs hp) (fun W => by kernel_rfl) (fun args W => by kernel_rfl) ?_).mono ?_
  · rw [Lib.cell_of_heap hN]; rfl
  · rw [Lib.cell_of_heap hN]; rfl
  · rw [Lib.cell_of_heap hN]; rfl
  · have := qz_size s hs hp
    have h2 : pfName.size = 10 := by decide
    omega
  · intro W hW
    refine (errs_error q o t W (by rw [hW.cell (show q < w.heap.size by omega)]; exact hc)).mono ?_
    rintro e w' ⟨h1, rfl⟩
    exact ⟨h1, Below.refl _ _⟩
  · rintro e w' ⟨h1, h2⟩
    exact ⟨⟨_, h1⟩, h2⟩
end Go.Proofs.YthplmbgdcfmkgaaGreatDoor
