/- The scanner: the next character, slow road. -/
import Derived.Test.YthplmbgdcfmkgaaGreatDoorA10
import Derived.Deep.CutBlock
import Derived.StillTailTactics
import Derived.Deep.RegionHeld3
import Derived.Deep.CutRange
import Derived.LaidEql
set_option linter.unusedVariables false
set_option linter.unusedSimpArgs false
/- The scanner's next, where the buffer must be filled: the walk. -/
namespace Go.Proofs.YthplmbgdcfmkgaaGreatDoor
open Go.RowKit

/-- Where the token's text stands: its first byte is the source's byte number ts. -/
def TokAt (s : ByteArray) (D : Nat) (tp : Int) (C : List UInt8) (ts : Nat) : Prop := 0 ≤ tp ∧ C = (s.data.toList.drop ts).take C.length ∧ ts + C.length = D + tp.toNat
/-- No token is being read, or the one that begins at ts. -/
def TokRel (s : ByteArray) (D : Nat) (tp : Int) (C : List UInt8) (D' : Nat) (tp' : Int) (C' : List UInt8) : Prop :=
  (tp = -1 ∧ tp' = -1 ∧ C' = C) ∨ (0 ≤ tp ∧ ∀ ts, TokAt s D tp C ts → TokAt s D' tp' C' ts)

theorem NX.drew' {B g r a w w'} (h : NX B g r a w) (k : Drew w w') : NX B g r a w' := by
  obtain ⟨n, rfl⟩ := k
  exact h.drewN n
theorem list_get (s : ByteArray) (a n j : Nat) (h : a + j < s.size) (hj : j < n) : ∃ h2 : j < ((s.data.toList.drop a).take n).length, ((s.data.toList.drop a).take n)[j]'h2 = s[a + j]'h := by
  have hl : s.data.toList.length = s.size := by simp
  have h2 : j < ((s.data.toList.drop a).take n).length := by rw [List.length_take, List.length_drop]; omega
  refine ⟨h2, ?_⟩
  rw [List.getElem_take, List.getElem_drop]
  rfl
theorem write_src {B g r : Nat} {s : ByteArray} {E D t : Nat} {C : List UInt8} {lc : Int} {w : World} (h : Scn B g r s E E D (t : Int) C lc w) (ht : t < E) :
    ((s.data.toList.drop (D + t)).take (E - t)).length = E - t ∧ ∀ j, j < E - t → ∃ h : j < ((s.data.toList.drop (D + t)).take (E - t)).length, w.cell? ⟨g, 1 + t + j, none⟩ = some (.int .u8 (((s.data.toList.drop (D + t)).take (E - t))[j]'h).toNat) := by
  have hl : s.data.toList.length = s.size := by simp
  have hf := h.fit
  refine ⟨by rw [List.length_take, List.length_drop]; omega, fun j hj => ?_⟩
  obtain ⟨h1, e1⟩ := h.buf (t + j) (by omega)
  obtain ⟨h2, e2⟩ := list_get s (D + t) (E - t) j (by omega) hj
  refine ⟨h2, ?_⟩
  rw [e2, show 1 + t + j = 1 + (t + j) by omega, e1]
  simp only [show D + (t + j) = D + t + j by omega]
theorem take_take_drop (L : List UInt8) (ts a b : Nat) : (L.drop ts).take a ++ (L.drop (ts + a)).take b = (L.drop ts).take (a + b) := by
  rw [← List.drop_drop, List.take_add]
theorem tok_write {B g r : Nat} {s : ByteArray} {E D t : Nat} {C : List UInt8} {lc : Int} {w : World} (h : Scn B g r s E E D (t : Int) C lc w) (ht : t < E) :
    TokRel s D (t : Int) C (D + E) 0 (C ++ (s.data.toList.drop (D + t)).take (E - t)) := by
  refine Or.inr ⟨by omega, fun ts hts => ?_⟩
  obtain ⟨h1, h2, h3⟩ := hts
  have hX := (write_src h ht).1
  have h3' : ts + C.length = D + t := by omega
  refine ⟨Int.le_refl _, ?_, ?_⟩
  · rw [List.length_append, hX, ← take_take_drop, ← h2, h3']
  · rw [List.length_append, hX]; omega
theorem same_iface (q o : Nat) (w : World) : Sem.run Tryz.prog (binOp BinOp.neq 44 (.iface 202 (.pointer (some ⟨q, o, none⟩))) (.iface 202 (.pointer (some ⟨q, o, none⟩)))) w = .ok (.bool false) w := by
  have hu : Tryz.prog.underlying 44 = some (.interface (Tryz.prog.methodsAt 44)) := by kernel_rfl
  have hp : Tryz.prog.underlying 202 = some (.pointer 204) := by kernel_rfl
  have hj : (Tryz.prog.info? 204).isSome = true := by kernel_rfl
  have hi : (Tryz.prog.info? 202).any (·.comparable) = true := by kernel_rfl
  obtain ⟨j, hj⟩ := Option.isSome_iff_exists.mp hj
  cases hq : Tryz.prog.info? 202 with
  | none => rw [hq] at hi; cases hi
  | some i =>
    rw [hq] at hi
    simp only [binOp]
    simp [Op.equal, Op.maxDepth, run_equalIn_iface_ptr_same w 9998 ⟨q, o, none⟩ hu hp hq hi hj]
/-- What next() does: byte number k, or the end. -/
def NextPost (B g r : Nat) (s : ByteArray) (D : Nat) (tp : Int) (C : List UInt8) (k : Nat) (w : World) (e : Ending) (w' : World) : Prop :=
  (∃ hk : k < s.size, e = .returned (.int .i32 ((s[k]'hk).toNat : Int)) ∧ ∃ P' E' D' tp' C', Scn B g r s P' E' D' tp' C' 1 w' ∧ D' + P' = k + 1 ∧ tp' < P' ∧ 1 ≤ P' ∧ TokRel s D tp C D' tp' C' ∧ NX B g r w w') ∨
  (k = s.size ∧ e = .returned (.int .i32 (-1)) ∧ ∃ tp' C', Scn B g r s 0 0 s.size tp' C' 0 w' ∧ TokRel s D tp C s.size tp' C' ∧ NX B g r w w')
/-- The buffer is empty: the source is at its end. -/
theorem Scn.emptied {B g r s E D tp C lc w W1 W4} {z : Int} (h : Scn B g r s E E D tp C lc w) (htp : tp ≤ 0)
    (hW1 : W1 = w.setCell ⟨g, 1028, none⟩ (.int .i64 z)) (hz : z = ((D + E : Nat) : Int)) (N : Nat) (hN : N = 0) (hd : Drew W1 W4) :
    Scn B g r s 0 0 (D + E) tp C lc (((W4.setCell ⟨g, 1026, none⟩ (.int .i64 0)).setCell ⟨g, 1027, none⟩ (.int .i64 N)).setCell ⟨g, 1 + N, none⟩ (.int .u8 128)) := by
  subst hN
  obtain ⟨n, rfl⟩ := hd
  have hne := h.ne
  have o1 : ∀ b p, (W1.drewN n).cell? ⟨b, p, none⟩ = W1.cell? ⟨b, p, none⟩ := fun _ _ => rfl
  have o2 : ∀ p, p ≠ 1028 → (W1.drewN n).cell? ⟨g, p, none⟩ = w.cell? ⟨g, p, none⟩ := fun p hp => by rw [o1, hW1, cell_set_ne (by omega)]
  have o4 : ∀ p, p ≠ 1028 → p ≠ 1026 → p ≠ 1027 → p ≠ 1 + 0 → ((((W1.drewN n).setCell ⟨g, 1026, none⟩ (.int .i64 0)).setCell ⟨g, 1027, none⟩ (.int .i64 ((0 : Nat) : Int))).setCell ⟨g, 1 + 0, none⟩ (.int .u8 128)).cell? ⟨g, p, none⟩ = w.cell? ⟨g, p, none⟩ := by
    intro p h1 h2 h3 h4
    rw [cell_set_ne (by omega), cell_set_ne (by omega), cell_set_ne (by omega)]
    exact o2 p h1
  have hsent : ((((W1.drewN n).setCell ⟨g, 1026, none⟩ (.int .i64 0)).setCell ⟨g, 1027, none⟩ (.int .i64 ((0 : Nat) : Int))).setCell ⟨g, 1 + 0, none⟩ (.int .u8 128)).cell? ⟨g, 1 + 0, none⟩ = some (.int .u8 128) := by
    obtain ⟨y, _, hy⟩ := h.all 0 (by omega)
    exact cell_set_same (by rw [cell_set_ne (by omega), cell_set_ne (by omega)]; exact (o2 _ (by omega)).trans hy)
  have hB1 : Blk g (W1.drewN n) := by rw [hW1]; exact (h.blk.set _ _ _).drewN n
  have ro : ∀ p, (W1.drewN n).cell? ⟨r, p, none⟩ = w.cell? ⟨r, p, none⟩ := fun p => by rw [o1, hW1, cell_other hne]
  have rh : (W1.drewN n).heap[r]? = w.heap[r]? := by rw [hW1]; exact Below.heap_setCell _ _ _ _ hne
  refine ⟨Nat.le_refl _, by omega, by have := h.fit; omega, h.lcr, ⟨h.tpr.1, by omega⟩, ((hB1.set _ _ _).set _ _ _).set _ _ _, h.hB, hne, by rw [o4 0 (by omega) (by omega) (by omega) (by omega)]; exact h.src, fun j hj => by omega, fun j hj => ?_, hsent, ?_, ?_, ?_,
    by rw [o4 1029 (by omega) (by omega) (by omega) (by omega)]; exact h.cl, by rw [o4 1030 (by omega) (by omega) (by omega) (by omega)]; exact h.cc, by rw [o4 1031 (by omega) (by omega) (by omega) (by omega)]; exact h.cll, by rw [o4 1032 (by omega) (by omega) (by omega) (by omega)]; exact h.clc, ?_, by rw [o4 1036 (by omega) (by omega) (by omega) (by omega)]; exact h.ctp,
    by rw [cell_other hne, cell_other hne, cell_other hne, ro]; exact h.rs, by rw [cell_other hne, cell_other hne, cell_other hne, ro]; exact h.ri, by rw [cell_other hne, cell_other hne, cell_other hne, ro]; exact h.rp, fun p => by rw [frozen_other, frozen_other, frozen_other]; exact (frozen_of_block' rh p).trans (h.rfr p), ?_⟩
  · by_cases hj0 : j = 0
    · subst hj0; exact ⟨128, by omega, hsent⟩
    · rw [o4 (1 + j) (by omega) (by omega) (by omega) (by omega)]; exact h.all j hj
  · rw [cell_set_ne (by omega), cell_set_ne (by omega)]
    exact cell_set_same ((o2 1026 (by omega)).trans h.cP)
  · rw [cell_set_ne (by omega)]
    exact cell_set_same (by rw [cell_set_ne (by omega)]; exact (o2 1027 (by omega)).trans h.cE)
  · rw [cell_set_ne (by omega), cell_set_ne (by omega), cell_set_ne (by omega), o1, hW1, ← hz]
    exact cell_set_same h.cD
  · refine (((?_ : TBuf B g C (W1.drewN n)).set 1026 (by omega) _).set 1027 (by omega) _).set (1 + 0) (by omega) _
    rw [hW1]
    exact (h.tb.set 1028 (by omega) _).drewN n
  · obtain ⟨cs, hc⟩ := h.rtag
    exact ⟨cs, by rw [Below.heap_setCell _ _ _ _ hne, Below.heap_setCell _ _ _ _ hne, Below.heap_setCell _ _ _ _ hne]; exact rh.trans hc⟩
set_option maxHeartbeats 1000000 in
set_option maxRecDepth 100000 in
theorem next_slow (B g r : Nat) (s : ByteArray) (E D : Nat) (tp : Int) (C : List UInt8) (lc : Int) (w : World) (hs : Plain s) (h : Scn B g r s E E D tp C lc w) (hBr : B ≤ r) (hBw : B ≤ w.heap.size)
    (htp : tp < E) (hCl : C.length ≤ 3000) (hf : FirstAt B w) (he : EofAt B w) :
    Calls Tryz.prog 70 #[.pointer (some ⟨g, 0, none⟩)] w (NextPost B g r s D tp C (D + E) w) := by
  have hl := h.lim
  have htl := h.tpr.1
  have hcP := h.cP
  have hcE := h.cE
  have hsent := h.sent
  have hctp := h.ctp
  have H := Lib.hid h
  clear h
  go_enter Tryz.func70, Tryz.ntmps70
  go_wp2
  go_quiet (fail)
  go_wp2
  go_loopg [2, 5, 6, 7] 1 (fun k s2 s5 s6 s7 wr => (k = 1 ∧ Drew w wr) ∨ (k = 0 ∧ ∃ N D' tp' C', 0 < N ∧ Hid (Scn B g r s 0 N D' tp' C' lc wr) ∧ Hid (NX B g r w wr) ∧ D' = D + E ∧ Hid (TokRel s D tp C D' tp' C')))
  case atStart => exact Or.inl ⟨rfl, Drew.drewN (Drew.refl _) _⟩
  case round =>
    rcases hrel with ⟨rfl, hd⟩ | ⟨rfl, N, D', tp', C', hN, hS, hX, hD', hT⟩
    · have k1 : wr.cell? ⟨g, 1026, none⟩ = some (.int .i64 E) := by rw [hd.cell]; exact hcP
      have k2 : wr.cell? ⟨g, 1027, none⟩ = some (.int .i64 E) := by rw [hd.cell]; exact hcE
      have k3 : wr.cell? ⟨g, 1036, none⟩ = some (.int .i64 tp) := by rw [hd.cell]; exact hctp
      have hlt : ((E : Int) < (E : Int) + 4) := by omega
      have hwr : IntKind.i64.wrap ((E : Int) + 4) = (E : Int) + 4 := by rw [IntKind.wrap_i64]; omega
      have hE5 : (E : Int) ≤ 1025 := by omega
      have hE6 : E ≤ 1025 := by omega
      have hE7 : ¬ ((1025 : Int) < E) := by omega
      go_upto_region 3 with fail
      go_quiet ((go_at_call 86; exact Calls.quiet_of_same (full_none _ _ _)))
      have HS : Hid (Scn B g r s E E D tp C lc wr) := H.out.drew' hd
      have HN : Hid (NX B g r w wr) := (NX.refl B g r w).drew' hd
      have hBr2 : Hid (B ≤ wr.heap.size) := by rw [Hid, hd.heap]; exact hBw
      clear hd k1 k2 hlt hwr hE5 hE6 hE7 hcP hcE hsent hctp
      go_upto_if 50 with fail
      go_cut [] from 51 to 69 (fun wx => ∃ tp' C', tp' ≤ 0 ∧ Hid (Scn B g r s E E D tp' C' lc wx) ∧ Hid (NX B g r w wx) ∧ Hid (TokRel s D tp C (D + E) tp' C'))
      case first =>
        by_cases ht0 : 0 ≤ tp
        · obtain ⟨t, rfl⟩ : ∃ t : Nat, tp = (t : Int) := ⟨tp.toNat, by omega⟩
          have htE : t < E := by omega
          have HX := write_src HS.out htE
          have q1 : wr.cell? ⟨g, 1026, none⟩ = some (.int .i64 E) := HS.out.cP
          have hE5 : (E : Int) ≤ 1025 := by omega
          have htE2 : (t : Int) ≤ E := by omega
          have HW := fun W (hW : Drew wr W) => write_own (fun i => W.cell? ⟨g, i, none⟩) B g C ((s.data.toList.drop (D + t)).take (E - t)) (1 + t) (E - t) (1025 - t) W ((HS.out.drew' hW).tb.buffer (HS.out.drew' hW).blk (HS.out.drew' hW).hB) (by rw [hW.heap]; exact hBr2.out) HX.1 (by omega) (Or.inl (by omega)) (fun j hj => by rw [hW.cell]; exact HX.2 j hj) (by omega)
          have HHW := Lib.hid HW
          clear HW HX
          go_wp2_with fail
          obtain ⟨W, hW⟩ : ∃ W, W = wr.drewN nq := ⟨_, rfl⟩
          rw [← hW]
          have hDW : Hid (Drew wr W) := by rw [hW]; exact Drew.drewN (Drew.refl _) _
          have q2 : W.cell? ⟨g, 1026, none⟩ = some (.int .i64 E) := by rw [hDW.out.cell]; exact HS.out.cP
          have q3 : W.cell? ⟨g, 1036, none⟩ = some (.int .i64 (t : Int)) := by rw [hDW.out.cell]; exact HS.out.ctp
          have q4 : W.drew.cell? ⟨g, 1026, none⟩ = some (.int .i64 E) := q2
          have q5 : W.drew.cell? ⟨g, 1036, none⟩ = some (.int .i64 (t : Int)) := q3
          clear hW q1
          go_still_tail 15, (by kernel_rfl)
          go_wp2_with fail
          have hDd : Drew wr W.drew := hDW.out.drew
          refine (HHW.out _ hDd).mono ?_
          rintro e W3 ⟨rfl, hwp⟩
          obtain ⟨hS3, hN3⟩ := Scn.write (HS.out.drew' hDd) _ hwp
          have q6 : W3.cell? ⟨g, 1036, none⟩ = some (.int .i64 (t : Int)) := hS3.ctp
          have q7 : W3.frozen? ⟨g, 1036, none⟩ = false := hS3.fr 1036
          have HS3 := Lib.hid hS3
          have HN3 := Lib.hid hN3
          clear hS3 hN3 hwp HHW q2 q3 q4 q5
          go_wp2_with fail
          go_meet
          case rel => exact ⟨0, _, Int.le_refl _, HS3.out.setTp 0 (by omega), ((HN.out.drew' hDd).trans HN3.out).setCell HS3.out.hB 1036 (by omega) _, tok_write HS.out htE⟩
        · have hneg : tp < 0 := by omega
          go_wp2_with fail
          go_meet
          case rel => exact ⟨tp, C, by omega, HS.out.drewN _, HN.out.drewN _, Or.inl ⟨by omega, by omega, rfl⟩⟩
      case rest =>
      clear HS HN
      obtain ⟨tp', C', htp', HS, HN, HT⟩ := hcut
      have q1 : wc.cell? ⟨g, 1026, none⟩ = some (.int .i64 E) := HS.out.cP
      have q2 : wc.cell? ⟨g, 1027, none⟩ = some (.int .i64 E) := HS.out.cE
      have q1' : wc.drew.cell? ⟨g, 1026, none⟩ = some (.int .i64 E) := q1
      have q2' : wc.drew.cell? ⟨g, 1027, none⟩ = some (.int .i64 E) := q2
      have hsz1 : (Tryz.prog.info? 5).map (·.size) = some 1 := by kernel_rfl
      have hu : Tryz.prog.underlying 81 = some (.slice 5) := by kernel_rfl
      have hce : ∀ ty d dl dc a c W, (Builtin.copy_ #[81, 81] ty #[.slice d dl dc, .slice (some a) 0 c]).run Tryz.prog W = .ok (.int .i64 0) W := fun ty d dl dc a c W =>
        run_copy_none W 81 81 ty 5 d (some a) dl dc 0 c hu hsz1 (by simp)
      have hE5 : (E : Int) ≤ 1025 := by omega
      have hE6 : E ≤ 1025 := by omega
      clear hsz1 hu
      go_wp2_with fail
      go_still_tail 16, (by kernel_rfl)
      go_wp2_with fail
      obtain ⟨Wa, hWa⟩ : ∃ Wa, Wa = wc.drew := ⟨_, rfl⟩
      rw [← hWa]
      have HSa : Hid (Scn B g r s E E D tp' C' lc Wa) := by rw [hWa]; exact HS.out.drewN 1
      have HNa : Hid (NX B g r w Wa) := by rw [hWa]; exact HN.out.drewN 1
      clear hWa q1 q2 q1' q2' HS HN hce
      have q1 : Wa.drew.cell? ⟨g, 1026, none⟩ = some (.int .i64 E) := HSa.out.cP
      have q2 : Wa.drew.cell? ⟨g, 1028, none⟩ = some (.int .i64 D) := HSa.out.cD
      have q3 : Wa.drew.frozen? ⟨g, 1028, none⟩ = false := HSa.out.fr 1028
      have hfit := HSa.out.fit
      have hs3 := hs.1
      go_still_tail 11, (by kernel_rfl)
      go_wp2_with fail
      obtain ⟨W1, hW1⟩ : ∃ W1, W1 = Wa.setCell ⟨g, 1028, none⟩ (.int .i64 ((D : Int) + E)) := ⟨_, rfl⟩
      have hne := HSa.out.ne
      have o2 : ∀ p, p ≠ 1028 → W1.cell? ⟨g, p, none⟩ = Wa.cell? ⟨g, p, none⟩ := fun p hp => by rw [hW1, cell_set_ne (by omega)]
      have q4 : W1.cell? ⟨g, 1026, none⟩ = some (.int .i64 E) := by rw [o2 _ (by omega)]; exact HSa.out.cP
      have q5 : W1.cell? ⟨g, 1027, none⟩ = some (.int .i64 E) := by rw [o2 _ (by omega)]; exact HSa.out.cE
      have q6 : W1.cell? ⟨g, 0, none⟩ = some (.iface 119 (.pointer (some ⟨r, 0, none⟩))) := by rw [o2 _ (by omega)]; exact HSa.out.src
      obtain ⟨W2, hW2⟩ : ∃ W2, W2 = W1.drew := ⟨_, rfl⟩
      rw [← hW1, ← hW2]
      have q7 : W2.cell? ⟨g, 1026, none⟩ = some (.int .i64 E) := by rw [hW2]; exact q4
      have q8 : W2.cell? ⟨g, 1027, none⟩ = some (.int .i64 E) := by rw [hW2]; exact q5
      have q9 : W2.cell? ⟨g, 0, none⟩ = some (.iface 119 (.pointer (some ⟨r, 0, none⟩))) := by rw [hW2]; exact q6
      have HW1 := Lib.hid hW1
      have HW2 := Lib.hid hW2
      clear hW1 hW2 o2 q1 q2 q3 q4 q5 q6
      go_quiet (fail)
      go_wp2_with fail
      obtain ⟨W3, hW3⟩ : ∃ W3, W3 = W2.drewN nq := ⟨_, rfl⟩
      rw [← hW3]
      have q1 : W3.cell? ⟨g, 0, none⟩ = some (.iface 119 (.pointer (some ⟨r, 0, none⟩))) := by rw [hW3]; exact q9
      have q2 : W3.drew.cell? ⟨g, 0, none⟩ = some (.iface 119 (.pointer (some ⟨r, 0, none⟩))) := q1
      have HW3 := Lib.hid hW3
      clear hW3 q7 q8 q9
      by_cases hpos : D + E < s.size
      · have HRD : Hid (∃ N, min 1024 (s.size - (D + E)) = N ∧ Calls Tryz.prog 182 #[.pointer (some ⟨r, 0, none⟩), .slice (some ⟨g, 1, none⟩) 1024 1025] W3.drew fun e w' => e = .returned (.tuple #[.int .i64 (N : Int), .nilIface]) ∧ ReadPost g r s (D + E) N W3.drew w') := by
          obtain ⟨z, hz⟩ := HSa.out.rp
          obtain ⟨cs, hcs⟩ := HSa.out.blk
          have hd13 : Drew W1 W3.drew := by rw [HW3.out, HW2.out]; exact (Drew.drewN (Drew.refl W1).drew nq).drew
          have hc1 : W3.drew.heap[g]? = some (.cells (cs.setIfInBounds 1028 (.int .i64 ((D : Int) + E))) 97 (0, 0)) := by
            rw [hd13.heap, HW1.out]; exact Lib.heap_setCell_same (i := 1028) hcs _
          have hsz : 1025 ≤ (cs.setIfInBounds 1028 (.int .i64 ((D : Int) + E))).size := by
            obtain ⟨y, _, hy⟩ := HSa.out.all 1024 (by omega)
            rw [Lib.cell_of_heap hcs] at hy
            have := (Array.getElem?_eq_some_iff.mp hy).1
            rw [Array.size_setIfInBounds]; omega
          have er : ∀ p, W3.drew.cell? ⟨r, p, none⟩ = Wa.cell? ⟨r, p, none⟩ := fun p => by rw [hd13.cell, HW1.out, cell_other hne]
          have eh : W3.drew.heap[r]? = Wa.heap[r]? := by rw [hd13.heap, HW1.out]; exact Below.heap_setCell _ _ _ _ hne
          exact ⟨_, rfl, read_some s g r (D + E) 1025 z W3.drew hs.1 hpos hne _ hc1 hsz _ rfl (by rw [er]; exact HSa.out.rs) (by rw [er]; exact HSa.out.ri) (by rw [er]; exact hz) (fun p => (frozen_of_block' eh p).trans (HSa.out.rfr p)) (by obtain ⟨cs', hc'⟩ := HSa.out.rtag; exact ⟨cs', eh.trans hc'⟩)⟩
        obtain ⟨N, hN, HRC⟩ := HRD.out
        have HRC' := Lib.hid HRC
        clear HRC HRD
        go_region_held3 (fun w' => w'.cell? ⟨g, 0, none⟩ = some (.iface 119 (.pointer (some ⟨r, 0, none⟩)))) (first | exact q2 | go_keep) (first | (go_at_call 182; refine HRC'.out.mono ?_; rintro e W4 ⟨rfl, hRP⟩; have q3 : W4.cell? ⟨g, 0, none⟩ = some (.iface 119 (.pointer (some ⟨r, 0, none⟩))) := (hRP.old 0 (by omega)).trans q2))
        have hR4 : Hid (ReadPost g r s (D + E) N W3.drew W4) := hRP
        have hN1 : N ≤ 1024 := by omega
        have e3 : ∀ p, (p < 1 ∨ 1 + N ≤ p) → p ≠ 1028 → W4.cell? ⟨g, p, none⟩ = Wa.cell? ⟨g, p, none⟩ := by
          intro p hp hp2
          rw [hR4.out.old p hp]
          show W3.cell? ⟨g, p, none⟩ = _
          rw [HW3.out, HW2.out, HW1.out]
          show (Wa.setCell ⟨g, 1028, none⟩ _).cell? ⟨g, p, none⟩ = _
          rw [cell_set_ne (by omega)]
        have q3 : W4.cell? ⟨g, 1026, none⟩ = some (.int .i64 E) := by rw [e3 _ (by omega) (by omega)]; exact HSa.out.cP
        have q4 : W4.cell? ⟨g, 1027, none⟩ = some (.int .i64 E) := by rw [e3 _ (by omega) (by omega)]; exact HSa.out.cE
        have q5 : W4.frozen? ⟨g, 1026, none⟩ = false := hR4.out.blk.fr 1026
        have q6 : W4.frozen? ⟨g, 1027, none⟩ = false := hR4.out.blk.fr 1027
        obtain ⟨y, hy, q7'⟩ := HSa.out.all N (by omega)
        have q7 : W4.cell? ⟨g, 1 + N, none⟩ = some (.int .u8 (y : Int)) := by rw [e3 _ (by omega) (by omega)]; exact q7'
        have q8 : W4.frozen? ⟨g, 1 + N, none⟩ = false := hR4.out.blk.fr _
        clear e3 q7'
        go_wp2_with fail
        obtain ⟨W5, hW5⟩ : ∃ W5, W5 = (W4.setCell ⟨g, 1026, none⟩ (.int .i64 0)).setCell ⟨g, 1027, none⟩ (.int .i64 N) := ⟨_, rfl⟩
        have q9 : W5.drew.cell? ⟨g, 1 + N, none⟩ = some (.int .u8 (y : Int)) := by show W5.cell? _ = _; rw [hW5, cell_set_ne (by omega), cell_set_ne (by omega)]; exact q7
        have qa : W5.drew.frozen? ⟨g, 1 + N, none⟩ = false := by show W5.frozen? _ = _; rw [hW5, frozen_set, frozen_set]; exact q8
        have qb : W5.drew.cell? ⟨g, 1027, none⟩ = some (.int .i64 N) := by show W5.cell? _ = _; rw [hW5]; exact cell_set_same (by rw [cell_set_ne (by omega)]; exact q4)
        rw [← hW5]
        have HW5 := Lib.hid hW5
        have hNi : (N : Int) < 1025 := by omega
        have hNj : N < 1025 := by omega
        have hNk : (0 : Int) ≤ N := by omega
        have qc : W5.cell? ⟨g, 1027, none⟩ = some (.int .i64 N) := qb
        clear hW5 q3 q4 q5 q6 q7 q8
        go_still_tail 8, (by kernel_rfl)
        go_wp2_with fail
        go_roundg 0
        case measure => omega
        case rel =>
          have hdr : Drew W1 W3.drew := by rw [HW3.out, HW2.out]; exact (Drew.drewN (Drew.refl W1).drew nq).drew
          obtain ⟨k, hk⟩ := hdr
          have hR5 := hR4.out
          rw [hk] at hR5
          have hfin := Scn.refill HSa.out hN hpos htp' HW1.out (by omega) k hR5
          rw [← HW5.out] at hfin
          have hnx : NX B g r w W1 := by rw [HW1.out]; exact HNa.out.setCell HSa.out.hB 1028 (by omega) _
          have hnx2 : NX B g r w W4 := NX.read (hnx.drewN k) HSa.out.hB hBr hN1 hR5
          have hnx3 : NX B g r w W5 := by rw [HW5.out]; exact (hnx2.setCell HSa.out.hB 1026 (by omega) _).setCell HSa.out.hB 1027 (by omega) _
          refine Or.inr ⟨rfl, N, D + E, tp', C', by omega, ?_, ?_, rfl, HT⟩
          · first | exact hfin | exact hfin.drewN 1 | exact hfin.drewN _
          · first | exact hnx3.setCell HSa.out.hB (1 + N) (by omega) _ | exact (hnx3.setCell HSa.out.hB (1 + N) (by omega) _).drewN 1 | exact (hnx3.setCell HSa.out.hB (1 + N) (by omega) _).drewN _
      · have hdE : D + E = s.size := by omega
        obtain ⟨N, HN0⟩ : ∃ N : Nat, Hid (N = 0) := ⟨0, rfl⟩
        have hNi : (N : Int) < 1025 := by have := HN0.out; omega
        have hNj : N < 1025 := by have := HN0.out; omega
        have hNk : (0 : Int) ≤ N := by omega
        have hN0 : ((N : Int) == 0) = true := by rw [beq_iff_eq]; have := HN0.out; omega
        have hd13 : Drew W1 W3.drew := by rw [HW3.out, HW2.out]; exact (Drew.drewN (Drew.refl W1).drew nq).drew
        have heA := he.below HNa.out.below
        obtain ⟨q, o, hq1, hq2, hq3⟩ := heA
        have hBg := HSa.out.hB
        have hq4 : W1.cell? ⟨2, 0, none⟩ = some (.iface 202 (.pointer (some ⟨q, o, none⟩))) := by rw [HW1.out, cell_other (by omega)]; exact hq1
        have HRC' : Hid (Calls Tryz.prog 182 #[.pointer (some ⟨r, 0, none⟩), .slice (some ⟨g, 1, none⟩) 1024 1025] W3.drew fun e w' => e = .returned (.tuple #[.int .i64 (N : Int), .iface 202 (.pointer (some ⟨q, o, none⟩))]) ∧ Drew W3.drew w') := by
          have er : ∀ p, W3.drew.cell? ⟨r, p, none⟩ = Wa.cell? ⟨r, p, none⟩ := fun p => by rw [hd13.cell, HW1.out, cell_other hne]
          rw [HN0.out]
          exact read_end s g r (D + E) 1025 W3.drew hs.1 (by omega) (by omega) q o (by rw [hd13.cell]; exact hq4) (by rw [er]; exact HSa.out.rs) (by rw [er]; exact HSa.out.ri)
        have g2 : (2 : Nat) ≠ g := by omega
        clear hq1 hq2 hq3 he
        go_region_held3 (fun w' => w'.cell? ⟨g, 0, none⟩ = some (.iface 119 (.pointer (some ⟨r, 0, none⟩)))) (first | exact q2 | go_keep) (first | (go_at_call 182; refine HRC'.out.mono ?_; rintro e W4 ⟨rfl, hRP⟩; have q3 : W4.cell? ⟨g, 0, none⟩ = some (.iface 119 (.pointer (some ⟨r, 0, none⟩))) := (hRP.cell _).trans q2))
        have hd4 : Hid (Drew W1 W4) := hd13.trans hRP
        have e3 : ∀ p, p ≠ 1028 → W4.cell? ⟨g, p, none⟩ = Wa.cell? ⟨g, p, none⟩ := by
          intro p hp2
          rw [hd4.out.cell, HW1.out, cell_set_ne (by omega)]
        have hB4 : Blk g W4 := by obtain ⟨k, hk⟩ := hd4.out; rw [hk, HW1.out]; exact (HSa.out.blk.set _ _ _).drewN k
        have q3 : W4.cell? ⟨g, 1026, none⟩ = some (.int .i64 E) := by rw [e3 _ (by omega)]; exact HSa.out.cP
        have q4 : W4.cell? ⟨g, 1027, none⟩ = some (.int .i64 E) := by rw [e3 _ (by omega)]; exact HSa.out.cE
        have q5 : W4.frozen? ⟨g, 1026, none⟩ = false := hB4.fr 1026
        have q6 : W4.frozen? ⟨g, 1027, none⟩ = false := hB4.fr 1027
        obtain ⟨y, hy, q7'⟩ := HSa.out.all N (by omega)
        have q7 : W4.cell? ⟨g, 1 + N, none⟩ = some (.int .u8 (y : Int)) := by rw [e3 _ (by omega)]; exact q7'
        have q8 : W4.frozen? ⟨g, 1 + N, none⟩ = false := hB4.fr _
        have q20 : W4.cell? ⟨2, 0, none⟩ = some (.iface 202 (.pointer (some ⟨q, o, none⟩))) := by rw [hd4.out.cell]; exact hq4
        obtain ⟨zc, hzc⟩ := HSa.out.cc
        have q30 : W4.cell? ⟨g, 1030, none⟩ = some (.int .i64 zc) := by rw [e3 _ (by omega)]; exact hzc
        have q32 : W4.cell? ⟨g, 1032, none⟩ = some (.int .i64 lc) := by rw [e3 _ (by omega)]; exact HSa.out.clc
        have f30 : W4.frozen? ⟨g, 1030, none⟩ = false := hB4.fr 1030
        have f32 : W4.frozen? ⟨g, 1032, none⟩ = false := hB4.fr 1032
        clear e3 q7' hq4 hzc HRC'
        go_wp2_with fail
        obtain ⟨W5, hW5⟩ : ∃ W5, W5 = (W4.setCell ⟨g, 1026, none⟩ (.int .i64 0)).setCell ⟨g, 1027, none⟩ (.int .i64 N) := ⟨_, rfl⟩
        rw [← hW5]
        have e5 : ∀ p, p ≠ 1026 → p ≠ 1027 → W5.cell? ⟨g, p, none⟩ = W4.cell? ⟨g, p, none⟩ := fun p h1 h2 => by rw [hW5, cell_set_ne (by omega), cell_set_ne (by omega)]
        have f5 : ∀ p, W5.frozen? ⟨g, p, none⟩ = W4.frozen? ⟨g, p, none⟩ := fun p => by rw [hW5, frozen_set, frozen_set]
        have q9 : W5.drew.cell? ⟨g, 1 + N, none⟩ = some (.int .u8 (y : Int)) := (e5 _ (by omega) (by omega)).trans q7
        have qa : W5.drew.frozen? ⟨g, 1 + N, none⟩ = false := (f5 _).trans q8
        have qc : W5.cell? ⟨g, 1027, none⟩ = some (.int .i64 N) := by rw [hW5]; exact cell_set_same (by rw [cell_set_ne (by omega)]; exact q4)
        have qb : W5.drew.cell? ⟨g, 1027, none⟩ = some (.int .i64 N) := qc
        have qd : W5.drew.cell? ⟨2, 0, none⟩ = some (.iface 202 (.pointer (some ⟨q, o, none⟩))) := by show W5.cell? _ = _; rw [hW5, cell_other g2, cell_other g2]; exact q20
        have qe : W5.drew.cell? ⟨g, 1030, none⟩ = some (.int .i64 zc) := (e5 _ (by omega) (by omega)).trans q30
        have qf : W5.drew.cell? ⟨g, 1032, none⟩ = some (.int .i64 lc) := (e5 _ (by omega) (by omega)).trans q32
        have qg : W5.drew.frozen? ⟨g, 1030, none⟩ = false := (f5 _).trans f30
        have qh : W5.drew.frozen? ⟨g, 1032, none⟩ = false := (f5 _).trans f32
        have HW5 := Lib.hid hW5
        clear hW5 q3 q4 q5 q6 q7 q8 e5 f5 q20 q30 q32 f30 f32
        have hg1 : ¬ g = 2 := fun e => g2 e.symm
        have n1 : ¬ N = 1026 := by omega
        have n2 : ¬ N = 1029 := by omega
        have n3 : ¬ N = 1031 := by omega
        have n4 : ¬ 1026 = N := by omega
        have n5 : ¬ 1029 = N := by omega
        have n6 : ¬ 1031 = N := by omega
        have m1 : W5.cell? ⟨2, 0, none⟩ = some (.iface 202 (.pointer (some ⟨q, o, none⟩))) := qd
        have m3 : W5.cell? ⟨g, 1030, none⟩ = some (.int .i64 zc) := qe
        have m4 : W5.cell? ⟨g, 1032, none⟩ = some (.int .i64 lc) := qf
        have m5 : W5.frozen? ⟨g, 1030, none⟩ = false := qg
        have m6 : W5.frozen? ⟨g, 1032, none⟩ = false := qh
        have hcmp := fun W : World => same_iface q o W
        go_still_tail 8, (by kernel_rfl)
        by_cases hlc : 0 < lc
        · go_wp2_with fail
          go_ret
          have hfin := Scn.emptied HSa.out htp' HW1.out (by omega) N HN0.out hd4.out
          rw [← HW5.out] at hfin
          have hnx : NX B g r w W4 := by obtain ⟨k, hk⟩ := hd4.out; rw [hk, HW1.out]; exact (HNa.out.setCell HSa.out.hB 1028 (by omega) _).drewN k
          have hnx5 : NX B g r w W5 := by rw [HW5.out]; exact (hnx.setCell HSa.out.hB 1026 (by omega) _).setCell HSa.out.hB 1027 (by omega) _
          have hnx6 := hnx5.setCell HSa.out.hB (1 + N) (by omega) (.int .u8 128)
          rw [hdE] at hfin
          have HT2 := HT.out
          rw [hdE] at HT2
          exact Or.inr ⟨by first | rfl | exact hdE, rfl, tp', C', ((hfin.setCol _).setLc 0 (by omega)).drewN 1, HT2, ((hnx6.setCell HSa.out.hB 1030 (by omega) _).setCell HSa.out.hB 1032 (by omega) _).drewN 1⟩
        · go_wp2_with fail
          go_ret
          have hfin := Scn.emptied HSa.out htp' HW1.out (by omega) N HN0.out hd4.out
          rw [← HW5.out] at hfin
          have hnx : NX B g r w W4 := by obtain ⟨k, hk⟩ := hd4.out; rw [hk, HW1.out]; exact (HNa.out.setCell HSa.out.hB 1028 (by omega) _).drewN k
          have hnx5 : NX B g r w W5 := by rw [HW5.out]; exact (hnx.setCell HSa.out.hB 1026 (by omega) _).setCell HSa.out.hB 1027 (by omega) _
          have hnx6 := hnx5.setCell HSa.out.hB (1 + N) (by omega) (.int .u8 128)
          rw [hdE] at hfin
          have HT2 := HT.out
          rw [hdE] at HT2
          exact Or.inr ⟨by first | rfl | exact hdE, rfl, tp', C', (hfin.setLc 0 (by omega)).drewN 1, HT2, (hnx6.setCell HSa.out.hB 1032 (by omega) _).drewN 1⟩
    · have hNb : N ≤ 1024 := hS.out.lim
      have k1 : wr.cell? ⟨g, 1026, none⟩ = some (.int .i64 0) := hS.out.cP
      have k2 : wr.cell? ⟨g, 1027, none⟩ = some (.int .i64 N) := hS.out.cE
      obtain ⟨hb0, k4⟩ := hS.out.buf 0 hN
      have hcr := hs.2 (D' + 0) hb0
      obtain ⟨c, hce⟩ : ∃ c, c = (s[D' + 0]'hb0).toNat := ⟨_, rfl⟩
      rw [← hce] at k4 hcr
      have k5 : wr.cell? ⟨g, 1, none⟩ = some (.int .u8 (c : Int)) := k4
      have HC := Lib.hid hce
      clear k4 hce
      obtain ⟨hc0, hc1⟩ := hcr
      have hN5 : (N : Int) ≤ 1025 := by omega
      have hN6 : N ≤ 1025 := by omega
      have hfr := hf.below hX.out.below
      have HD' : Hid (D' = D + E) := hD'
      clear hD'
      have t0 : ((c : Int) == 0) = false := by rw [beq_eq_false_iff_ne]; omega
      by_cases h4 : (N : Int) < 4
      · go_upto_region 3 with fail
        go_quiet ((go_at_call 86; refine (full_ascii B g 1 N 1025 c _ hN (by omega) (show (wr.drewN _).cell? _ = _ from k5) hc1 (hfr.below (Below.drewN (Below.refl _ _) _))).mono ?_; rintro e w'' ⟨rfl, rfl⟩; exact ⟨rfl, _, rfl⟩))
        go_wp2_with fail
        obtain ⟨wy, hwy⟩ : ∃ wy, wy = wr.drewN nq := ⟨_, rfl⟩
        have HS2 : Hid (Scn B g r s 0 N D' tp' C' lc wy) := by rw [hwy]; exact hS.out.drewN nq
        have HX2 : Hid (NX B g r w wy) := by rw [hwy]; exact hX.out.drewN nq
        have p5 : wy.cell? ⟨g, 1, none⟩ = some (.int .u8 (c : Int)) := by rw [hwy]; exact k5
        rw [← hwy]
        clear hwy k1 k2 k5 hS hX
        have p1 : wy.cell? ⟨g, 1026, none⟩ = some (.int .i64 0) := HS2.out.cP
        obtain ⟨z1, hz1⟩ := HS2.out.cl
        obtain ⟨z2, hz2⟩ := HS2.out.cc
        obtain ⟨z3, hz3⟩ := HS2.out.cll
        have hclc := HS2.out.clc
        have f26 := HS2.out.fr 1026
        have f29 := HS2.out.fr 1029
        have f30 := HS2.out.fr 1030
        have f31 := HS2.out.fr 1031
        have f32 := HS2.out.fr 1032
        have hBg := HS2.out.hB
        have htp2 : tp' ≤ 0 := HS2.out.tpr.2
        by_cases h10 : c = 10
        · have t10 : ((c : Int) == 10) = true := by rw [beq_iff_eq]; omega
          have HE := Lib.hid h10
          clear h10
          go_wp2_with fail
          go_quiet (fail)
          go_wp2_with fail
          go_ret
          have hDE := HD'.out
          subst hDE
          exact Or.inl ⟨hb0, ret_i32 HC.out, 1, N, _, tp', C', (((((((HS2.out.drewN nq).setP 1 (by omega) (by omega)).setLc 1 (by omega)).setCol _).setLine _).setLast _).setCol 0), rfl, by omega, Nat.le_refl _, hT.out, (((((((HX2.out.drewN nq).setCell hBg 1026 (by omega) _).setCell hBg 1032 (by omega) _).setCell hBg 1030 (by omega) _).setCell hBg 1029 (by omega) _).setCell hBg 1031 (by omega) _).setCell hBg 1030 (by omega) _)⟩
        · have t10 : ((c : Int) == 10) = false := by rw [beq_eq_false_iff_ne]; omega
          clear h10
          go_wp2_with fail
          go_quiet (fail)
          go_wp2_with fail
          go_ret
          have hDE := HD'.out
          subst hDE
          exact Or.inl ⟨hb0, ret_i32 HC.out, 1, N, _, tp', C', ((((HS2.out.drewN nq).setP 1 (by omega) (by omega)).setLc 1 (by omega)).setCol _), rfl, by omega, Nat.le_refl _, hT.out, ((((HX2.out.drewN nq).setCell hBg 1026 (by omega) _).setCell hBg 1032 (by omega) _).setCell hBg 1030 (by omega) _)⟩
      · go_upto_region 3 with fail
        go_quiet (fail)
        go_wp2_with fail
        obtain ⟨wy, hwy⟩ : ∃ wy, wy = wr.drewN nq := ⟨_, rfl⟩
        have HS2 : Hid (Scn B g r s 0 N D' tp' C' lc wy) := by rw [hwy]; exact hS.out.drewN nq
        have HX2 : Hid (NX B g r w wy) := by rw [hwy]; exact hX.out.drewN nq
        have p5 : wy.cell? ⟨g, 1, none⟩ = some (.int .u8 (c : Int)) := by rw [hwy]; exact k5
        rw [← hwy]
        clear hwy k1 k2 k5 hS hX
        have p1 : wy.cell? ⟨g, 1026, none⟩ = some (.int .i64 0) := HS2.out.cP
        obtain ⟨z1, hz1⟩ := HS2.out.cl
        obtain ⟨z2, hz2⟩ := HS2.out.cc
        obtain ⟨z3, hz3⟩ := HS2.out.cll
        have hclc := HS2.out.clc
        have f26 := HS2.out.fr 1026
        have f29 := HS2.out.fr 1029
        have f30 := HS2.out.fr 1030
        have f31 := HS2.out.fr 1031
        have f32 := HS2.out.fr 1032
        have hBg := HS2.out.hB
        have htp2 : tp' ≤ 0 := HS2.out.tpr.2
        by_cases h10 : c = 10
        · have t10 : ((c : Int) == 10) = true := by rw [beq_iff_eq]; omega
          have HE := Lib.hid h10
          clear h10
          go_wp2_with fail
          go_quiet (fail)
          go_wp2_with fail
          go_ret
          have hDE := HD'.out
          subst hDE
          exact Or.inl ⟨hb0, ret_i32 HC.out, 1, N, _, tp', C', (((((((HS2.out.drewN nq).setP 1 (by omega) (by omega)).setLc 1 (by omega)).setCol _).setLine _).setLast _).setCol 0), rfl, by omega, Nat.le_refl _, hT.out, (((((((HX2.out.drewN nq).setCell hBg 1026 (by omega) _).setCell hBg 1032 (by omega) _).setCell hBg 1030 (by omega) _).setCell hBg 1029 (by omega) _).setCell hBg 1031 (by omega) _).setCell hBg 1030 (by omega) _)⟩
        · have t10 : ((c : Int) == 10) = false := by rw [beq_eq_false_iff_ne]; omega
          clear h10
          go_wp2_with fail
          go_quiet (fail)
          go_wp2_with fail
          go_ret
          have hDE := HD'.out
          subst hDE
          exact Or.inl ⟨hb0, ret_i32 HC.out, 1, N, _, tp', C', ((((HS2.out.drewN nq).setP 1 (by omega) (by omega)).setLc 1 (by omega)).setCol _), rfl, by omega, Nat.le_refl _, hT.out, ((((HX2.out.drewN nq).setCell hBg 1026 (by omega) _).setCell hBg 1032 (by omega) _).setCell hBg 1030 (by omega) _)⟩
end Go.Proofs.YthplmbgdcfmkgaaGreatDoor
