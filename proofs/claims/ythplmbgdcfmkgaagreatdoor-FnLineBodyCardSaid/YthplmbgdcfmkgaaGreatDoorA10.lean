/- The scanner: its memory, its source. -/
import Derived.Test.YthplmbgdcfmkgaaGreatDoorA01
import Derived.Test.YthplmbgdcfmkgaaGreatDoorA06
import Derived.Lib.BufferAt
import Derived.Laws.CopyRow
import Derived.Deep.CutBlock
import Derived.Deep.CutRange
import Derived.Laws.IdiomCopy
import Derived.BigCall
import Derived.BigGuard
set_option linter.unusedVariables false
set_option linter.unusedSimpArgs false
/- The scanner's memory. -/
namespace Go.Proofs.YthplmbgdcfmkgaaGreatDoor
open Go.RowKit

/-- The scanner's block. -/
def Blk (g : Nat) (w : World) : Prop := ∃ cs, w.heap[g]? = some (.cells cs 97 (0, 0))
theorem Blk.fr {g w} (h : Blk g w) (p : Nat) : w.frozen? ⟨g, p, none⟩ = false := by obtain ⟨cs, h⟩ := h; exact Lib.frozen_of_heap h p
theorem Blk.set {g w} (h : Blk g w) (b i : Nat) (v : Value) : Blk g (w.setCell ⟨b, i, none⟩ v) := by
  obtain ⟨cs, h⟩ := h
  by_cases e : b = g
  · subst e
    exact ⟨_, Lib.heap_setCell_same (i := i) h v⟩
  · exact ⟨cs, by rw [Below.heap_setCell _ _ _ _ (Ne.symm e)]; exact h⟩
theorem Blk.drewN {g w} (h : Blk g w) (n : Nat) : Blk g (w.drewN n) := h
theorem Blk.lt {g w} (h : Blk g w) : g < w.heap.size := by obtain ⟨cs, h⟩ := h; exact Lib.lt_of_heap h

/-- The buffer for a token's head. -/
def TBuf (B g : Nat) (C : List UInt8) (w : World) : Prop :=
  ∃ v lr, w.cell? ⟨g, 1033, none⟩ = some v ∧ w.cell? ⟨g, 1034, none⟩ = some (.int .i64 0) ∧ w.cell? ⟨g, 1035, none⟩ = some (.int .i8 lr) ∧
    w.ownsRow B 5 1 v (Lib.byteCells C).length (Lib.byteCells C) ∧ v.ownBlock ≠ some g
theorem TBuf.buffer {B g C w} (h : TBuf B g C w) (hb : Blk g w) (hB : B ≤ g) : LibA.IsBuffer 97 (fun i => w.cell? ⟨g, i, none⟩) 5 B g 1033 (Lib.byteCells C) w := by
  obtain ⟨v, lr, h0, h1, h2, h3, h4⟩ := h
  obtain ⟨cs, hc⟩ := hb
  refine ⟨hB, v, lr, ⟨cs, hc, ?_, ?_, ?_, fun i _ => (Lib.cell_of_heap hc i).symm⟩, h3, h4⟩
  · rw [← Lib.cell_of_heap hc]; exact h0
  · rw [← Lib.cell_of_heap hc]; exact h1
  · rw [← Lib.cell_of_heap hc]; exact h2
theorem TBuf.of_buffer {B g C w R} (h : LibA.IsBuffer 97 R 5 B g 1033 (Lib.byteCells C) w) : TBuf B g C w ∧ Blk g w ∧ ∀ i, (i < 1033 ∨ 1036 ≤ i) → w.cell? ⟨g, i, none⟩ = R i := by
  obtain ⟨hB, v, lr, h3, h4, h5⟩ := h
  refine ⟨⟨v, lr, h3.c0, h3.c1, h3.c2, h4, h5⟩, ?_, fun i hi => h3.rest i (by omega)⟩
  obtain ⟨cs, hc, _⟩ := h3
  exact ⟨cs, hc⟩
theorem TBuf.drewN {B g C w} (h : TBuf B g C w) (n : Nat) : TBuf B g C (w.drewN n) := h
/-- A store into the scanner's block, not into the buffer. -/
theorem TBuf.set {B g C w} (h : TBuf B g C w) (i : Nat) (hi : i < 1033 ∨ 1036 ≤ i) (u : Value) : TBuf B g C (w.setCell ⟨g, i, none⟩ u) := by
  obtain ⟨v, lr, h0, h1, h2, h3, h4⟩ := h
  exact ⟨v, lr, by rw [cell_set_ne (by omega)]; exact h0, by rw [cell_set_ne (by omega)]; exact h1, by rw [cell_set_ne (by omega)]; exact h2, h3.kept (Lib.grownBy_setCell w g i _) (Or.inr h4), h4⟩

/-- What stands in the source behind the first n bytes that were read: the scanner's part of its memory that next() may turn. P: the place in the buffer; E: the buffer's end; D: how much of the source lay ahead of the buffer; tp: where the token's text begins in the buffer; C: the token's text that lay ahead of the buffer. -/
structure Scn (B g r : Nat) (s : ByteArray) (P E D : Nat) (tp : Int) (C : List UInt8) (lc : Int) (w : World) : Prop where
  le : P ≤ E
  lim : E ≤ 1024
  fit : D + E ≤ s.size
  lcr : 0 ≤ lc ∧ lc ≤ 4
  tpr : -1 ≤ tp ∧ tp ≤ P
  blk : Blk g w
  hB : B ≤ g
  ne : r ≠ g
  src : w.cell? ⟨g, 0, none⟩ = some (.iface 119 (.pointer (some ⟨r, 0, none⟩)))
  buf : ∀ j, j < E → ∃ h : D + j < s.size, w.cell? ⟨g, 1 + j, none⟩ = some (.int .u8 (s[D + j]'h).toNat)
  all : ∀ j, j < 1025 → ∃ z : Nat, z < 256 ∧ w.cell? ⟨g, 1 + j, none⟩ = some (.int .u8 z)
  sent : w.cell? ⟨g, 1 + E, none⟩ = some (.int .u8 128)
  cP : w.cell? ⟨g, 1026, none⟩ = some (.int .i64 P)
  cE : w.cell? ⟨g, 1027, none⟩ = some (.int .i64 E)
  cD : w.cell? ⟨g, 1028, none⟩ = some (.int .i64 D)
  cl : ∃ z, w.cell? ⟨g, 1029, none⟩ = some (.int .i64 z)
  cc : ∃ z, w.cell? ⟨g, 1030, none⟩ = some (.int .i64 z)
  cll : ∃ z, w.cell? ⟨g, 1031, none⟩ = some (.int .i64 z)
  clc : w.cell? ⟨g, 1032, none⟩ = some (.int .i64 lc)
  tb : TBuf B g C w
  ctp : w.cell? ⟨g, 1036, none⟩ = some (.int .i64 tp)
  rs : w.cell? ⟨r, 0, none⟩ = some (.string s)
  ri : w.cell? ⟨r, 1, none⟩ = some (.int .i64 ((D + E : Nat) : Int))
  rp : ∃ z, w.cell? ⟨r, 2, none⟩ = some (.int .i64 z)
  rfr : ∀ p, w.frozen? ⟨r, p, none⟩ = false
  rtag : ∃ cs, w.heap[r]? = some (.cells cs 129 (0, 0))
theorem Scn.fr {B g r s P E D tp C lc w} (h : Scn B g r s P E D tp C lc w) (p : Nat) : w.frozen? ⟨g, p, none⟩ = false := h.blk.fr p
theorem Scn.drewN {B g r s P E D tp C lc w} (h : Scn B g r s P E D tp C lc w) (n : Nat) : Scn B g r s P E D tp C lc (w.drewN n) :=
  ⟨h.le, h.lim, h.fit, h.lcr, h.tpr, h.blk, h.hB, h.ne, h.src, h.buf, h.all, h.sent, h.cP, h.cE, h.cD, h.cl, h.cc, h.cll, h.clc, h.tb, h.ctp, h.rs, h.ri, h.rp, h.rfr, h.rtag⟩
theorem Scn.drew' {B g r s P E D tp C lc w w'} (h : Scn B g r s P E D tp C lc w) (k : Drew w w') : Scn B g r s P E D tp C lc w' := by
  obtain ⟨n, rfl⟩ := k
  exact h.drewN n
theorem cell_other {w : World} {g r i j : Nat} {v : Value} (h : r ≠ g) : (w.setCell ⟨g, i, none⟩ v).cell? ⟨r, j, none⟩ = w.cell? ⟨r, j, none⟩ := by
  have : (⟨g, i, none⟩ : Addr) ≠ ⟨r, j, none⟩ := fun e => h (by injection e with e1; exact e1.symm)
  simp [go_sem, this]
theorem frozen_other {w : World} {g r i j : Nat} {v : Value} : (w.setCell ⟨g, i, none⟩ v).frozen? ⟨r, j, none⟩ = w.frozen? ⟨r, j, none⟩ := by
  simp [go_sem]
/-- One step forth in the buffer. -/
theorem Scn.setP {B g r s P E D tp C lc w} (h : Scn B g r s P E D tp C lc w) (Q : Nat) (hQ : Q ≤ E) (ht : tp ≤ Q) : Scn B g r s Q E D tp C lc (w.setCell ⟨g, 1026, none⟩ (.int .i64 Q)) := by
  have hl := h.lim
  have hle := h.le
  refine ⟨hQ, h.lim, h.fit, h.lcr, ⟨h.tpr.1, ht⟩, h.blk.set _ _ _, h.hB, h.ne, by rw [cell_set_ne (by omega)]; exact h.src, fun j hj => ?_, fun j hj => ?_, by rw [cell_set_ne (by omega)]; exact h.sent, cell_set_same h.cP, by rw [cell_set_ne (by omega)]; exact h.cE, by rw [cell_set_ne (by omega)]; exact h.cD,
    by rw [cell_set_ne (by omega)]; exact h.cl, by rw [cell_set_ne (by omega)]; exact h.cc, by rw [cell_set_ne (by omega)]; exact h.cll, by rw [cell_set_ne (by omega)]; exact h.clc, h.tb.set _ (by omega) _, by rw [cell_set_ne (by omega)]; exact h.ctp,
    by rw [cell_other h.ne]; exact h.rs, by rw [cell_other h.ne]; exact h.ri, by rw [cell_other h.ne]; exact h.rp, fun p => by rw [frozen_other]; exact h.rfr p, by obtain ⟨cs, hc⟩ := h.rtag; exact ⟨cs, by rw [Below.heap_setCell _ _ _ _ h.ne]; exact hc⟩⟩
  · rw [cell_set_ne (by omega)]; exact h.buf j hj
  · rw [cell_set_ne (by omega)]; exact h.all j hj
/-- The last character's length. -/
theorem Scn.setLc {B g r s P E D tp C lc w} (h : Scn B g r s P E D tp C lc w) (k : Int) (hk : 0 ≤ k ∧ k ≤ 4) : Scn B g r s P E D tp C k (w.setCell ⟨g, 1032, none⟩ (.int .i64 k)) := by
  have hl := h.lim
  have hle := h.le
  refine ⟨h.le, h.lim, h.fit, hk, h.tpr, h.blk.set _ _ _, h.hB, h.ne, by rw [cell_set_ne (by omega)]; exact h.src, fun j hj => ?_, fun j hj => ?_, by rw [cell_set_ne (by omega)]; exact h.sent, by rw [cell_set_ne (by omega)]; exact h.cP, by rw [cell_set_ne (by omega)]; exact h.cE, by rw [cell_set_ne (by omega)]; exact h.cD,
    by rw [cell_set_ne (by omega)]; exact h.cl, by rw [cell_set_ne (by omega)]; exact h.cc, by rw [cell_set_ne (by omega)]; exact h.cll, cell_set_same h.clc, h.tb.set _ (by omega) _, by rw [cell_set_ne (by omega)]; exact h.ctp,
    by rw [cell_other h.ne]; exact h.rs, by rw [cell_other h.ne]; exact h.ri, by rw [cell_other h.ne]; exact h.rp, fun p => by rw [frozen_other]; exact h.rfr p, by obtain ⟨cs, hc⟩ := h.rtag; exact ⟨cs, by rw [Below.heap_setCell _ _ _ _ h.ne]; exact hc⟩⟩
  · rw [cell_set_ne (by omega)]; exact h.buf j hj
  · rw [cell_set_ne (by omega)]; exact h.all j hj
/-- The token's beginning. -/
theorem Scn.setTp {B g r s P E D tp C lc w} (h : Scn B g r s P E D tp C lc w) (t : Int) (ht : -1 ≤ t ∧ t ≤ P) : Scn B g r s P E D t C lc (w.setCell ⟨g, 1036, none⟩ (.int .i64 t)) := by
  have hl := h.lim
  have hle := h.le
  refine ⟨h.le, h.lim, h.fit, h.lcr, ht, h.blk.set _ _ _, h.hB, h.ne, by rw [cell_set_ne (by omega)]; exact h.src, fun j hj => ?_, fun j hj => ?_, by rw [cell_set_ne (by omega)]; exact h.sent, by rw [cell_set_ne (by omega)]; exact h.cP, by rw [cell_set_ne (by omega)]; exact h.cE, by rw [cell_set_ne (by omega)]; exact h.cD,
    by rw [cell_set_ne (by omega)]; exact h.cl, by rw [cell_set_ne (by omega)]; exact h.cc, by rw [cell_set_ne (by omega)]; exact h.cll, by rw [cell_set_ne (by omega)]; exact h.clc, h.tb.set _ (by omega) _, cell_set_same h.ctp,
    by rw [cell_other h.ne]; exact h.rs, by rw [cell_other h.ne]; exact h.ri, by rw [cell_other h.ne]; exact h.rp, fun p => by rw [frozen_other]; exact h.rfr p, by obtain ⟨cs, hc⟩ := h.rtag; exact ⟨cs, by rw [Below.heap_setCell _ _ _ _ h.ne]; exact hc⟩⟩
  · rw [cell_set_ne (by omega)]; exact h.buf j hj
  · rw [cell_set_ne (by omega)]; exact h.all j hj
/-- A count. -/
theorem Scn.setLine {B g r s P E D tp C lc w} (h : Scn B g r s P E D tp C lc w) (z : Int) : Scn B g r s P E D tp C lc (w.setCell ⟨g, 1029, none⟩ (.int .i64 z)) := by
  have hl := h.lim
  have hle := h.le
  refine ⟨h.le, h.lim, h.fit, h.lcr, h.tpr, h.blk.set _ _ _, h.hB, h.ne, by rw [cell_set_ne (by omega)]; exact h.src, fun j hj => ?_, fun j hj => ?_, by rw [cell_set_ne (by omega)]; exact h.sent, by rw [cell_set_ne (by omega)]; exact h.cP, by rw [cell_set_ne (by omega)]; exact h.cE, by rw [cell_set_ne (by omega)]; exact h.cD,
    by obtain ⟨y, hy⟩ := h.cl; exact ⟨z, cell_set_same hy⟩, by rw [cell_set_ne (by omega)]; exact h.cc, by rw [cell_set_ne (by omega)]; exact h.cll, by rw [cell_set_ne (by omega)]; exact h.clc, h.tb.set _ (by omega) _, by rw [cell_set_ne (by omega)]; exact h.ctp,
    by rw [cell_other h.ne]; exact h.rs, by rw [cell_other h.ne]; exact h.ri, by rw [cell_other h.ne]; exact h.rp, fun p => by rw [frozen_other]; exact h.rfr p, by obtain ⟨cs, hc⟩ := h.rtag; exact ⟨cs, by rw [Below.heap_setCell _ _ _ _ h.ne]; exact hc⟩⟩
  · rw [cell_set_ne (by omega)]; exact h.buf j hj
  · rw [cell_set_ne (by omega)]; exact h.all j hj
/-- A count. -/
theorem Scn.setCol {B g r s P E D tp C lc w} (h : Scn B g r s P E D tp C lc w) (z : Int) : Scn B g r s P E D tp C lc (w.setCell ⟨g, 1030, none⟩ (.int .i64 z)) := by
  have hl := h.lim
  have hle := h.le
  refine ⟨h.le, h.lim, h.fit, h.lcr, h.tpr, h.blk.set _ _ _, h.hB, h.ne, by rw [cell_set_ne (by omega)]; exact h.src, fun j hj => ?_, fun j hj => ?_, by rw [cell_set_ne (by omega)]; exact h.sent, by rw [cell_set_ne (by omega)]; exact h.cP, by rw [cell_set_ne (by omega)]; exact h.cE, by rw [cell_set_ne (by omega)]; exact h.cD,
    by rw [cell_set_ne (by omega)]; exact h.cl, by obtain ⟨y, hy⟩ := h.cc; exact ⟨z, cell_set_same hy⟩, by rw [cell_set_ne (by omega)]; exact h.cll, by rw [cell_set_ne (by omega)]; exact h.clc, h.tb.set _ (by omega) _, by rw [cell_set_ne (by omega)]; exact h.ctp,
    by rw [cell_other h.ne]; exact h.rs, by rw [cell_other h.ne]; exact h.ri, by rw [cell_other h.ne]; exact h.rp, fun p => by rw [frozen_other]; exact h.rfr p, by obtain ⟨cs, hc⟩ := h.rtag; exact ⟨cs, by rw [Below.heap_setCell _ _ _ _ h.ne]; exact hc⟩⟩
  · rw [cell_set_ne (by omega)]; exact h.buf j hj
  · rw [cell_set_ne (by omega)]; exact h.all j hj
/-- A count. -/
theorem Scn.setLast {B g r s P E D tp C lc w} (h : Scn B g r s P E D tp C lc w) (z : Int) : Scn B g r s P E D tp C lc (w.setCell ⟨g, 1031, none⟩ (.int .i64 z)) := by
  have hl := h.lim
  have hle := h.le
  refine ⟨h.le, h.lim, h.fit, h.lcr, h.tpr, h.blk.set _ _ _, h.hB, h.ne, by rw [cell_set_ne (by omega)]; exact h.src, fun j hj => ?_, fun j hj => ?_, by rw [cell_set_ne (by omega)]; exact h.sent, by rw [cell_set_ne (by omega)]; exact h.cP, by rw [cell_set_ne (by omega)]; exact h.cE, by rw [cell_set_ne (by omega)]; exact h.cD,
    by rw [cell_set_ne (by omega)]; exact h.cl, by rw [cell_set_ne (by omega)]; exact h.cc, by obtain ⟨y, hy⟩ := h.cll; exact ⟨z, cell_set_same hy⟩, by rw [cell_set_ne (by omega)]; exact h.clc, h.tb.set _ (by omega) _, by rw [cell_set_ne (by omega)]; exact h.ctp,
    by rw [cell_other h.ne]; exact h.rs, by rw [cell_other h.ne]; exact h.ri, by rw [cell_other h.ne]; exact h.rp, fun p => by rw [frozen_other]; exact h.rfr p, by obtain ⟨cs, hc⟩ := h.rtag; exact ⟨cs, by rw [Below.heap_setCell _ _ _ _ h.ne]; exact hc⟩⟩
  · rw [cell_set_ne (by omega)]; exact h.buf j hj
  · rw [cell_set_ne (by omega)]; exact h.all j hj
/-- A cell of the scanner's that next() does not look at. -/
theorem Scn.setFree {B g r s P E D tp C lc w} (h : Scn B g r s P E D tp C lc w) (i : Nat) (hi : 1037 ≤ i) (v : Value) : Scn B g r s P E D tp C lc (w.setCell ⟨g, i, none⟩ v) := by
  have hl := h.lim
  have hle := h.le
  refine ⟨h.le, h.lim, h.fit, h.lcr, h.tpr, h.blk.set _ _ _, h.hB, h.ne, by rw [cell_set_ne (by omega)]; exact h.src, fun j hj => ?_, fun j hj => ?_, by rw [cell_set_ne (by omega)]; exact h.sent, by rw [cell_set_ne (by omega)]; exact h.cP, by rw [cell_set_ne (by omega)]; exact h.cE, by rw [cell_set_ne (by omega)]; exact h.cD,
    by rw [cell_set_ne (by omega)]; exact h.cl, by rw [cell_set_ne (by omega)]; exact h.cc, by rw [cell_set_ne (by omega)]; exact h.cll, by rw [cell_set_ne (by omega)]; exact h.clc, h.tb.set _ (by omega) _, by rw [cell_set_ne (by omega)]; exact h.ctp,
    by rw [cell_other h.ne]; exact h.rs, by rw [cell_other h.ne]; exact h.ri, by rw [cell_other h.ne]; exact h.rp, fun p => by rw [frozen_other]; exact h.rfr p, by obtain ⟨cs, hc⟩ := h.rtag; exact ⟨cs, by rw [Below.heap_setCell _ _ _ _ h.ne]; exact hc⟩⟩
  · rw [cell_set_ne (by omega)]; exact h.buf j hj
  · rw [cell_set_ne (by omega)]; exact h.all j hj
end Go.Proofs.YthplmbgdcfmkgaaGreatDoor
/- strings.Reader.Read, utf8.FullRune. -/
namespace Go.Proofs.YthplmbgdcfmkgaaGreatDoor
open Go.RowKit

theorem run_copy_string (w : World) (ty : TypeId) (g o dLen dCap : Nat) (s : ByteArray) (cur : Array Value) (t : TypeId) (cs : List Value)
    (hg : w.heap[g]? = some (.cells cur t (0, 0))) (hcs : cs = Lib.byteCells (s.data.toList.take dLen)) (hfit : o + cs.length ≤ cur.size) :
    (Builtin.copy_ #[81, 9] ty #[.slice (some ⟨g, o, none⟩) dLen dCap, .string s]).run Tryz.prog w =
      .ok (goInt cs.length) (w.setRow g (cur.toList.take o ++ cs ++ cur.toList.drop (o + cs.length)).toArray) := by
  have h1 : ∀ v ∈ cs, v.oneCell' = true := by
    intro v hv
    rw [hcs, Lib.byteCells, List.mem_map] at hv
    obtain ⟨b, _, rfl⟩ := hv
    rfl
  have hst := run_storeCells_at Tryz.prog g o t cs 0 cur w hg (by simpa using hfit) h1
  have hu : Tryz.prog.underlying 81 = some (.slice 5) := by kernel_rfl
  have hsz : (Tryz.prog.info? 5).map (·.size) = some 1 := by kernel_rfl
  cases hq : Tryz.prog.info? 5 with
  | none => simp [hq] at hsz
  | some i =>
    have hi : i.size = 1 := by simpa [hq] using hsz
    simp [Builtin.copy_, run_underlying hu, Builtin.lenOf, Builtin.firstCells, sizeOf, typeInfo, hq, hi]
    have e1 : List.take (s.size.min dLen) (List.map (fun b => Value.int IntKind.u8 ↑b.toNat) s.data.toList) = cs := by
      rw [hcs, Lib.byteCells, ← List.map_take]
      refine congrArg (List.map fun b : UInt8 => Value.int IntKind.u8 (b.toNat : Int)) ?_
      rw [List.take_eq_take_iff]
      show min (min s.size dLen) s.data.toList.length = min dLen s.data.toList.length
      have : s.data.toList.length = s.size := by simp
      omega
    have e2 : s.size.min dLen = cs.length := by
      rw [hcs, Lib.byteCells_length, List.length_take]
      have : s.data.toList.length = s.size := by simp
      show min s.size dLen = _
      omega
    rw [e1, hst, e2]
    simp [Result.andThen]

/-- Only blocks g and r may have turned. -/
structure Only2 (g r : Nat) (w w' : World) : Prop where
  os : w'.os = w.os
  tape : w'.tape = w.tape
  output : w'.output = w.output
  size : w'.heap.size = w.heap.size
  block : ∀ k, k ≠ g → k ≠ r → w'.heap[k]? = w.heap[k]?

/-- io.EOF. -/
def EofAt (B : Nat) (w : World) : Prop := ∃ q o, w.cell? ⟨2, 0, none⟩ = some (.iface 202 (.pointer (some ⟨q, o, none⟩))) ∧ q < B ∧ 16 ≤ B
theorem EofAt.below {B w w'} (h : EofAt B w) (k : Below B w w') : EofAt B w' := by
  obtain ⟨q, o, h1, h2, h3⟩ := h
  exact ⟨q, o, by rw [k.cell (show 2 < B by omega)]; exact h1, h2, h3⟩

set_option maxRecDepth 100000 in
set_option maxHeartbeats 1000000 in
theorem read_end (s : ByteArray) (g r : Nat) (i : Nat) (cap : Nat) (w : World) (hs : s.size ≤ 3000) (hi : s.size ≤ i) (hi2 : i ≤ 4000) (q o : Nat)
    (h2 : w.cell? ⟨2, 0, none⟩ = some (.iface 202 (.pointer (some ⟨q, o, none⟩)))) (rs : w.cell? ⟨r, 0, none⟩ = some (.string s)) (ri : w.cell? ⟨r, 1, none⟩ = some (.int .i64 (i : Int))) :
    Calls Tryz.prog 182 #[.pointer (some ⟨r, 0, none⟩), .slice (some ⟨g, 1, none⟩) 1024 cap] w fun e w' => e = .returned (.tuple #[.int .i64 0, .iface 202 (.pointer (some ⟨q, o, none⟩))]) ∧ Drew w w' := by
  have hge : ((s.size : Int) ≤ (i : Int)) := by omega
  go_enter Tryz.func182, Tryz.ntmps182
  go_wp2
  go_quiet (fail)
  go_wp2
  go_quiet (fail)
  go_wp2
  go_ret2
  exact ⟨rfl, Drew.drewN ⟨_, rfl⟩ _⟩

structure ReadPost (g r : Nat) (s : ByteArray) (i N : Nat) (w w' : World) : Prop where
  only : Only2 g r w w'
  blk : Blk g w'
  new : ∀ j, j < N → ∃ h : i + j < s.size, w'.cell? ⟨g, 1 + j, none⟩ = some (.int .u8 (s[i + j]'h).toNat)
  old : ∀ p, (p < 1 ∨ 1 + N ≤ p) → w'.cell? ⟨g, p, none⟩ = w.cell? ⟨g, p, none⟩
  rs : w'.cell? ⟨r, 0, none⟩ = some (.string s)
  ri : w'.cell? ⟨r, 1, none⟩ = some (.int .i64 ((i + N : Nat) : Int))
  rp : w'.cell? ⟨r, 2, none⟩ = some (.int .i64 (-1))
  rfr : ∀ p, w'.frozen? ⟨r, p, none⟩ = false
  rtag : ∃ cs, w'.heap[r]? = some (.cells cs 129 (0, 0))
theorem mid_new {α : Type} (A M D : List α) (k j : Nat) (hA : A.length = k) (hj : j < M.length) : (A ++ M ++ D)[k + j]? = M[j]? := by
  rw [List.append_assoc, List.getElem?_append_right (by omega), List.getElem?_append_left (by omega)]
  congr 1
  omega
theorem mid_low {α : Type} (L M : List α) (k p : Nat) (hk : k ≤ L.length) (hp : p < k) : (L.take k ++ M ++ L.drop (k + M.length))[p]? = L[p]? := by
  rw [List.append_assoc, List.getElem?_append_left (by rw [List.length_take]; omega), List.getElem?_take, if_pos hp]
theorem mid_high {α : Type} (L M : List α) (k p : Nat) (hk : k + M.length ≤ L.length) (hp : k + M.length ≤ p) : (L.take k ++ M ++ L.drop (k + M.length))[p]? = L[p]? := by
  rw [List.getElem?_append_right (by rw [List.length_append, List.length_take]; omega), List.getElem?_drop]
  congr 1
  rw [List.length_append, List.length_take]
  omega
theorem extract_get (s : ByteArray) (i j n : Nat) (h : i + j < s.size) (hj : j < n) : ((s.extract i s.size).data.toList.take n)[j]? = some (s[i + j]'h) := by
  rw [List.getElem?_take, if_pos hj]
  have e : (s.extract i s.size).data.toList[j]? = (s.extract i s.size).data[j]? := Array.getElem?_toList
  rw [e]
  have hl : j < (s.extract i s.size).size := by rw [ByteArray.size_extract]; omega
  have e2 : (s.extract i s.size).data[j]? = some ((s.extract i s.size)[j]'hl) := Array.getElem?_eq_getElem hl
  rw [e2, ByteArray.getElem_extract]
theorem read_post {s : ByteArray} {g r i nq : Nat} {w W1 W2 : World} (hne : r ≠ g) (cur : Array Value) (hcur : w.heap[g]? = some (.cells cur 97 (0, 0))) (hsz : 1025 ≤ cur.size) (N : Nat) (hN : min 1024 (s.size - i) = N)
    (hs : s.size ≤ 3000) (hi : i < s.size) (rfr : ∀ p, w.frozen? ⟨r, p, none⟩ = false) (H1 : W1 = (w.drewN nq).setCell ⟨r, 2, none⟩ (.int .i64 (-1)))
    (H2 : W2 = W1.drew.setRow g (cur.toList.take 1 ++ Lib.byteCells ((s.extract i s.size).data.toList.take 1024) ++ cur.toList.drop (1 + (Lib.byteCells ((s.extract i s.size).data.toList.take 1024)).length)).toArray)
    (rs : w.cell? ⟨r, 0, none⟩ = some (.string s)) (ri : w.cell? ⟨r, 1, none⟩ = some (.int .i64 (i : Int))) (rp : ∃ z, w.cell? ⟨r, 2, none⟩ = some (.int .i64 z)) (rtag : ∃ cs, w.heap[r]? = some (.cells cs 129 (0, 0))) :
    ReadPost g r s i N w (W2.setCell ⟨r, 1, none⟩ (.int .i64 (i + N))) := by
  obtain ⟨M, hM⟩ : ∃ M, M = Lib.byteCells ((s.extract i s.size).data.toList.take 1024) := ⟨_, rfl⟩
  have hMl : M.length = N := by
    rw [hM, Lib.byteCells_length, List.length_take]
    have : (s.extract i s.size).data.toList.length = s.size - i := by simp
    omega
  have hMg : ∀ j, j < N → ∃ h : i + j < s.size, M[j]? = some (.int .u8 (s[i + j]'h).toNat) := by
    intro j hj
    have h : i + j < s.size := by omega
    refine ⟨h, ?_⟩
    rw [hM, Lib.byteCells, List.getElem?_map, extract_get s i j 1024 h (by omega)]
    rfl
  rw [← hM] at H2
  have hcl : cur.toList.length = cur.size := Array.length_toList
  have hg1 : W1.drew.heap[g]? = some (.cells cur 97 (0, 0)) := by
    show W1.heap[g]? = _
    rw [H1, Below.heap_setCell _ _ _ _ (Ne.symm hne)]; exact hcur
  have hg2 : (W2.setCell ⟨r, 1, none⟩ (.int .i64 (i + N))).heap[g]? = some (.cells (cur.toList.take 1 ++ M ++ cur.toList.drop (1 + M.length)).toArray 97 (0, 0)) := by
    rw [Below.heap_setCell _ _ _ _ (Ne.symm hne), H2]
    exact setRow_heap _ _ _ _ _ _ hg1
  have hr2 : W2.heap[r]? = W1.heap[r]? := by
    rw [H2]
    exact setRow_other W1.drew g r _ hne
  have c1 : W2.cell? ⟨r, 1, none⟩ = some (.int .i64 (i : Int)) := by
    rw [World.cell?_of_block (w := W1) hr2, H1, cell_set_ne (by omega)]; exact ri
  refine ⟨⟨?_, ?_, ?_, ?_, ?_⟩, ⟨_, hg2⟩, ?_, ?_, ?_, cell_set_same c1, ?_, ?_, ?_⟩
  · rw [H2, H1]; rfl
  · rw [H2, H1]; rfl
  · rw [H2, H1]; rfl
  · rw [H2, H1]; simp [World.setCell, World.setRow, World.drew, World.drewN]
  · intro k hk1 hk2
    rw [Below.heap_setCell _ _ _ _ hk2, H2]
    refine (setRow_other W1.drew g k _ hk1).trans ?_
    show W1.heap[k]? = _
    rw [H1, Below.heap_setCell _ _ _ _ hk2]
    rfl
  · intro j hj
    obtain ⟨h, e⟩ := hMg j hj
    refine ⟨h, ?_⟩
    rw [Lib.cell_of_heap hg2, List.getElem?_toArray, mid_new _ _ _ 1 j (by rw [List.length_take]; omega) (by omega), e]
  · intro p hp
    rw [Lib.cell_of_heap hg2, Lib.cell_of_heap hcur, List.getElem?_toArray, ← Array.getElem?_toList]
    rcases hp with hp | hp
    · exact mid_low _ _ _ _ (by omega) hp
    · exact mid_high _ _ _ _ (by omega) (by omega)
  · rw [cell_set_ne (by omega), World.cell?_of_block (w := W1) hr2, H1, cell_set_ne (by omega)]; exact rs
  · obtain ⟨z, rp⟩ := rp
    rw [cell_set_ne (by omega), World.cell?_of_block (w := W1) hr2, H1]
    exact cell_set_same (w := w.drewN nq) rp
  · intro p
    rw [frozen_set, World.frozen?_of_block (w := W1) hr2, H1, frozen_set]
    exact rfr p
  · obtain ⟨cs, hc⟩ := rtag
    have h1 : W1.heap[r]? = some (.cells (cs.setIfInBounds 2 (.int .i64 (-1))) 129 (0, 0)) := by rw [H1]; exact Lib.heap_setCell_same (w := w.drewN nq) (i := 2) hc _
    exact ⟨_, Lib.heap_setCell_same (i := 1) (hr2.trans h1) _⟩

set_option maxRecDepth 100000 in
set_option maxHeartbeats 1000000 in
theorem read_some (s : ByteArray) (g r : Nat) (i : Nat) (cap : Nat) (z : Int) (w : World) (hs : s.size ≤ 3000) (hi : i < s.size) (hne : r ≠ g) (cur : Array Value) (hcur : w.heap[g]? = some (.cells cur 97 (0, 0))) (hsz : 1025 ≤ cur.size) (N : Nat) (hN : min 1024 (s.size - i) = N)
    (rs : w.cell? ⟨r, 0, none⟩ = some (.string s)) (ri : w.cell? ⟨r, 1, none⟩ = some (.int .i64 (i : Int))) (rp : w.cell? ⟨r, 2, none⟩ = some (.int .i64 z)) (rfr : ∀ p, w.frozen? ⟨r, p, none⟩ = false) (rtag : ∃ cs, w.heap[r]? = some (.cells cs 129 (0, 0))) :
    Calls Tryz.prog 182 #[.pointer (some ⟨r, 0, none⟩), .slice (some ⟨g, 1, none⟩) 1024 cap] w fun e w' => e = .returned (.tuple #[.int .i64 (N : Int), .nilIface]) ∧ ReadPost g r s i N w w' := by
  have hge : ¬ ((s.size : Int) ≤ (i : Int)) := by omega
  have RS := Lib.hid rs
  have RP := Lib.hid rp
  have RI := Lib.hid ri
  have RT := Lib.hid rtag
  have f1 := rfr 1
  have f2 := rfr 2
  go_enter Tryz.func182, Tryz.ntmps182
  go_wp2
  go_quiet (fail)
  go_upto_region 4 with fail
  obtain ⟨W1, hW1⟩ : ∃ W1, W1 = (w.drewN nq).setCell ⟨r, 2, none⟩ (.int .i64 (-1)) := ⟨_, rfl⟩
  rw [← hW1]
  have hbW : W1.heap[g]? = some (.cells cur 97 (0, 0)) := by rw [hW1, Below.heap_setCell _ _ _ _ (Ne.symm hne)]; exact hcur
  have q0 : W1.cell? ⟨r, 0, none⟩ = some (.string s) := by rw [hW1, cell_set_ne (by omega)]; exact rs
  have q1 : W1.cell? ⟨r, 1, none⟩ = some (.int .i64 (i : Int)) := by rw [hW1, cell_set_ne (by omega)]; exact ri
  obtain ⟨W2, hW2⟩ : ∃ W2, W2 = W1.drew.setRow g (cur.toList.take 1 ++ Lib.byteCells ((s.extract i s.size).data.toList.take 1024) ++ cur.toList.drop (1 + (Lib.byteCells ((s.extract i s.size).data.toList.take 1024)).length)).toArray := ⟨_, rfl⟩
  have hlen : (Lib.byteCells ((s.extract i s.size).data.toList.take 1024)).length = min 1024 (s.size - i) := by
    rw [Lib.byteCells_length, List.length_take]
    have : (s.extract i s.size).data.toList.length = s.size - i := by simp
    omega
  have hcp : ∀ ty, (Builtin.copy_ #[81, 9] ty #[.slice (some ⟨g, 1, none⟩) 1024 cap, .string (s.extract i s.size)]).run Tryz.prog W1.drew = .ok (.int .i64 (N : Int)) W2 := by
    intro ty
    rw [run_copy_string W1.drew ty g 1 1024 cap (s.extract i s.size) cur 97 _ hbW rfl (by rw [hlen]; omega), hW2]
    rw [hlen, hN]
    rfl
  have q2 : W2.cell? ⟨r, 1, none⟩ = some (.int .i64 (i : Int)) := by
    rw [hW2]
    exact (World.cell?_of_block (w := W1) (setRow_other W1.drew g r _ hne)).trans q1
  have q3 : W2.frozen? ⟨r, 1, none⟩ = false := by
    rw [hW2]
    refine (World.frozen?_of_block (w := W1) (setRow_other W1.drew g r _ hne)).trans ?_
    rw [hW1, frozen_set]
    exact f1
  have H1 := Lib.hid hW1
  have H2 := Lib.hid hW2
  clear hW1 hW2 rs ri rp f1 f2 hbW hlen
  go_region
  go_wp2
  go_ret2
  exact ⟨rfl, read_post hne cur hcur hsz N hN hs hi rfr H1.out H2.out RS RI ⟨_, RP⟩ RT⟩
end Go.Proofs.YthplmbgdcfmkgaaGreatDoor
/- utf8.FullRune; Buffer.Write of the scanner's own bytes. -/
namespace Go.Proofs.YthplmbgdcfmkgaaGreatDoor
open Go.RowKit

def FirstAt (B : Nat) (w : World) : Prop := 16 ≤ B ∧ ∀ c : Nat, c < 128 → w.cell? ⟨3, c, none⟩ = some (.int .u8 240)
theorem FirstAt.below {B w w'} (h : FirstAt B w) (k : Below B w w') : FirstAt B w' := ⟨h.1, fun c hc => by rw [k.cell (show 3 < B by have := h.1; omega)]; exact h.2 c hc⟩
theorem full_none (a : Option Addr) (cap : Nat) (w : World) : Calls Tryz.prog 86 #[.slice a 0 cap] w fun e w' => e = .returned (.bool false) ∧ w' = w := by
  go_enter Tryz.func86, Tryz.ntmps86
  go_wp2
  go_ret
  exact ⟨rfl, rfl⟩
set_option maxRecDepth 100000 in
theorem full_ascii (B : Nat) (b o n cap c : Nat) (w : World) (hn : 0 < n) (hn2 : n ≤ 5000) (hc : w.cell? ⟨b, o, none⟩ = some (.int .u8 (c : Int))) (hc2 : c < 128) (hf : FirstAt B w) :
    Calls Tryz.prog 86 #[.slice (some ⟨b, o, none⟩) n cap] w fun e w' => e = .returned (.bool true) ∧ w' = w := by
  have h3 := hf.2 c hc2
  have hz : ((n : Int) == 0) = false := by rw [beq_eq_false_iff_ne]; omega
  have hb : bits .and .u8 240 7 = 0 := by decide
  have hn' : (0 : Int) < n := by omega
  clear hf
  go_enter Tryz.func86, Tryz.ntmps86
  go_wp2
  go_ret
  exact ⟨rfl, rfl⟩
end Go.Proofs.YthplmbgdcfmkgaaGreatDoor
/- Buffer.Write of bytes that lie in the buffer's own block. -/
namespace Go.Proofs.YthplmbgdcfmkgaaGreatDoor
open Go.RowKit

theorem byteCells_append (a b : List UInt8) : Lib.byteCells (a ++ b) = Lib.byteCells a ++ Lib.byteCells b := by simp [Lib.byteCells]
theorem byteCells_one (l : List UInt8) : ∀ v ∈ Lib.byteCells l, v.oneCell' = true := by
  intro v hv
  rw [Lib.byteCells, List.mem_map] at hv
  obtain ⟨b, _, rfl⟩ := hv
  rfl

/-- What Write does to the world. -/
def WrPost (R : Nat → Option Value) (B b : Nat) (C D : List UInt8) (w w' : World) : Prop :=
  LibA.IsBuffer 97 R 5 B b 1033 (Lib.byteCells (C ++ D)) w' ∧ Below B w w' ∧ Lib.OthersKept 5 (some b) w w'

/-- The copy at the end. -/
theorem wr_copy {R : Nat → Option Value} {B b : Nat} {C D : List UInt8} {o n cap : Nat} {w W1 : World} {xs : List Value} (hn : D.length = n) (ho : o + n ≤ 1033) (hne : 0 < n ∨ C ≠ [])
    (hsrc : ∀ j, j < n → ∃ h : j < D.length, R (o + j) = some (.int .u8 (D[j]'h).toNat)) (hxl : xs.length = n) (hI : LibA.IsBuffer 97 R 5 B b 1033 (Lib.byteCells C ++ xs) W1)
    (hbel : Below B w W1) (hk : Lib.OthersKept 5 (some b) w W1) (hlim : C.length + n ≤ 100000) :
    ∃ g cp W2, W1.cell? ⟨b, 1033, none⟩ = some (.slice (some ⟨g, 0, none⟩) (C.length + n) cp) ∧ C.length + n ≤ cp ∧ cp ≤ maxLen ∧
      (∀ ty c2, (Builtin.copy_ #[81, 81] ty #[.slice (some ⟨g, C.length, none⟩) n c2, .slice (some ⟨b, o, none⟩) n cap]).run Tryz.prog W1 = .ok (.int .i64 (n : Int)) W2) ∧ WrPost R B b C D w W2 := by
  obtain ⟨hB, lr, hc⟩ := hI.cases
  have hCl : (Lib.byteCells C).length = C.length := Lib.byteCells_length C
  rcases hc with ⟨hb0, _⟩ | ⟨g, cp, cur, hbk, hBg, hg, hnc, hcm, hcs, htk, hgb⟩
  · exfalso
    have h1 := congrArg List.length hb0
    rw [List.length_append, hCl, hxl, List.length_nil] at h1
    rcases hne with h | h
    · omega
    · exact h (List.eq_nil_of_length_eq_zero (by omega))
  · rw [List.length_append, hCl, hxl] at hbk hnc
    have hDl : (Lib.byteCells D).length = n := by rw [Lib.byteCells_length, hn]
    have hcl : cur.toList.length = cur.size := Array.length_toList
    have hsz1 : (Tryz.prog.info? 5).map (·.size) = some 1 := by kernel_rfl
    have hu : Tryz.prog.underlying 81 = some (.slice 5) := by kernel_rfl
    refine ⟨g, cp, W1.setRow g (cur.toList.take C.length ++ Lib.byteCells D ++ cur.toList.drop (C.length + (Lib.byteCells D).length)).toArray, hbk.c0, hnc, hcm, ?_, ?_⟩
    · intro ty c2
      have := run_copy_row (P := Tryz.prog) W1 81 81 ty 5 g C.length n c2 ⟨b, o, none⟩ n cap cur 5 (Lib.byteCells D) hu hsz1 hg (by rw [hDl]; exact (Nat.min_self n).symm) ?_ (by rw [hDl, hcs]; exact hnc) (byteCells_one D)
      · rw [this, hDl]; rfl
      · intro j v hj
        have hjn : j < n := by rw [← hDl]; exact (List.getElem?_eq_some_iff.1 hj).1
        obtain ⟨h, e⟩ := hsrc j hjn
        have e2 : W1.cell? ⟨b, o + j, none⟩ = R (o + j) := hbk.rest (o + j) (by omega)
        rw [Lib.byteCells, List.getElem?_map, List.getElem?_eq_getElem h] at hj
        have hj := Option.some.inj hj
        subst hj
        have ea : (⟨b, o, none⟩ : Addr).add j = ⟨b, o + j, none⟩ := by simp [Addr.add]
        rw [ea, e2, e]
    · have hbk' : LibA.Three W1 b 1033 97 R (.slice (some ⟨g, 0, none⟩) (C.length + (Lib.byteCells D).length) cp) (.int .i64 0) (.int .i8 lr) := by rw [hDl]; exact hbk
      have hw := LibA.written_end (news := Lib.byteCells D) hB hbk' hBg hg hcm hcs hgb (by rw [hDl]; exact hnc)
      have htC : cur.toList.take C.length = Lib.byteCells C := by
        have h2 := congrArg (List.take C.length) htk
        rw [List.take_take, List.length_append, hCl, hxl, Nat.min_eq_left (by omega), List.take_append_of_le_length (by rw [hCl]; exact Nat.le_refl _), List.take_of_length_le (l := Lib.byteCells C) (by rw [hCl]; exact Nat.le_refl _)] at h2
        exact h2
      rw [htC] at hw ⊢
      rw [WrPost, byteCells_append]
      refine ⟨hw.1, hbel.trans hw.2, ?_⟩
      intro k ob hk1 hk2 hk3
      have h3 := hk k ob hk1 hk2 hk3
      by_cases e : k = g
      · subst e
        rw [hg] at h3
        exact absurd (Option.some.inj h3).symm (hk3 _ _)
      · rw [setRow_other _ _ _ _ e]; exact h3

set_option maxHeartbeats 2000000 in
set_option maxRecDepth 100000 in
theorem write_own (R : Nat → Option Value) (B b : Nat) (C D : List UInt8) (o n cap : Nat) (w : World) (h : LibA.IsBuffer 97 R 5 B b 1033 (Lib.byteCells C) w) (hBw : B ≤ w.heap.size) (hn : D.length = n) (ho : o + n ≤ 1033) (hne : 0 < n ∨ C ≠ [])
    (hsrc : ∀ j, j < n → ∃ h : j < D.length, R (o + j) = some (.int .u8 (D[j]'h).toNat)) (hlim : C.length + n ≤ 100000) :
    Calls Tryz.prog 81 #[.pointer (some ⟨b, 1033, none⟩), .slice (some ⟨b, o, none⟩) n cap] w fun e w' => e = .returned (.tuple #[.int .i64 (n : Int), .nilIface]) ∧ WrPost R B b C D w w' := by
  obtain ⟨hB, v0, lr, hbk, -, -⟩ := id h
  have c2 : w.cell? ⟨b, 1035, none⟩ = some (.int .i8 lr) := hbk.c2
  have f2 : w.frozen? ⟨b, 1035, none⟩ = false := hbk.f 1035
  obtain ⟨W0, hW0⟩ : ∃ W0, W0 = w.setCell ⟨b, 1035, none⟩ (.int .i8 0) := ⟨_, rfl⟩
  have h0 : LibA.IsBuffer 97 R 5 B b 1033 (Lib.byteCells C) W0 := by rw [hW0]; exact h.setLast 0
  have hb0 : Below B w W0 := by rw [hW0]; exact (Below.refl B w).setCell (p := ⟨b, 1035, none⟩) hB _
  have hk0 : Lib.OthersKept 5 (some b) w W0 := by rw [hW0]; exact (Lib.OthersKept.refl _ _ w).setCell ⟨b, 1035, none⟩ rfl _
  have hsz0 : B ≤ W0.heap.size := by rw [hW0]; simpa [World.setCell] using hBw
  have HW := Lib.hid hW0
  have H0 := Lib.hid h0
  have HB0 := Lib.hid hb0
  have HK0 := Lib.hid hk0
  have HS := Lib.hid hsrc
  have HL : (Lib.byteCells C).length = C.length := Lib.byteCells_length C
  clear hbk h hW0 h0 hb0 hk0 hsrc
  go_enter Tryz.func81, Tryz.ntmps81
  go_wp2_with fail
  rw [← HW.out]
  refine (Tryz.Buffer_tryGrow_at 97 R B b 1033 n (Lib.byteCells C) W0 H0.out).mono ?_
  by_cases hn0 : n = 0
  · subst hn0
    rintro e W1 (⟨rfl, xs, hxl, hI, hbel, hk, hg⟩ | ⟨rfl, rfl, hnr⟩)
    · have hx0 : xs = [] := List.eq_nil_of_length_eq_zero hxl
      have hD0 : D = [] := List.eq_nil_of_length_eq_zero hn
      subst hx0 hD0
      rw [List.append_nil] at hI
      have HP : Hid (WrPost R B b C [] w W1) := by
        show LibA.IsBuffer 97 R 5 B b 1033 (Lib.byteCells (C ++ [])) W1 ∧ _
        rw [List.append_nil]
        exact ⟨hI, HB0.out.trans hbel, HK0.out.trans hk⟩
      have hsz1 : (Tryz.prog.info? 5).map (·.size) = some 1 := by kernel_rfl
      have hu : Tryz.prog.underlying 81 = some (.slice 5) := by kernel_rfl
      have hce : ∀ ty d dl dc, (Builtin.copy_ #[81, 81] ty #[.slice d dl dc, .slice (some ⟨b, o, none⟩) 0 cap]).run Tryz.prog W1 = .ok (.int .i64 0) W1 := fun ty d dl dc =>
        run_copy_none W1 81 81 ty 5 d (some ⟨b, o, none⟩) dl dc 0 cap hu hsz1 (by simp)
      obtain ⟨-, lr2, hc⟩ := hI.cases
      rcases hc with ⟨hb0, _⟩ | ⟨g, cp, cur, hbk, -, -, hnc, hcm, -, -, -⟩
      · exfalso
        rcases hne with h | h
        · omega
        · have h1 := congrArg List.length hb0
          rw [HL, List.length_nil] at h1
          exact h (List.eq_nil_of_length_eq_zero h1)
      · rw [HL] at hbk hnc
        have k0 : W1.cell? ⟨b, 1033, none⟩ = some (.slice (some ⟨g, 0, none⟩) C.length cp) := hbk.c0
        unfold maxLen at hcm
        clear hI hbel hk hg HS H0 HB0 HK0 hxl hbk hsz1 hu
        rw [HL]
        go_wp2
        all_goals go_ret2
        all_goals exact ⟨rfl, HP.out⟩
    · exfalso
      obtain ⟨_, _, _, _, hlt⟩ := hnr
      omega
  rintro e W1 (⟨rfl, xs, hxl, hI, hbel, hk, hg⟩ | ⟨rfl, rfl, hnr⟩)
  · obtain ⟨g, cp, W2, k0, k1, k2, hcp, hpost⟩ := wr_copy (cap := cap) hn ho hne HS.out hxl hI (HB0.out.trans hbel) (HK0.out.trans hk) hlim
    have HP := Lib.hid hpost
    unfold maxLen at k2
    have hcc : ¬ cp = C.length := by omega
    clear hI hbel hk hg hpost HS H0 HB0 HK0 hxl
    rw [HL]
    go_wp2
    go_ret2
    exact ⟨rfl, HP.out⟩
  · go_wp2_with fail
    refine (Tryz.Buffer_grow_at 97 R B b 1033 n (Lib.byteCells C) _ H0.out hnr hsz0 (byteCells_one C) (by rw [HL]; omega)).mono ?_
    rintro e W1 ⟨rfl, xs, hxl, hI, hbel, hk, hg⟩
    obtain ⟨g, cp, W2, k0, k1, k2, hcp, hpost⟩ := wr_copy (cap := cap) hn ho hne HS.out hxl hI (HB0.out.trans hbel) (HK0.out.trans hk) hlim
    have HP := Lib.hid hpost
    unfold maxLen at k2
    have hcc : ¬ cp = C.length := by omega
    clear hI hbel hk hg hpost HS H0 HB0 HK0 hxl
    rw [HL]
    go_wp2
    go_ret2
    exact ⟨rfl, HP.out⟩
end Go.Proofs.YthplmbgdcfmkgaaGreatDoor
/- The scanner's next, where the buffer holds a byte. -/
namespace Go.Proofs.YthplmbgdcfmkgaaGreatDoor
open Go.RowKit

/-- What next() leaves as it was. -/
structure NX (B g r : Nat) (w w' : World) : Prop where
  below : Below B w w'
  ko : ∀ k o, w.heap[k]? = some o → k ≠ g → k ≠ r → (∀ c fz, o ≠ .cells c 5 fz) → w'.heap[k]? = some o
  free : ∀ i, 1037 ≤ i → w'.cell? ⟨g, i, none⟩ = w.cell? ⟨g, i, none⟩
theorem NX.refl (B g r : Nat) (w : World) : NX B g r w w := ⟨Below.refl _ _, fun _ _ h _ _ _ => h, fun _ _ => rfl⟩
theorem NX.trans {B g r a b c} (h : NX B g r a b) (k : NX B g r b c) : NX B g r a c :=
  ⟨h.below.trans k.below, fun i o h1 h2 h3 h4 => k.ko i o (h.ko i o h1 h2 h3 h4) h2 h3 h4, fun i hi => (k.free i hi).trans (h.free i hi)⟩
theorem NX.drewN {B g r a w} (h : NX B g r a w) (n : Nat) : NX B g r a (w.drewN n) := ⟨Below.drewN h.below n, h.ko, h.free⟩
theorem NX.setCell {B g r a w} (h : NX B g r a w) (hB : B ≤ g) (i : Nat) (hi : i < 1037) (v : Value) : NX B g r a (w.setCell ⟨g, i, none⟩ v) :=
  ⟨h.below.setCell (p := ⟨g, i, none⟩) hB v, fun k o h1 h2 h3 h4 => by rw [Below.heap_setCell _ _ _ _ h2]; exact h.ko k o h1 h2 h3 h4, fun j hj => by rw [cell_set_ne (by omega)]; exact h.free j hj⟩

/-- The bytes of the source that the proofs speak of. -/
def Plain (s : ByteArray) : Prop := s.size ≤ 3000 ∧ ∀ j (h : j < s.size), 0 < (s[j]'h).toNat ∧ (s[j]'h).toNat < 128

theorem ret_i32 {a b : Nat} (h : a = b) : Ending.returned (.int .i32 (a : Int)) = .returned (.int .i32 (b : Int)) := by rw [h]
set_option maxHeartbeats 2000000 in
set_option maxRecDepth 100000 in
theorem next_fast (B g r : Nat) (s : ByteArray) (P E D : Nat) (tp : Int) (C : List UInt8) (lc : Int) (w : World) (hs : Plain s) (h : Scn B g r s P E D tp C lc w) (hP : P < E) :
    Calls Tryz.prog 70 #[.pointer (some ⟨g, 0, none⟩)] w fun e w' => ∃ hk : D + P < s.size, e = .returned (.int .i32 ((s[D + P]'hk).toNat : Int)) ∧ Scn B g r s (P + 1) E D tp C 1 w' ∧ NX B g r w w' := by
  obtain ⟨hk, hb⟩ := h.buf P hP
  have hc := hs.2 (D + P) hk
  obtain ⟨c, hce⟩ : ∃ c, c = (s[D + P]'hk).toNat := ⟨_, rfl⟩
  rw [← hce] at hb hc
  obtain ⟨hc0, hc1⟩ := hc
  have hl := h.lim
  obtain ⟨z1, hz1⟩ := h.cl
  obtain ⟨z2, hz2⟩ := h.cc
  obtain ⟨z3, hz3⟩ := h.cll
  have hcP := h.cP
  have hclc := h.clc
  have f26 := h.fr 1026
  have f29 := h.fr 1029
  have f30 := h.fr 1030
  have f31 := h.fr 1031
  have f32 := h.fr 1032
  have hB := h.hB
  have htp := h.tpr.2
  have H := Lib.hid h
  have HC := Lib.hid hce
  clear h hce hs
  go_enter Tryz.func70, Tryz.ntmps70
  go_wp2
  go_quiet (fail)
  have t0 : ((c : Int) == 0) = false := by rw [beq_eq_false_iff_ne]; omega
  by_cases h10 : c = 10
  · have t10 : ((c : Int) == 10) = true := by rw [beq_iff_eq]; omega
    have HE := Lib.hid h10
    clear h10
    go_wp2
    go_ret
    exact ⟨hk, ret_i32 HC.out, (((((((H.out.drewN nq).setP (P + 1) (by omega) (by omega)).setLc 1 (by omega)).setCol _).setLine _).setLast _).setCol 0),
      ((((((((NX.refl B g r w).drewN nq).setCell hB 1026 (by omega) _).setCell hB 1032 (by omega) _).setCell hB 1030 (by omega) _).setCell hB 1029 (by omega) _).setCell hB 1031 (by omega) _).setCell hB 1030 (by omega) _)⟩
  · have t10 : ((c : Int) == 10) = false := by rw [beq_eq_false_iff_ne]; omega
    clear h10
    go_wp2
    go_ret
    exact ⟨hk, ret_i32 HC.out, (((H.out.drewN nq).setP (P + 1) (by omega) (by omega)).setLc 1 (by omega)).setCol _,
      ((((NX.refl B g r w).drewN nq).setCell hB 1026 (by omega) _).setCell hB 1032 (by omega) _).setCell hB 1030 (by omega) _⟩
end Go.Proofs.YthplmbgdcfmkgaaGreatDoor
/- The scanner's next, where the buffer must be filled: memory. -/
namespace Go.Proofs.YthplmbgdcfmkgaaGreatDoor
open Go.RowKit

theorem cell_of_block' {w w' : World} {b : Nat} (h : w'.heap[b]? = w.heap[b]?) (j : Nat) : w'.cell? ⟨b, j, none⟩ = w.cell? ⟨b, j, none⟩ := World.cell?_of_block (w := w) h
theorem frozen_of_block' {w w' : World} {b : Nat} (h : w'.heap[b]? = w.heap[b]?) (j : Nat) : w'.frozen? ⟨b, j, none⟩ = w.frozen? ⟨b, j, none⟩ := World.frozen?_of_block (w := w) h
/-- Behind a Write of the token's head. -/
theorem Scn.write {B g r s P E D tp C lc w w'} (h : Scn B g r s P E D tp C lc w) (X : List UInt8) (hw : WrPost (fun i => w.cell? ⟨g, i, none⟩) B g C X w w') : Scn B g r s P E D tp (C ++ X) lc w' ∧ NX B g r w w' := by
  obtain ⟨h1, h2, h3⟩ := hw
  obtain ⟨ht, hb, hc⟩ := TBuf.of_buffer h1
  obtain ⟨cs, hr⟩ := h.rtag
  have hr' : w'.heap[r]? = w.heap[r]? := by
    rw [hr]
    exact h3 r _ hr (fun e => h.ne (Option.some.inj e)) (fun c fz e => by injection e with _ e _; exact absurd e (by decide))
  have hl := h.lim
  refine ⟨⟨h.le, h.lim, h.fit, h.lcr, h.tpr, hb, h.hB, h.ne, by rw [hc _ (by omega)]; exact h.src, fun j hj => by rw [hc _ (by omega)]; exact h.buf j hj, fun j hj => by rw [hc _ (by omega)]; exact h.all j hj, by rw [hc _ (by omega)]; exact h.sent,
    by rw [hc _ (by omega)]; exact h.cP, by rw [hc _ (by omega)]; exact h.cE, by rw [hc _ (by omega)]; exact h.cD, by rw [hc _ (by omega)]; exact h.cl, by rw [hc _ (by omega)]; exact h.cc, by rw [hc _ (by omega)]; exact h.cll, by rw [hc _ (by omega)]; exact h.clc, ht,
    by rw [hc _ (by omega)]; exact h.ctp, by rw [cell_of_block' hr']; exact h.rs, by rw [cell_of_block' hr']; exact h.ri, by rw [cell_of_block' hr']; exact h.rp, fun p => by rw [frozen_of_block' hr']; exact h.rfr p, ⟨cs, hr'.trans hr⟩⟩, ⟨h2, ?_, fun i hi => hc i (by omega)⟩⟩
  intro k o hk hkg hkr ho
  exact h3 k o hk (fun e => hkg (Option.some.inj e)) ho

theorem TBuf.only2 {B g r C w w'} (h : TBuf B g C w) (ho : Only2 g r w w') (hr : ∃ cs, w.heap[r]? = some (.cells cs 129 (0, 0))) (hc : ∀ i, 1033 ≤ i → w'.cell? ⟨g, i, none⟩ = w.cell? ⟨g, i, none⟩) : TBuf B g C w' := by
  obtain ⟨v, lr, h0, h1, h2, h3, h4⟩ := h
  refine ⟨v, lr, by rw [hc _ (by omega)]; exact h0, by rw [hc _ (by omega)]; exact h1, by rw [hc _ (by omega)]; exact h2, ⟨h3.1, ?_⟩, h4⟩
  rcases h3.2 with hn | ⟨q, cap, cur, rfl, hb, hq, rest⟩
  · exact .inl hn
  · refine .inr ⟨q, cap, cur, rfl, hb, ?_, rest⟩
    obtain ⟨cs, hr⟩ := hr
    have hqg : q ≠ g := fun e => h4 (by rw [← e]; rfl)
    have hqr : q ≠ r := by
      intro e
      rw [e, hr] at hq
      have := Option.some.inj hq
      injection this with _ e _
      exact absurd e (by decide)
    rw [ho.block q hqg hqr]; exact hq
/-- The world in which the buffer has been filled. -/
theorem Scn.refill {B g r s E D tp C lc w W1 W3 N} {z : Int} (h : Scn B g r s E E D tp C lc w) (hN : min 1024 (s.size - (D + E)) = N) (hpos : D + E < s.size) (htp : tp ≤ 0)
    (hW1 : W1 = w.setCell ⟨g, 1028, none⟩ (.int .i64 z)) (hz : z = ((D + E : Nat) : Int)) (k : Nat) (hR : ReadPost g r s (D + E) N (W1.drewN k) W3) :
    Scn B g r s 0 N (D + E) tp C lc (((W3.setCell ⟨g, 1026, none⟩ (.int .i64 0)).setCell ⟨g, 1027, none⟩ (.int .i64 N)).setCell ⟨g, 1 + N, none⟩ (.int .u8 128)) := by
  have hN1 : 1 ≤ N := by omega
  have hN2 : N ≤ 1024 := by omega
  have o : ∀ p, (p < 1 ∨ 1 + N ≤ p) → W3.cell? ⟨g, p, none⟩ = W1.cell? ⟨g, p, none⟩ := fun p hp => hR.old p hp
  have o2 : ∀ p, p ≠ 1028 → W1.cell? ⟨g, p, none⟩ = w.cell? ⟨g, p, none⟩ := fun p hp => by rw [hW1, cell_set_ne (by omega)]
  have o3 : ∀ p, p ≠ 1028 → (p < 1 ∨ 1 + N ≤ p) → W3.cell? ⟨g, p, none⟩ = w.cell? ⟨g, p, none⟩ := fun p hp hq => (o p hq).trans (o2 p hp)
  have o4 : ∀ p, p ≠ 1028 → p ≠ 1026 → p ≠ 1027 → (p < 1 ∨ 1 + N < p) → (((W3.setCell ⟨g, 1026, none⟩ (.int .i64 0)).setCell ⟨g, 1027, none⟩ (.int .i64 N)).setCell ⟨g, 1 + N, none⟩ (.int .u8 128)).cell? ⟨g, p, none⟩ = w.cell? ⟨g, p, none⟩ := by
    intro p h1 h2 h3 h4
    rw [cell_set_ne (by omega), cell_set_ne (by omega), cell_set_ne (by omega)]
    exact o3 p h1 (by omega)
  have hbuf : ∀ j, j < N → ∃ h : D + E + j < s.size, (((W3.setCell ⟨g, 1026, none⟩ (.int .i64 0)).setCell ⟨g, 1027, none⟩ (.int .i64 N)).setCell ⟨g, 1 + N, none⟩ (.int .u8 128)).cell? ⟨g, 1 + j, none⟩ = some (.int .u8 (s[D + E + j]'h).toNat) := by
    intro j hj
    rw [cell_set_ne (by omega), cell_set_ne (by omega), cell_set_ne (by omega)]
    exact hR.new j hj
  have hsent : (((W3.setCell ⟨g, 1026, none⟩ (.int .i64 0)).setCell ⟨g, 1027, none⟩ (.int .i64 N)).setCell ⟨g, 1 + N, none⟩ (.int .u8 128)).cell? ⟨g, 1 + N, none⟩ = some (.int .u8 128) := by
    obtain ⟨y, _, hy⟩ := h.all N (by omega)
    exact cell_set_same (by rw [cell_set_ne (by omega), cell_set_ne (by omega)]; exact (o3 (1 + N) (by omega) (by omega)).trans hy)
  have hne := h.ne
  refine ⟨Nat.zero_le _, hN2, by omega, h.lcr, ⟨h.tpr.1, by omega⟩, ((hR.blk.set _ _ _).set _ _ _).set _ _ _, h.hB, hne, by rw [o4 0 (by omega) (by omega) (by omega) (by omega)]; exact h.src, hbuf, fun j hj => ?_, hsent, ?_, ?_, ?_,
    by rw [o4 1029 (by omega) (by omega) (by omega) (by omega)]; exact h.cl, by rw [o4 1030 (by omega) (by omega) (by omega) (by omega)]; exact h.cc, by rw [o4 1031 (by omega) (by omega) (by omega) (by omega)]; exact h.cll, by rw [o4 1032 (by omega) (by omega) (by omega) (by omega)]; exact h.clc, ?_, by rw [o4 1036 (by omega) (by omega) (by omega) (by omega)]; exact h.ctp,
    by rw [cell_other hne, cell_other hne, cell_other hne]; exact hR.rs, by rw [cell_other hne, cell_other hne, cell_other hne]; exact hR.ri, ⟨-1, by rw [cell_other hne, cell_other hne, cell_other hne]; exact hR.rp⟩, fun p => by rw [frozen_other, frozen_other, frozen_other]; exact hR.rfr p, ?_⟩
  · rcases Nat.lt_trichotomy j N with hj1 | hj1 | hj1
    · obtain ⟨h1, e⟩ := hbuf j hj1
      exact ⟨_, (s[D + E + j]'h1).toNat_lt, e⟩
    · subst hj1; exact ⟨128, by omega, hsent⟩
    · rw [o4 (1 + j) (by omega) (by omega) (by omega) (by omega)]; exact h.all j hj
  · rw [cell_set_ne (by omega), cell_set_ne (by omega)]
    exact cell_set_same ((o3 1026 (by omega) (by omega)).trans h.cP)
  · rw [cell_set_ne (by omega)]
    exact cell_set_same (by rw [cell_set_ne (by omega)]; exact (o3 1027 (by omega) (by omega)).trans h.cE)
  · rw [cell_set_ne (by omega), cell_set_ne (by omega), cell_set_ne (by omega), o 1028 (by omega), hW1, ← hz]
    exact cell_set_same h.cD
  · refine (((?_ : TBuf B g C W3).set 1026 (by omega) _).set 1027 (by omega) _).set (1 + N) (by omega) _
    have hr1 : W1.heap[r]? = w.heap[r]? := by rw [hW1, Below.heap_setCell _ _ _ _ hne]
    refine TBuf.only2 (w := W1) ?_ ⟨hR.only.os, hR.only.tape, hR.only.output, hR.only.size, hR.only.block⟩ ?_ (fun i hi => o i (by omega))
    · rw [hW1]; exact h.tb.set 1028 (by omega) _
    · obtain ⟨cs, hc⟩ := h.rtag; exact ⟨cs, hr1.trans hc⟩
  · obtain ⟨cs, hc⟩ := hR.rtag
    exact ⟨cs, by rw [Below.heap_setCell _ _ _ _ hne, Below.heap_setCell _ _ _ _ hne, Below.heap_setCell _ _ _ _ hne]; exact hc⟩
theorem NX.read {B g r s i N w W W'} (h : NX B g r w W) (hB : B ≤ g) (hr : B ≤ r) (hN : N ≤ 1024) (hR : ReadPost g r s i N W W') : NX B g r w W' :=
  ⟨h.below.trans ⟨hR.only.os, hR.only.tape, hR.only.output, Nat.le_of_eq hR.only.size.symm, fun k hk => hR.only.block k (by omega) (by omega)⟩,
   fun k o h1 h2 h3 h4 => by rw [hR.only.block k h2 h3]; exact h.ko k o h1 h2 h3 h4, fun j hj => (hR.old j (by omega)).trans (h.free j hj)⟩
end Go.Proofs.YthplmbgdcfmkgaaGreatDoor
