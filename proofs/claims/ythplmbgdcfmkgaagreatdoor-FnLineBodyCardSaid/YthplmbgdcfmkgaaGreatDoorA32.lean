/- The row: its condition, the law. -/
import Derived.Test.YthplmbgdcfmkgaaGreatDoorA30
import Derived.Test.YthplmbgdcfmkgaaGreatDoorA31
import Derived.LaidMore
set_option linter.unusedVariables false
set_option linter.unusedSimpArgs false
/- Out of the row's condition: what the program's own variables hold. The law's walk. -/
namespace Go.Proofs.YthplmbgdcfmkgaaGreatDoor
open Go.RowKit Go.Proofs Go.Lib

theorem sta_of {w : World} (h : laidMet Tryz.prog Rows.fnLineBodyRow.laid w) : ∃ T, Sta w.heap.size T floAt w := by
  have hr := fun {n : String} {d : DataW Unit} (hm : (n, d) ∈ Rows.fnLineBodyRow.laid) => laidMet.reads h hm
  have h24 : 16 ≤ w.heap.size := by
    obtain ⟨g, t, cs, fuel, p, hg, _, hv, _⟩ := hr (n := "math/bits.deBruijn64tab") (d := Rows.laid_math_bits_deBruijn64tab) (by unfold Rows.fnLineBodyRow; simp)
    obtain rfl := Option.some.inj ((show Tryz.prog.globalNamed "math/bits.deBruijn64tab" = some 18 by kernel_rfl).symm.trans hg)
    unfold World.var? at hv
    rw [hg] at hv
    simp only [Option.bind_some] at hv
    have : 18 < w.heap.size := by
      rcases Nat.lt_or_ge 18 w.heap.size with h | h
      · exact h
      · rw [Array.getElem?_eq_none h] at hv
        cases hv
    omega
  have hpow := laid_powtab (hr (n := "internal/strconv.powtab") (by unfold Rows.fnLineBodyRow; simp)) h24
  have hch := laid_cheats (hr (n := "internal/strconv.leftcheats") (by unfold Rows.fnLineBodyRow; simp)) h24
  obtain ⟨T, hT⟩ := laid_pow10 (hr (n := "internal/strconv.pow10Tab") (by unfold Rows.fnLineBodyRow; simp))
  have hf := laid_first (hr (n := "unicode/utf8.first") (by unfold Rows.fnLineBodyRow; simp))
  have hi := laid_info (hr (n := "internal/strconv.float64info") (by unfold Rows.fnLineBodyRow; simp)) h24
  have ho := laid_opt (hr (n := "internal/strconv.optimize") (by unfold Rows.fnLineBodyRow; simp))
  have hfl := laid_flo (hr (n := "internal/strconv.float64pow10") (by unfold Rows.fnLineBodyRow; simp))
  have hm := laid_eof (hr (n := "pub-alidade/pub/simplefeatures/geom.wktUnexpectedEOF") (by unfold Rows.fnLineBodyRow; simp))
  have h10 : laidMet Tryz.prog (Rows.fnLineBodyRow.laid.drop 10) w := h.tail.tail.tail.tail.tail.tail.tail.tail.tail.tail
  have hrng := laid_error (n := "strconv.ErrRange") (g := 7) h10 (by kernel_rfl) (by kernel_rfl) (by decide)
  have hsyn := laid_error (n := "strconv.ErrSyntax") (g := 6) h10.tail (by kernel_rfl) (by kernel_rfl) (by decide)
  have heof := laid_error (n := "io.EOF") (g := 2) h10.tail.tail (by kernel_rfl) (by kernel_rfl) (by decide)
  obtain ⟨q, o, t, e1, e2, e3, e4⟩ := heof
  refine ⟨T, ⟨⟨⟨hi, hpow, hch, ⟨fun i hi => (hT i hi).1, fun i hi => (hT i hi).2.1, fun i hi => (hT i hi).2.2.1, fun i hi => (hT i hi).2.2.2, by omega⟩, ⟨hfl, fun j hj => (floAt_bounds ⟨j, hj⟩).1, fun j hj => (floAt_bounds ⟨j, hj⟩).2, h24⟩, ho⟩, ⟨hsyn, hrng, h24⟩⟩, ⟨h24, hf⟩, ⟨q, o, e1, e2, h24⟩, hm⟩⟩
set_option maxHeartbeats 1000000 in
set_option maxRecDepth 100000 in
theorem law_ok {T F B} (s : ByteArray) (d : Int) (w : World) (ht : Sta B T F w) (hB : B ≤ w.heap.size) :
    Calls Tryz.prog 3 #[.string s, .int .i64 d] w fun e w' => e = .returned (.bool true) ∧ Below w.heap.size w w' := by
  have cP := fun W (hW : Below w.heap.size w W) => pread_ok s d W (ht.below (hW.mono hB)) (Nat.le_trans hB hW.size)
  have CP := Lib.hid cP
  clear ht hB cP
  by_cases hs : (s.size : Int) > 2147483647
  · have hlt : (2147483647 : Int) < (s.size : Int) := by omega
    go_enter Tryz.func3, Tryz.ntmps3
    go_wp2_with fail
    go_ret
    exact ⟨rfl, Below.refl _ _⟩
  · have hlt : ¬ (2147483647 : Int) < (s.size : Int) := by omega
    go_enter Tryz.func3, Tryz.ntmps3
    go_wp2_with fail
    refine (CP.out _ (Below.refl _ _)).mono ?_
    rintro e w' ⟨rfl, hB⟩
    have HB := Lib.hid hB
    clear hB
    go_wp2_with fail
    go_ret
    exact ⟨rfl, HB.out⟩
end Go.Proofs.YthplmbgdcfmkgaaGreatDoor
