/- What the listed variables hold. -/
import Derived.Test.YthplmbgdcfmkgaaGreatDoorRows
import Derived.Test.YthplmbgdcfmkgaaGreatDoorA03
import Derived.Lib.LaidU8
import Derived.Stop.LaidErr
import Derived.LaidLaws
import Derived.KernelRfl
set_option linter.unusedVariables false
set_option linter.unusedSimpArgs false
/- What the row's listed variables hold: tables. -/
namespace Go.Proofs.YthplmbgdcfmkgaaGreatDoor
open Go.RowKit Go.Proofs Go.Lib

theorem add_add (q o x y : Nat) : ((⟨q, o, none⟩ : Addr).add x).add y = ⟨q, o + x + y, none⟩ := by
  unfold Addr.add
  by_cases h1 : x = 0
  · by_cases h2 : y = 0
    · simp [h1, h2]
    · simp [h1, h2]
  · by_cases h2 : y = 0
    · simp [h1, h2]
    · simp [h1, h2]
set_option maxRecDepth 100000 in
/-- A slice that reads as a list of data without spare ones. -/
theorem slice_read {w : World} {name : String} {g t e c : Nat} {ds : List (DataW Unit)} (hg : Tryz.prog.globalNamed name = some g) (hty : (Tryz.prog.globals[g]?).map (·.type) = some t) (ht : Tryz.prog.underlying t = some (.slice e))
    (h : VarReads Tryz.prog w name (.slice ds [])) (hn : 0 < ds.length) (hc : Tryz.prog.cellsOf e = c) (hc0 : 0 < c) :
    ∃ q o, w.cell? ⟨g, 0, none⟩ = some (.slice (some ⟨q, o, none⟩) ds.length ds.length) ∧ q < w.heap.size ∧ ∀ i (h : i < ds.length), ∃ (cs : List Value) (fuel : Nat) (p : List MemPlace), cs.length = c ∧ DataW.trod (fun _ => ()) Tryz.prog w 0 (fun _ => true) false fuel e cs = some (ds[i]'h, p) ∧ ∀ j, j < c → w.cell? ⟨q, o + i * c + j, none⟩ = cs[j]? := by
  obtain ⟨g', t', cs, fuel, p, hg', hty', hvar, hd⟩ := h
  obtain rfl := Option.some.inj (hg.symm.trans hg')
  obtain rfl := Option.some.inj (hty.symm.trans hty')
  rcases DataW.trod_slice ht hd with ⟨_, hx⟩ | ⟨a, len, cap, elems, rest, n, rfl, hcs, hx, _, hlc, _, hel, hat, hsp, _⟩
  · exact absurd (congrArg Prod.fst hx) (by intro h; cases h)
  · have h1 : ds = elems.map (·.1) ∧ [] = rest.map (·.1) := by
      have := congrArg Prod.fst hx
      simp only [DataW.slice.injEq] at this
      exact this
    obtain ⟨hds, hrest⟩ := h1
    have hr0 : rest.length = 0 := by
      have := congrArg List.length hrest
      simpa using this.symm
    have hcap : cap = len := by
      have := (hsp rfl).1
      omega
    have hlen : ds.length = len := by rw [hds, List.length_map]; exact hel
    obtain ⟨q, o, sp⟩ := a
    have key : ∀ i, (hi : i < ds.length) → ∃ cs' p', cs'.length = c ∧ DataW.trod (fun _ => ()) Tryz.prog w 0 (fun _ => true) false n e cs' = some (ds[i]'hi, p') ∧ ∀ j, j < c → w.cell? (((⟨q, o, sp⟩ : Addr).add (i * c)).add j) = cs'[j]? := by
      intro i hi
      have h2 := hat i (by omega)
      rw [hc] at h2
      have hie : i < elems.length := by omega
      rw [List.getElem?_eq_getElem hie] at h2
      obtain ⟨cs', h3, h4⟩ := Option.bind_eq_some_iff.mp h2
      obtain ⟨_, h5, h6⟩ := World.cells?_some h3
      refine ⟨cs', (elems[i]'hie).2, h5, ?_, h6⟩
      rw [h4]
      congr 1
      have : ds[i]'hi = (elems[i]'hie).1 := by
        simp only [hds, List.getElem_map]
      rw [this]
    obtain ⟨cs0, p0, h7, h8, h9⟩ := key 0 hn
    have h10 := h9 0 hc0
    have h11 : ((⟨q, o, sp⟩ : Addr).add (0 * c)).add 0 = ⟨q, o, sp⟩ := by
      rw [Nat.zero_mul]
      unfold Addr.add
      simp
    rw [h11, List.getElem?_eq_getElem (by omega)] at h10
    obtain rfl := cell_spot h10
    refine ⟨q, o, ?_, World.block_lt_of_cell? w ⟨q, o, none⟩ h10, fun i hi => ?_⟩
    · have := World.var?_cell hg hvar 0
      rw [this, ← Array.getElem?_toList, hcs, hlen, hcap]
      rfl
    · obtain ⟨cs', p', k1, k2, k3⟩ := key i hi
      refine ⟨cs', n, p', k1, k2, fun j hj => ?_⟩
      rw [← k3 j hj, add_add]
theorem int_read {w : World} {fuel : Nat} {t : TypeId} {k : IntKind} {cs : List Value} {z : Int} {p : List MemPlace} (ht : Tryz.prog.underlying t = some (.int k)) (h : DataW.trod (fun _ => ()) Tryz.prog w 0 (fun _ => true) false fuel t cs = some (.lit (.int k z), p)) : cs = [.int k z] := by
  obtain ⟨n, e1, e2, _⟩ := DataW.trod_int ht h
  have := congrArg Prod.fst e2
  simp only [DataW.lit.injEq, Lit.int.injEq, true_and] at this
  rw [e1, this]
theorem str_read {w : World} {fuel : Nat} {t : TypeId} {cs : List Value} {l : List UInt8} {p : List MemPlace} (ht : Tryz.prog.underlying t = some .string) (h : DataW.trod (fun _ => ()) Tryz.prog w 0 (fun _ => true) false fuel t cs = some (.lit (.string l), p)) : cs = [.string ⟨l.toArray⟩] := by
  obtain ⟨s, e1, e2, _⟩ := DataW.trod_string ht h
  have := congrArg Prod.fst e2
  simp only [DataW.lit.injEq, Lit.string.injEq] at this
  rw [e1, this]
theorem laid_powtab {w : World} (h : VarReads Tryz.prog w "internal/strconv.powtab" Rows.laid_internal_strconv_powtab) (h24 : 16 ≤ w.heap.size) : Powtab w.heap.size w := by
  have hd : (Rows.laid_internal_strconv_powtab : DataW Unit) = .slice ((List.range 9).map fun i => .lit (.int .i64 (ptab i : Nat))) [] := by rfl
  rw [hd] at h
  obtain ⟨q, o, h1, h2, h3⟩ := slice_read (g := 12) (t := 222) (e := 3) (c := 1) (by kernel_rfl) (by kernel_rfl) Tryz.underlying222 h (by simp) (by kernel_rfl) (by decide)
  refine ⟨q, o, h2, by omega, ?_, fun i hi => ?_⟩
  · simpa using h1
  · obtain ⟨cs, fuel, p, k1, k2, k3⟩ := h3 i (by simpa using hi)
    have e : ((List.range 9).map fun i => (DataW.lit (.int .i64 (ptab i : Nat)) : DataW Unit))[i]'(by simpa using hi) = .lit (.int .i64 (ptab i : Nat)) := by simp
    rw [e] at k2
    have := int_read Tryz.underlying3 k2
    have k4 := k3 0 (by decide)
    rw [this, Nat.mul_one, Nat.add_zero] at k4
    exact k4
/-- Two fields of a struct. -/
theorem pair_read {w : World} {fuel : Nat} {t t1 t2 : TypeId} {f1 f2 : Field} {cs : List Value} {d1 d2 : DataW Unit} {p : List MemPlace} (ht : Tryz.prog.underlying t = some (.struct #[f1, f2])) (e1 : f1.type = t1) (e2 : f2.type = t2) (o1 : f1.offset = 0) (o2 : f2.offset = 1) (c1 : Tryz.prog.cellsOf t1 = 1) (c2 : Tryz.prog.cellsOf t2 = 1)
    (h : DataW.trod (fun _ => ()) Tryz.prog w 0 (fun _ => true) false fuel t cs = some (.agg [d1, d2], p)) :
    ∃ n p1 p2, DataW.trod (fun _ => ()) Tryz.prog w 0 (fun _ => true) false n t1 ((cs.drop 0).take 1) = some (d1, p1) ∧ DataW.trod (fun _ => ()) Tryz.prog w 0 (fun _ => true) false n t2 ((cs.drop 1).take 1) = some (d2, p2) := by
  obtain ⟨xs, n, rfl, hx, hl, hxl, hall⟩ := DataW.trod_struct ht h
  have h1 := hall 0 f1 rfl
  have h2 := hall 1 f2 rfl
  rw [e1, o1, c1] at h1
  rw [e2, o2, c2] at h2
  have hx' : xs.map (·.1) = [d1, d2] := by
    have := congrArg Prod.fst hx
    simp only [DataW.agg.injEq] at this
    exact this.symm
  match xs, hxl, hx', h1, h2 with
  | [x, y], _, hx', h1, h2 =>
    simp only [List.map_cons, List.map_nil, List.cons.injEq, and_true] at hx'
    obtain ⟨rfl, rfl⟩ := hx'
    exact ⟨n, x.2, y.2, h1, h2⟩
theorem two_at {cs : List Value} {v u : Value} (hl : cs.length = 2) (h1 : (cs.drop 0).take 1 = [v]) (h2 : (cs.drop 1).take 1 = [u]) : cs = [v, u] := by
  match cs, hl with
  | [a, b], _ =>
    simp at h1 h2
    rw [h1, h2]
theorem laid_cheats {w : World} (h : VarReads Tryz.prog w "internal/strconv.leftcheats" Rows.laid_internal_strconv_leftcheats) (h24 : 16 ≤ w.heap.size) : Cheats w.heap.size w := by
  have hd : Rows.laid_internal_strconv_leftcheats = .slice (Go.Pinned.cheatRows.map fun x => .agg [.lit (.int .i64 x.1), .lit (.string x.2)]) [] := rfl
  have hlen : Go.Pinned.cheatRows.length = 61 := by kernel_rfl
  rw [hd] at h
  obtain ⟨q, o, h1, h2, h3⟩ := slice_read (g := 15) (t := 239) (e := 238) (c := 2) (by kernel_rfl) (by kernel_rfl) Tryz.underlying239 h (by rw [List.length_map, hlen]; decide) (by kernel_rfl) (by decide)
  refine ⟨q, o, h2, by omega, ?_, fun i hi => ?_⟩
  · rw [List.length_map, hlen] at h1
    exact h1
  · have hil : i < Go.Pinned.cheatRows.length := by omega
    obtain ⟨cs, fuel, p, k1, k2, k3⟩ := h3 i (by rw [List.length_map]; exact hil)
    rw [List.getElem_map] at k2
    obtain ⟨n, p1, p2, m1, m2⟩ := pair_read Tryz.underlying238 rfl rfl rfl rfl (by kernel_rfl) (by kernel_rfl) k2
    have n1 := int_read Tryz.underlying3 m1
    have n2 := str_read Tryz.underlying9 m2
    have ncs := two_at k1 n1 n2
    have e1 : cheatL i = (Go.Pinned.cheatRows[i]'hil).1 := by
      unfold cheatL
      rw [List.getD, List.getElem?_eq_getElem hil]
      rfl
    have e2 : cheatS i = (Go.Pinned.cheatRows[i]'hil).2 := by
      unfold cheatS
      rw [List.getD, List.getElem?_eq_getElem hil]
      rfl
    have k4 := k3 0 (by decide)
    have k5 := k3 1 (by decide)
    rw [ncs] at k4 k5
    rw [e1, e2]
    exact ⟨k4, k5⟩
theorem laid_pow10 {w : World} (h : VarReads Tryz.prog w "internal/strconv.pow10Tab" Rows.laid_internal_strconv_pow10Tab) :
    ∃ T : Nat → Nat × Nat, ∀ i, i < 696 → w.cell? ⟨14, i * 2, none⟩ = some (.int .u64 (T i).1) ∧ w.cell? ⟨14, i * 2 + 1, none⟩ = some (.int .u64 (T i).2) ∧ (T i).1 < 18446744073709551616 ∧ (T i).2 < 18446744073709551616 := by
  have hd : Rows.laid_internal_strconv_pow10Tab = .agg (Go.Pinned.pow10Rows.map fun x => .agg [.lit (.int .u64 x.1), .lit (.int .u64 x.2)]) := rfl
  rw [hd] at h
  obtain ⟨g', t', cs, fuel, p, hg', hty', hvar, hd⟩ := h
  obtain rfl := Option.some.inj ((show Tryz.prog.globalNamed "internal/strconv.pow10Tab" = some 14 by kernel_rfl).symm.trans hg')
  obtain rfl := Option.some.inj ((show (Tryz.prog.globals[14]?).map (·.type) = some 228 by kernel_rfl).symm.trans hty')
  have c227 : Tryz.prog.cellsOf 227 = 2 := by kernel_rfl
  have key : ∀ i : Nat, ∃ z : Nat × Nat, i < 696 → w.cell? ⟨14, i * 2, none⟩ = some (.int .u64 z.1) ∧ w.cell? ⟨14, i * 2 + 1, none⟩ = some (.int .u64 z.2) ∧ z.1 < 18446744073709551616 ∧ z.2 < 18446744073709551616 := by
    intro i
    by_cases hi : i < 696
    · obtain ⟨fuel', d, q, h1, h2⟩ := array_elem Tryz.underlying228 hd i hi
      rw [c227] at h2
      rw [List.getElem?_map] at h1
      obtain ⟨x, hx, rfl⟩ := Option.map_eq_some_iff.mp h1
      obtain ⟨n, p1, p2, m1, m2⟩ := pair_read Tryz.underlying227 rfl rfl rfl rfl (by kernel_rfl) (by kernel_rfl) h2
      obtain ⟨z1, a1, b1, w1⟩ := DataW.trod_int Tryz.underlying76 m1
      obtain ⟨z2, a2, b2, w2⟩ := DataW.trod_int Tryz.underlying76 m2
      have hz1 : 0 ≤ z1 ∧ z1 ≤ 18446744073709551615 := by simpa [Lit.wf, IntKind.min, IntKind.max, IntKind.signed, IntKind.bits] using w1
      have hz2 : 0 ≤ z2 ∧ z2 ≤ 18446744073709551615 := by simpa [Lit.wf, IntKind.min, IntKind.max, IntKind.signed, IntKind.bits] using w2
      have e0 := congrArg (·[0]?) a1
      have e1 := congrArg (·[0]?) a2
      simp only [List.getElem?_take, List.getElem?_drop] at e0 e1
      refine ⟨(z1.toNat, z2.toNat), fun _ => ⟨?_, ?_, ?_, ?_⟩⟩
      · rw [World.var?_cell hg' hvar (i * 2), ← Array.getElem?_toList]
        have : ((z1.toNat : Nat) : Int) = z1 := by omega
        rw [this]
        simpa using e0
      · rw [World.var?_cell hg' hvar (i * 2 + 1), ← Array.getElem?_toList]
        have : ((z2.toNat : Nat) : Int) = z2 := by omega
        rw [this]
        simpa using e1
      · show z1.toNat < _
        omega
      · show z2.toNat < _
        omega
    · exact ⟨(0, 0), fun h => absurd h hi⟩
  exact ⟨fun i => Classical.choose (key i), fun i hi => Classical.choose_spec (key i) hi⟩
set_option maxRecDepth 100000 in
theorem laid_first {w : World} (h : VarReads Tryz.prog w "unicode/utf8.first" Rows.laid_unicode_utf8_first) : ∀ c : Nat, c < 128 → w.cell? ⟨3, c, none⟩ = some (.int .u8 240) := by
  have hd : Rows.laid_unicode_utf8_first = tabData .u8 firstTab := by
    show Go.Pinned.utf8First = _
    kernel_rfl
  rw [hd] at h
  obtain ⟨g', t', cs, fuel, p, hg', hty', hvar, hd⟩ := h
  obtain rfl := Option.some.inj ((show Tryz.prog.globalNamed "unicode/utf8.first" = some 3 by kernel_rfl).symm.trans hg')
  obtain rfl := Option.some.inj ((show (Tryz.prog.globals[3]?).map (·.type) = some 165 by kernel_rfl).symm.trans hty')
  have hcs := cells_of_tab Tryz.underlying165 Tryz.underlying5 (by kernel_rfl) (by kernel_rfl) hd
  intro c hc
  rw [World.var?_cell hg' hvar c, ← Array.getElem?_toList, hcs, List.getElem?_map]
  have hall : ∀ c : _root_.Fin 128, firstTab[c.val]? = some 240 := by decide
  rw [hall ⟨c, hc⟩]
  rfl
end Go.Proofs.YthplmbgdcfmkgaaGreatDoor
/- What the row's listed variables hold: numbers, errors. -/
namespace Go.Proofs.YthplmbgdcfmkgaaGreatDoor
open Go.RowKit Go.Proofs Go.Lib

theorem fields1 {w : World} {fuel : Nat} {t t1 : TypeId} {f1 : Field} {cs : List Value} {d1 : DataW Unit} {p : List MemPlace} (ht : Tryz.prog.underlying t = some (.struct #[f1])) (e1 : f1.type = t1) (o1 : f1.offset = 0) (c1 : Tryz.prog.cellsOf t1 = 1)
    (h : DataW.trod (fun _ => ()) Tryz.prog w 0 (fun _ => true) false fuel t cs = some (.agg [d1], p)) :
    ∃ n p1, DataW.trod (fun _ => ()) Tryz.prog w 0 (fun _ => true) false n t1 ((cs.drop 0).take 1) = some (d1, p1) := by
  obtain ⟨xs, n, rfl, hx, hl, hxl, hall⟩ := DataW.trod_struct ht h
  have h1 := hall 0 f1 rfl
  rw [e1, o1, c1] at h1
  have hx' : xs.map (·.1) = [d1] := by
    have := congrArg Prod.fst hx
    simp only [DataW.agg.injEq] at this
    exact this.symm
  match xs, hxl, hx', h1 with
  | [x], _, hx', h1 =>
    simp only [List.map_cons, List.map_nil, List.cons.injEq, and_true] at hx'
    subst hx'
    exact ⟨n, x.2, h1⟩
theorem fields3 {w : World} {fuel : Nat} {t t1 t2 t3 : TypeId} {f1 f2 f3 : Field} {cs : List Value} {d1 d2 d3 : DataW Unit} {p : List MemPlace} (ht : Tryz.prog.underlying t = some (.struct #[f1, f2, f3])) (e1 : f1.type = t1) (e2 : f2.type = t2) (e3 : f3.type = t3) (o1 : f1.offset = 0) (o2 : f2.offset = 1) (o3 : f3.offset = 2) (c1 : Tryz.prog.cellsOf t1 = 1) (c2 : Tryz.prog.cellsOf t2 = 1) (c3 : Tryz.prog.cellsOf t3 = 1)
    (h : DataW.trod (fun _ => ()) Tryz.prog w 0 (fun _ => true) false fuel t cs = some (.agg [d1, d2, d3], p)) :
    ∃ n p1 p2 p3, DataW.trod (fun _ => ()) Tryz.prog w 0 (fun _ => true) false n t1 ((cs.drop 0).take 1) = some (d1, p1) ∧ DataW.trod (fun _ => ()) Tryz.prog w 0 (fun _ => true) false n t2 ((cs.drop 1).take 1) = some (d2, p2) ∧ DataW.trod (fun _ => ()) Tryz.prog w 0 (fun _ => true) false n t3 ((cs.drop 2).take 1) = some (d3, p3) := by
  obtain ⟨xs, n, rfl, hx, hl, hxl, hall⟩ := DataW.trod_struct ht h
  have h1 := hall 0 f1 rfl
  have h2 := hall 1 f2 rfl
  have h3 := hall 2 f3 rfl
  rw [e1, o1, c1] at h1
  rw [e2, o2, c2] at h2
  rw [e3, o3, c3] at h3
  have hx' : xs.map (·.1) = [d1, d2, d3] := by
    have := congrArg Prod.fst hx
    simp only [DataW.agg.injEq] at this
    exact this.symm
  match xs, hxl, hx', h1, h2, h3 with
  | [x, y, z], _, hx', h1, h2, h3 =>
    simp only [List.map_cons, List.map_nil, List.cons.injEq, and_true] at hx'
    obtain ⟨rfl, rfl, rfl⟩ := hx'
    exact ⟨n, x.2, y.2, z.2, h1, h2, h3⟩
theorem laid_info {w : World} (h : VarReads Tryz.prog w "internal/strconv.float64info" Rows.laid_internal_strconv_float64info) (h24 : 16 ≤ w.heap.size) : Info w.heap.size w := by
  have hd : (Rows.laid_internal_strconv_float64info : DataW Unit) = .agg [.lit (.int .u64 52), .lit (.int .u64 11), .lit (.int .i64 (-1023))] := rfl
  rw [hd] at h
  obtain ⟨g', t', cs, fuel, p, hg', hty', hvar, hd⟩ := h
  obtain rfl := Option.some.inj ((show Tryz.prog.globalNamed "internal/strconv.float64info" = some 10 by kernel_rfl).symm.trans hg')
  obtain rfl := Option.some.inj ((show (Tryz.prog.globals[10]?).map (·.type) = some 185 by kernel_rfl).symm.trans hty')
  obtain ⟨n, p1, p2, p3, h0, h1, h2⟩ := fields3 Tryz.underlying185 rfl rfl rfl rfl rfl rfl (by kernel_rfl) (by kernel_rfl) (by kernel_rfl) hd
  have e0 := congrArg (·[0]?) (int_read Tryz.underlying87 h0)
  have e1 := congrArg (·[0]?) (int_read Tryz.underlying87 h1)
  have e2 := congrArg (·[0]?) (int_read Tryz.underlying3 h2)
  simp only [List.getElem?_take, List.getElem?_drop] at e0 e1 e2
  refine ⟨h24, ?_, ?_, ?_⟩
  · rw [World.var?_cell hg' hvar 0, ← Array.getElem?_toList]
    simpa using e0
  · rw [World.var?_cell hg' hvar 1, ← Array.getElem?_toList]
    simpa using e1
  · rw [World.var?_cell hg' hvar 2, ← Array.getElem?_toList]
    simpa using e2
theorem laid_opt {w : World} (h : VarReads Tryz.prog w "internal/strconv.optimize" Rows.laid_internal_strconv_optimize) : w.cell? ⟨9, 0, none⟩ = some (.bool true) := by
  have hd : (Rows.laid_internal_strconv_optimize : DataW Unit) = .lit (.bool true) := rfl
  rw [hd] at h
  obtain ⟨g', t', cs, fuel, p, hg', hty', hvar, hd⟩ := h
  obtain rfl := Option.some.inj ((show Tryz.prog.globalNamed "internal/strconv.optimize" = some 9 by kernel_rfl).symm.trans hg')
  obtain rfl := Option.some.inj ((show (Tryz.prog.globals[9]?).map (·.type) = some 4 by kernel_rfl).symm.trans hty')
  obtain ⟨b, e1, e2⟩ := DataW.trod_bool Tryz.underlying4 hd
  have := congrArg Prod.fst e2
  simp only [DataW.lit.injEq, Lit.bool.injEq] at this
  rw [World.var?_cell hg' hvar 0, ← Array.getElem?_toList, e1, ← this]
  rfl
def floTab : List Nat := [4607182418800017408, 4621819117588971520, 4636737291354636288, 4652007308841189376, 4666723172467343360, 4681608360884174848, 4696837146684686336, 4711630319722168320, 4726483295884279808, 4741671816366391296, 4756540486875873280, 4771362005757984768, 4786511204640096256, 4801453603149578240, 4816244402031689728, 4831355200913801216, 4846369599423283200, 4861130398305394688, 4876203697187506176, 4891288408196988160, 4906019910204099648, 4921056587992461136, 4936209963552724370]
def floAt (j : Nat) : Nat := floTab.getD j 0
theorem floAt_bounds : ∀ j : _root_.Fin 23, floAt j.val ≤ 4936209963552724370 ∧ 4607182418800017408 ≤ floAt j.val := by decide
theorem flo_read {w : World} {fuel : Nat} {t : TypeId} {k : FloatKind} {cs : List Value} {x : DataW Unit × List MemPlace} (ht : Tryz.prog.underlying t = some (.float k)) (h : DataW.trod (fun _ => ()) Tryz.prog w 0 (fun _ => true) false fuel t cs = some x) : ∃ b, cs = [.float k b] ∧ x = (.lit (.float k b), []) := by
  cases fuel with
  | zero => simp [DataW.trod] at h
  | succ n =>
    unfold DataW.trod at h
    rw [ht] at h
    split at h <;> simp_all
theorem laid_flo {w : World} (h : VarReads Tryz.prog w "internal/strconv.float64pow10" Rows.laid_internal_strconv_float64pow10) :
    ∃ q o cap, w.cell? ⟨13, 0, none⟩ = some (.slice (some ⟨q, o, none⟩) 23 cap) ∧ q < w.heap.size ∧ ∀ j : Nat, j < 23 → w.cell? ⟨q, o + j, none⟩ = some (.float .f64 (floAt j)) := by
  have hd : (Rows.laid_internal_strconv_float64pow10 : DataW Unit) = .slice (floTab.map fun x => .lit (.float .f64 x)) [] := rfl
  have hlen : floTab.length = 23 := rfl
  rw [hd] at h
  obtain ⟨q, o, h1, h2, h3⟩ := slice_read (g := 13) (t := 30) (e := 75) (c := 1) (by kernel_rfl) (by kernel_rfl) Tryz.underlying30 h (by rw [List.length_map, hlen]; decide) (by kernel_rfl) (by decide)
  rw [List.length_map, hlen] at h1
  refine ⟨q, o, 23, h1, h2, fun j hj => ?_⟩
  have hjl : j < floTab.length := by omega
  obtain ⟨cs, fuel, p, k1, k2, k3⟩ := h3 j (by rw [List.length_map]; exact hjl)
  rw [List.getElem_map] at k2
  obtain ⟨n, e1, e2⟩ := flo_read Tryz.underlying75 k2
  have := congrArg Prod.fst e2
  simp only [DataW.lit.injEq, Lit.float.injEq, true_and] at this
  have k4 := k3 0 (by decide)
  rw [e1, Nat.mul_one, Nat.add_zero, ← this] at k4
  have e : floAt j = floTab[j]'hjl := by
    unfold floAt
    rw [List.getD, List.getElem?_eq_getElem hjl]
    rfl
  rw [e]
  exact k4
theorem star202 : ("*errors.errorString" : String) = "*" ++ "errors.errorString" := by decide
theorem row202 (u : TypeId) (h : Tryz.prog.typeName? 3 u = some "*errors.errorString") : u = 202 :=
  typeName_ptr_named (nm := "errors.errorString") (by rw [← star202]; kernel_rfl) (by kernel_rfl) (by decide) u (by rw [← star202]; exact h)
theorem laid_error {w : World} {n : String} {g : Nat} {text : List UInt8} {r : List (String × DataW Unit)} (h : laidMet Tryz.prog ((n, .iface "*errors.errorString" (.ptr (.agg [.lit (.string text)]))) :: r) w)
    (hg : Tryz.prog.globalNamed n = some g) (ht : (Tryz.prog.globals[g]?).map (·.type) = some 44) (hl : text.length ≤ 1000) :
    ∃ q o t, w.cell? ⟨g, 0, none⟩ = some (.iface 202 (.pointer (some ⟨q, o, none⟩))) ∧ q < w.heap.size ∧ w.cell? ⟨q, o, none⟩ = some (.string t) ∧ t.size ≤ 1000 := by
  obtain ⟨a, s, h1, h2, h3, h4⟩ := laid_sentinel h hg ht Tryz.underlying44 row202 Tryz.underlying202 Tryz.underlying204 rfl rfl Tryz.underlying9 (by kernel_rfl) (by kernel_rfl)
  obtain ⟨q, o, sp⟩ := a
  obtain rfl := cell_spot h2
  refine ⟨q, o, s, ?_, World.block_lt_of_cell? w ⟨q, o, none⟩ h2, h2, ?_⟩
  · have := World.var?_cell hg h1 0
    simpa using this
  · have : s.data.toList.length = s.size := by simp
    rw [← this, h3]
    exact hl
theorem laid_eof {w : World} (h : VarReads Tryz.prog w "pub-alidade/pub/simplefeatures/geom.wktUnexpectedEOF" Rows.laid_pub_alidade_pub_simplefeatures_geom_wktUnexpectedEOF) : ∃ m, w.cell? ⟨1, 0, none⟩ = some (.string m) := by
  obtain ⟨l, hd⟩ : ∃ l, (Rows.laid_pub_alidade_pub_simplefeatures_geom_wktUnexpectedEOF : DataW Unit) = .agg [.lit (.string l)] := ⟨_, rfl⟩
  rw [hd] at h
  obtain ⟨g', t', cs, fuel, p, hg', hty', hvar, hd⟩ := h
  obtain rfl := Option.some.inj ((show Tryz.prog.globalNamed "pub-alidade/pub/simplefeatures/geom.wktUnexpectedEOF" = some 1 by kernel_rfl).symm.trans hg')
  obtain rfl := Option.some.inj ((show (Tryz.prog.globals[1]?).map (·.type) = some 132 by kernel_rfl).symm.trans hty')
  obtain ⟨n, p1, h0⟩ := fields1 Tryz.underlying132 rfl rfl (by kernel_rfl) hd
  have e0 := congrArg (·[0]?) (str_read Tryz.underlying9 h0)
  simp only [List.getElem?_take, List.getElem?_drop] at e0
  refine ⟨⟨l.toArray⟩, ?_⟩
  rw [World.var?_cell hg' hvar 0, ← Array.getElem?_toList]
  simpa using e0
theorem globals_size : Tryz.prog.globals.size = 24 := by kernel_rfl
end Go.Proofs.YthplmbgdcfmkgaaGreatDoor
