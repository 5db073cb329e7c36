/- Places and lines, read. -/
import Derived.Test.YthplmbgdcfmkgaaGreatDoorA18
import Derived.Laws.AppendOwn
import Derived.OwnWalk
set_option linter.unusedVariables false
set_option linter.unusedSimpArgs false
/- The parser's places: numbers onto a row. -/
namespace Go.Proofs.YthplmbgdcfmkgaaGreatDoor
open Go.RowKit Go.Proofs Go.Sort

/-- All objects but rows of numbers are kept. -/
def Kept75 (w w' : World) : Prop := ∀ (k : Nat) (o : Obj), w.heap[k]? = some o → (∀ c fz, o ≠ .cells c 75 fz) → w'.heap[k]? = some o
theorem no75 {t : TypeId} {cs : Array Value} {fz : Nat × Nat} (h : t ≠ 75) : ∀ c f, Obj.cells cs t fz ≠ .cells c 75 f := fun c f e => by injection e with _ e _; exact h e
theorem Scn.kept75 {B g r s P E D tp C lc w w'} (h : Scn B g r s P E D tp C lc w) (hk : Kept75 w w') : Scn B g r s P E D tp C lc w' := by
  obtain ⟨u, lr, h0, h1, h2, h3, h4⟩ := h.tb
  obtain ⟨cs, hc⟩ := h.rtag
  obtain ⟨cg, hcg⟩ := h.blk
  have hg : w'.heap[g]? = w.heap[g]? := by rw [hcg]; exact hk _ _ hcg (no75 (by decide))
  have hr : w'.heap[r]? = w.heap[r]? := by rw [hc]; exact hk _ _ hc (no75 (by decide))
  have o : ∀ i, w'.cell? ⟨g, i, none⟩ = w.cell? ⟨g, i, none⟩ := fun i => cell_of_block' hg i
  have o' : ∀ i, w'.cell? ⟨r, i, none⟩ = w.cell? ⟨r, i, none⟩ := fun i => cell_of_block' hr i
  refine ⟨h.le, h.lim, h.fit, h.lcr, h.tpr, ⟨cg, hg.trans hcg⟩, h.hB, h.ne, by rw [o]; exact h.src, fun j hj => by rw [o]; exact h.buf j hj, fun j hj => by rw [o]; exact h.all j hj, by rw [o]; exact h.sent,
    by rw [o]; exact h.cP, by rw [o]; exact h.cE, by rw [o]; exact h.cD, by rw [o]; exact h.cl, by rw [o]; exact h.cc, by rw [o]; exact h.cll, by rw [o]; exact h.clc, ⟨u, lr, by rw [o]; exact h0, by rw [o]; exact h1, by rw [o]; exact h2, ⟨h3.1, ?_⟩, h4⟩,
    by rw [o]; exact h.ctp, by rw [o']; exact h.rs, by rw [o']; exact h.ri, by rw [o']; exact h.rp, fun p => (frozen_of_block' hr p).trans (h.rfr p), ⟨cs, hr.trans hc⟩⟩
  rcases h3.2 with hn | ⟨q, cap, cur, rfl, hbq, hq, rest⟩
  · exact .inl hn
  · exact .inr ⟨q, cap, cur, rfl, hbq, hk _ _ hq (no75 (by decide)), rest⟩
theorem LexS.kept75 {B g r s k w w'} (h : LexS B g r s k w) (hk : Kept75 w w') (hb : Below B w w') : LexS B g r s k w' := by
  obtain ⟨cg, hcg⟩ := h.blk.1
  have o : ∀ i, w'.cell? ⟨g, i, none⟩ = w.cell? ⟨g, i, none⟩ := fun i => cell_of_block' (by rw [hcg]; exact hk _ _ hcg (no75 (by decide))) i
  refine ⟨?_, h.sky.below hb, ⟨by rw [o]; exact h.ls.e37, by rw [o]; exact h.ls.e38, by rw [o]; exact h.ls.e45, by rw [o]; exact h.ls.e46, by rw [o]; exact h.ls.e47⟩, by rw [o]; exact h.e39, by rw [o]; exact h.c41, by rw [o]; exact h.c42, by rw [o]; exact h.c43, by rw [o]; exact h.pk⟩
  rcases h.at' with ⟨h1, ⟨P, E, D, tp, C, hS, h2⟩, h3⟩ | ⟨ot, hL, h3⟩
  · exact Or.inl ⟨h1, ⟨P, E, D, tp, C, hS.kept75 hk, h2⟩, by rw [o]; exact h3⟩
  · refine Or.inr ⟨ot, ⟨?_, hL.sky.below hb⟩, by rw [o]; exact h3⟩
    rcases hL.at' with ⟨h1, P, E, D, tp, C, hS, h3⟩ | ⟨h1, tp, C, hS, h3⟩
    · exact Or.inl ⟨h1, P, E, D, tp, C, hS.kept75 hk, h3⟩
    · exact Or.inr ⟨h1, tp, C, hS.kept75 hk, h3⟩
theorem PS.kept75 {B g r s ts w w'} (h : PS B g r s ts w) (hk : Kept75 w w') (hb : Below B w w') : PS B g r s ts w' := by
  obtain ⟨n, T, h1, h2, h3⟩ := h
  exact ⟨n, T, h1.kept75 hk hb, h2, h3⟩
theorem PS.rtag {B g r s ts w} (h : PS B g r s ts w) : ∃ cs, w.heap[r]? = some (.cells cs 129 (0, 0)) := by
  obtain ⟨n, T, h1, _, _⟩ := h
  rcases h1.at' with ⟨_, ⟨_, _, _, _, _, hS, _⟩, _⟩ | ⟨_, hL, _⟩
  · exact hS.rtag
  · rcases hL.at' with ⟨_, _, _, _, _, _, hS, _⟩ | ⟨_, _, _, hS, _⟩
    · exact hS.rtag
    · exact hS.rtag
/-- A row of numbers is kept by what the lexer does. -/
theorem row_gx {B g r s ts w w' v n xs} (h : w.ownsRow B 75 1 v n xs) (hp : PS B g r s ts w) (hg : GX B g r w w') : w'.ownsRow B 75 1 v n xs := by
  refine ⟨h.1, ?_⟩
  rcases h.2 with hn | ⟨q, cap, cur, rfl, hbq, hq, rest⟩
  · exact .inl hn
  · refine .inr ⟨q, cap, cur, rfl, hbq, ?_, rest⟩
    obtain ⟨cg, hcg⟩ := hp.blk.1
    obtain ⟨cr, hcr⟩ := hp.rtag
    refine hg.ko q _ hq ?_ ?_ (fun c fz e => by injection e with _ e _; exact absurd e (by decide))
    · rintro rfl
      rw [hcg] at hq
      have := Option.some.inj hq
      injection this with _ e _
      exact absurd e (by decide)
    · rintro rfl
      rw [hcr] at hq
      have := Option.some.inj hq
      injection this with _ e _
      exact absurd e (by decide)
theorem kept75_grown {B w w' v n xs} (h : w.ownsRow B 75 1 v n xs) (hg : w.grownBy w' v.ownBlock) : Kept75 w w' := by
  intro k o hk ho
  have hlt : k < w.heap.size := (Array.getElem?_eq_some_iff.mp hk).1
  rw [hg.block k hlt ?_]
  · exact hk
  · intro e
    rcases h.2 with ⟨rfl, _⟩ | ⟨q, cap, cur, rfl, hbq, hq, rest⟩
    · simp [Value.ownBlock] at e
    · simp only [Value.ownBlock, Option.some.injEq] at e
      subst e
      rw [hk] at hq
      exact ho _ _ (Option.some.inj hq)
theorem kept75_alloc (w : World) (x : Obj) : Kept75 w (w.alloc x) := fun k o h _ => alloc_kept w x k o h
theorem Kept75.trans {a b c} (h : Kept75 a b) (k : Kept75 b c) : Kept75 a c := fun i o h1 h2 => k i o (h i o h1 h2) h2
theorem below_grown {B w w' v n xs} (h : w.ownsRow B 75 1 v n xs) (hg : w.grownBy w' v.ownBlock) (hB : B ≤ w.heap.size) : Below B w w' :=
  (Below.refl B w).grown hg hB (fun k hk => (h.lt k hk).1)

/-- Numbers from the tokens. -/
inductive Lits (T : Nat → Nat × Nat) (F : Nat → Nat) : List ByteArray → List Nat → List ByteArray → Prop
  | nil {ts} : Lits T F ts [] ts
  | snoc {ts xs ts' x ts''} (h : Lits T F ts xs ts') (k : Lit T F ts' x ts'') : Lits T F ts (xs ++ [x]) ts''
theorem Lit.det {T F ts x ts' y ts''} (h : Lit T F ts x ts') (k : Lit T F ts y ts'') : x = y ∧ ts' = ts'' := by
  cases h with
  | pos h1 hx =>
    cases k with
    | pos k1 ky => rw [hx] at ky; simp at ky; exact ⟨by rw [ky], rfl⟩
    | neg k1 ky => exact absurd h1 (fun h => h.not_minus)
  | neg h1 hx =>
    cases k with
    | pos k1 ky => exact absurd k1 (fun h => h.not_minus)
    | neg k1 ky => rw [hx] at ky; simp at ky; exact ⟨by rw [ky], rfl⟩
theorem Lits.det {T F ts xs ts'} (h : Lits T F ts xs ts') : ∀ {ys ts''}, Lits T F ts ys ts'' → xs.length = ys.length → xs = ys ∧ ts' = ts'' := by
  induction h with
  | nil =>
    intro ys ts'' k hl
    cases k with
    | nil => exact ⟨rfl, rfl⟩
    | snoc _ _ => simp at hl
  | snoc h k ih =>
    intro ys ts'' k' hl
    cases k' with
    | nil => simp at hl
    | snoc h2 k2 =>
      simp at hl
      obtain ⟨rfl, rfl⟩ := ih h2 hl
      obtain ⟨rfl, rfl⟩ := k.det k2
      exact ⟨rfl, rfl⟩
theorem Lits.cut {T F ts xs ts'} (h : Lits T F ts xs ts') : ∀ i, i < xs.length → ∃ ys ts1 x ts2, ys.length = i ∧ Lits T F ts ys ts1 ∧ Lit T F ts1 x ts2 := by
  induction h with
  | nil => intro i hi; simp at hi
  | snoc h k ih =>
    intro i hi
    simp at hi
    rcases Nat.lt_or_ge i _ with hlt | hge
    · exact ih i hlt
    · exact ⟨_, _, _, _, by omega, h, k⟩
def wid (c : Nat) : Nat := if c = 0 then 2 else if c = 3 then 4 else 3
set_option maxRecDepth 100000 in
theorem dim_ok (c : Nat) (hc : c < 4) (w : World) : Calls Tryz.prog 60 #[.int .u8 (c : Int)] w fun e w' => e = .returned (.int .i64 (wid c : Int)) ∧ w' = w := by
  have h4 : c = 0 ∨ c = 1 ∨ c = 2 ∨ c = 3 := by omega
  have hbd : ∀ W, Sem.run Tryz.prog (Instr.build 135 #[(0, .int .i64 2), (1, .int .i64 3), (2, .int .i64 3), (3, .int .i64 4)]) W = .ok (.agg #[.int .i64 2, .int .i64 3, .int .i64 3, .int .i64 4]) W := fun W => run_build W 135 _ _ (by kernel_rfl)
  have hx0 : ∀ W, Sem.run Tryz.prog (Instr.index 135 (.agg #[.int .i64 2, .int .i64 3, .int .i64 3, .int .i64 4]) (.int .u8 0)) W = .ok (.int .i64 2) W := fun W => by kernel_rfl
  have hx1 : ∀ W, Sem.run Tryz.prog (Instr.index 135 (.agg #[.int .i64 2, .int .i64 3, .int .i64 3, .int .i64 4]) (.int .u8 1)) W = .ok (.int .i64 3) W := fun W => by kernel_rfl
  have hx2 : ∀ W, Sem.run Tryz.prog (Instr.index 135 (.agg #[.int .i64 2, .int .i64 3, .int .i64 3, .int .i64 4]) (.int .u8 2)) W = .ok (.int .i64 3) W := fun W => by kernel_rfl
  have hx3 : ∀ W, Sem.run Tryz.prog (Instr.index 135 (.agg #[.int .i64 2, .int .i64 3, .int .i64 3, .int .i64 4]) (.int .u8 3)) W = .ok (.int .i64 4) W := fun W => by kernel_rfl
  rcases h4 with rfl | rfl | rfl | rfl
  all_goals
    go_enter Tryz.func60, Tryz.ntmps60
    go_wp2_with fail
    go_ret
    exact ⟨rfl, rfl⟩
theorem float75 : ∃ i, Tryz.prog.info? 75 = some i ∧ i.zero = some (.float .f64 0) ∧ i.size = 1 ∧ i.bytes = 8 := info_parts (P := Tryz.prog) (e := 75) (z := .float .f64 0) (size := 1) (bytes := 8) (by kernel_rfl)
def flts (xs : List Nat) : List Value := xs.map fun x => .float .f64 x
end Go.Proofs.YthplmbgdcfmkgaaGreatDoor
/- nextPointAppend. -/
namespace Go.Proofs.YthplmbgdcfmkgaaGreatDoor
open Go.RowKit Go.Proofs Go.Sort

theorem append_flts {ops : Array Oper} {rest : List Oper} {o : Oper} {a : Act} {Q : Exit → Act → World → Prop} (hgd : o.guard = none) (s x : Operand)
    (ho : o.op = .call { callee := .builtin .append, args := #[s, x], argTypes := #[30, 30] }) (B : Nat) (v : Value) (n : Nat) (xs : List Value) (hs : a.eval s = v) (w0 : World) (cs : List Nat)
    (hown : w0.ownsRow B 75 1 v n xs) (hx : a.eval x = .slice (some ⟨w0.heap.size, 0, none⟩) cs.length cs.length) (hlen : n + cs.length ≤ 1000000) (hB : B ≤ w0.heap.size)
    (h : ∀ v' w', w'.ownsRow B 75 1 v' (n + cs.length) (xs ++ flts cs) → Kept75 w0 w' → Below B w0 w' → wpList Tryz.prog ops Q rest (a.put o.dst v') w') : wpList Tryz.prog ops Q (o :: rest) a (w0.alloc (.cells (flts cs).toArray 75)) := by
  obtain ⟨i0, hi, hz0, hz1, hz2⟩ := float75
  have u30 : Tryz.prog.underlying 30 = some (.slice 75) := by kernel_rfl
  have hb' := hown.alloc (.cells (flts cs).toArray 75)
  have hl : (flts cs).length = cs.length := by simp [flts]
  refine wpList_append_own _ hgd s x 30 ho B 75 i0 (.float .f64 0) 1 8 u30 hi hz0 hz1 hz2 rfl (by decide) v n xs hs hb' ⟨w0.heap.size, 0, none⟩ cs.length cs.length (flts cs) hx (by rw [hl, Nat.mul_one]) ?_ ?_ (by unfold maxLen; omega) (by omega) (by show B ≤ (w0.heap.push _).size; rw [Array.size_push]; omega) ?_
  · intro j u hj
    have hadd : (⟨w0.heap.size, 0, none⟩ : Addr).add j = ⟨w0.heap.size, j, none⟩ := by unfold Addr.add; split <;> simp_all
    rw [hadd, Lib.cell_of_heap (alloc_new w0 _), List.getElem?_toArray]
    exact hj
  · intro u hu
    simp only [flts, List.mem_map] at hu
    obtain ⟨c, _, rfl⟩ := hu
    rfl
  · intro v' w' ho' hg _
    refine h v' w' ho' ((kept75_alloc w0 _).trans (kept75_grown hb' hg)) ((alloc_below B w0 _ hB).trans (below_grown hb' hg (by show B ≤ (w0.heap.push _).size; rw [Array.size_push]; omega)))
theorem Lit.mem {T F ts x ts'} (h : Lit T F ts x ts') : ∀ t ∈ ts', t ∈ ts := by
  cases h with
  | pos _ _ => intro t ht; exact List.mem_cons_of_mem _ ht
  | neg _ _ => intro t ht; exact List.mem_cons_of_mem _ (List.mem_cons_of_mem _ ht)
theorem Lits.mem {T F ts xs ts'} (h : Lits T F ts xs ts') : ∀ t ∈ ts', t ∈ ts := by
  induction h with
  | nil => intro t ht; exact ht
  | snoc _ k ih => intro t ht; exact ih t (k.mem t ht)
/-- What the parser leaves as it was. -/
structure HX (B g r : Nat) (w w' : World) : Prop where
  below : Below B w w'
  ko : ∀ (k : Nat) (o : Obj), w.heap[k]? = some o → k ≠ g → k ≠ r → (∀ c fz, o ≠ .cells c 5 fz) → (∀ c fz, o ≠ .cells c 75 fz) → w'.heap[k]? = some o
theorem HX.refl (B g r : Nat) (w : World) : HX B g r w w := ⟨Below.refl _ _, fun _ _ h _ _ _ _ => h⟩
theorem HX.trans {B g r a b c} (h : HX B g r a b) (k : HX B g r b c) : HX B g r a c :=
  ⟨h.below.trans k.below, fun i o h1 h2 h3 h4 h5 => k.ko i o (h.ko i o h1 h2 h3 h4 h5) h2 h3 h4 h5⟩
theorem GX.hx {B g r a b} (h : GX B g r a b) : HX B g r a b := ⟨h.below, fun k o h1 h2 h3 h4 _ => h.ko k o h1 h2 h3 h4⟩
theorem HX.of75 {B g r a b} (h : Kept75 a b) (hb : Below B a b) : HX B g r a b := ⟨hb, fun k o h1 _ _ _ h5 => h k o h1 h5⟩
def PtPost (T : Nat → Nat × Nat) (F : Nat → Nat) (B g r : Nat) (s : ByteArray) (ts : List ByteArray) (n : Nat) (xs : List Value) (N : Nat) (w : World) (e : Ending) (w' : World) : Prop :=
  HX B g r w w' ∧ ((∃ ys ts' v', Lits T F ts ys ts' ∧ ys.length = N ∧ e = .returned (.tuple #[v', .nilIface]) ∧ w'.ownsRow B 75 1 v' (n + N) (xs ++ flts ys) ∧ PS B g r s ts' w') ∨
    ((¬ ∃ ys ts', Lits T F ts ys ts' ∧ ys.length = N) ∧ ∃ u v, e = .returned (.tuple #[.slice none 0 0, .iface u v])))
set_option maxHeartbeats 2000000 in
set_option maxRecDepth 100000 in
theorem point_append {T F B g r s ts} {v : Value} {n : Nat} {xs : List Value} {w : World} (c : Nat) (hc : c < 4) (he : Env B s w) (h : PS B g r s ts w) (ht : TB B T F w) (hk : ∀ t ∈ ts, TK t) (hown : w.ownsRow B 75 1 v n xs) (hn : n ≤ 100000) :
    Calls Tryz.prog 42 #[.pointer (some ⟨g, 0, none⟩), v, .int .u8 (c : Int)] w (PtPost T F B g r s ts n xs (wid c) w) := by
  have HE := Lib.hid he
  have HP := Lib.hid h
  have HT := Lib.hid ht
  have HK := Lib.hid hk
  have HO := Lib.hid hown
  have cD := fun W : World => dim_ok c hc W
  have hN : wid c ≤ 4 := by unfold wid; split <;> (try split) <;> omega
  obtain ⟨N, hNe⟩ : ∃ N, N = wid c := ⟨_, rfl⟩
  rw [← hNe] at cD hN ⊢
  have CD := Lib.hid cD
  clear he h ht hk hown cD hNe
  go_enter Tryz.func42, Tryz.ntmps42
  go_wp2_with fail
  go_loopg [1, 8, 9, 10] N (fun q sd si s9 s10 wr => ∃ (i : Nat) (ys : List Nat) (ts1 : List ByteArray), i ≤ N ∧ q + i = N ∧ si = .int .i64 (i : Int) ∧ Hid (ys.length = i) ∧ Hid (Lits T F ts ys ts1) ∧ Hid (wr.ownsRow B 75 1 sd (n + i) (xs ++ flts ys)) ∧ Hid (PS B g r s ts1 wr) ∧ Hid (HX B g r w wr))
  case atStart => exact ⟨0, [], ts, by omega, by omega, rfl, rfl, Lits.nil, by simpa [flts] using HO, HP, HX.refl _ _ _ _⟩
  case round =>
    obtain ⟨i, ys, ts1, hi, hq, rfl, hys, hL, hO, hP, hB⟩ := hrel
    go_wp2_with fail
    refine (CD.out _).mono ?_
    rintro e w2 ⟨rfl, hw⟩
    obtain rfl := hw.symm
    by_cases hiN : i < N
    · have hlt : (i : Int) < (N : Int) := by omega
      go_wp2_with fail
      refine (signed_lit (HE.out.below hB.out.below) hP.out (HT.out.below hB.out.below) (fun t ht => HK.out t (hL.out.mem t ht))).mono ?_
      rintro e w3 ⟨hG, ⟨x, ts2, hl, rfl, hP3⟩ | ⟨hno, f, u, z, rfl⟩⟩
      · have HG := Lib.hid hG
        have Hl := Lib.hid hl
        have HP3 := Lib.hid hP3
        have hO3 : Hid (w3.ownsRow B 75 1 u1 (n + i) (xs ++ flts ys)) := row_gx hO.out hP.out hG
        have hBw3 : B ≤ w3.heap.size := by have h1 := hP3.blk.2.1; have h2 := hP3.blk.1.lt; omega
        clear hG hl hP3
        go_wp2_with (at_builtin; refine append_flts rfl _ _ rfl B u1 (n + i) (xs ++ flts ys) rfl w3 [x] hO3.out rfl (by show n + i + 1 ≤ 1000000; omega) hBw3 ?_; intro v4 w4 hO4 hK4 hB4)
        have HO4 := Lib.hid hO4
        have HP4 : Hid (PS B g r s ts2 w4) := HP3.out.kept75 hK4 hB4
        have HB4 : Hid (HX B g r w w4) := (hB.out.trans HG.out.hx).trans (HX.of75 hK4 hB4)
        clear hO4 hK4 hB4
        go_wp2_with fail
        go_roundg (gk - 1)
        case measure => omega
        case rel =>
          refine ⟨i + 1, ys ++ [x], ts2, by omega, by omega, by go_num, ?_, Lits.snoc hL.out Hl.out, ?_, HP4, HB4⟩
          · rw [Hid, List.length_append, hys.out]; rfl
          · have := HO4.out
            rw [List.append_assoc] at this
            simpa [Hid, flts, Nat.add_assoc] using this
      · have HG := Lib.hid hG
        have Hno := Lib.hid hno
        clear hG hno
        go_wp2_with fail
        go_ret2
        refine ⟨hB.out.trans HG.out.hx, Or.inr ⟨?_, _, _, rfl⟩⟩
        rintro ⟨zs, ts3, h1, h2⟩
        obtain ⟨ys', ts4, x, ts5, h3, h4, h5⟩ := h1.cut i (by omega)
        obtain ⟨rfl, rfl⟩ := h4.det hL.out (by rw [h3, hys.out])
        exact Hno.out ⟨_, _, h5⟩
    · have hlt : ¬ ((i : Int) < (N : Int)) := by omega
      obtain rfl : i = N := by omega
      go_wp2_with fail
      go_ret2
      exact ⟨hB.out, Or.inl ⟨ys, ts1, _, hL.out, hys.out, rfl, hO.out, hP.out⟩⟩
end Go.Proofs.YthplmbgdcfmkgaaGreatDoor
/- Sequences and line strings as values. -/
namespace Go.Proofs.YthplmbgdcfmkgaaGreatDoor
open Go.RowKit Go.Proofs Go.Sort

/-- All objects are kept. -/
structure Kp (w w' : World) : Prop where
  ko : ∀ (k : Nat) (o : Obj), w.heap[k]? = some o → w'.heap[k]? = some o
  below : ∀ B, B ≤ w.heap.size → Below B w w'
theorem Kp.refl (w : World) : Kp w w := ⟨fun _ _ h => h, fun _ _ => Below.refl _ _⟩
theorem Kp.size {a b} (h : Kp a b) : a.heap.size ≤ b.heap.size := (h.below 0 (Nat.zero_le _)).size
theorem Kp.trans {a b c} (h : Kp a b) (k : Kp b c) : Kp a c := ⟨fun i o h1 => k.ko i o (h.ko i o h1), fun B hB => (h.below B hB).trans (k.below B (Nat.le_trans hB h.size))⟩
theorem Kp.alloc (w : World) (x : Obj) : Kp w (w.alloc x) := ⟨alloc_kept w x, fun B hB => alloc_below B w x hB⟩
theorem Kp.drewN {a w} (h : Kp a w) (n : Nat) : Kp a (w.drewN n) := ⟨h.ko, fun B hB => Below.drewN (h.below B hB) n⟩
/-- A store into a block that the first world has not. -/
theorem Kp.set {a w} (h : Kp a w) (b i : Nat) (hb : a.heap.size ≤ b) (v : Value) : Kp a (w.setCell ⟨b, i, none⟩ v) :=
  ⟨fun k o hk => by rw [Below.heap_setCell _ _ _ _ (by have := (Array.getElem?_eq_some_iff.mp hk).1; show k ≠ b; omega)]; exact h.ko k o hk,
   fun B hB => (h.below B hB).setCell (p := ⟨b, i, none⟩) (by show B ≤ b; omega) v⟩
theorem Kp.row {a w} (h : Kp a w) (b : Nat) (hb : a.heap.size ≤ b) (cs : Array Value) : Kp a (w.setRow b cs) :=
  ⟨fun k o hk => by rw [setRow_other w b k _ (by have := (Array.getElem?_eq_some_iff.mp hk).1; omega)]; exact h.ko k o hk,
   fun B hB => (h.below B hB).trans ⟨rfl, rfl, rfl, by simp [World.setRow], fun k hk => setRow_other w b k _ (by omega)⟩⟩

set_option maxRecDepth 100000 in
theorem new_seq (ao : Option Addr) (n cap c : Nat) (hc : c < 4) (hn : n % wid c = 0) (hn2 : n ≤ 100000) (w : World) :
    Calls Tryz.prog 44 #[.slice ao n cap, .int .u8 (c : Int)] w fun e w' => e = .returned (.agg #[.int .u8 (c : Int), .slice ao n cap]) ∧ Kp w w' := by
  have cD := fun W : World => dim_ok c hc W
  obtain ⟨N, hNe⟩ : ∃ N, N = wid c := ⟨_, rfl⟩
  have hN : 0 < N := by rw [hNe]; unfold wid; split <;> (try split) <;> omega
  rw [← hNe] at cD hn
  have CD := Lib.hid cD
  have hmod : Int.tmod (n : Int) (N : Int) = 0 := by
    rw [Int.tmod_eq_emod_of_nonneg (Int.natCast_nonneg n), ← Int.natCast_emod, hn]; rfl
  clear cD hNe
  go_enter Tryz.func44, Tryz.ntmps44
  go_wp2_with fail
  refine (CD.out _).mono ?_
  rintro e w2 ⟨rfl, hw⟩
  obtain rfl := hw.symm
  go_wp2_with fail
  exact ⟨rfl, _, results_cell_row rfl _ _ w.heap.size 40 #[.int .u8 (c : Int), .slice ao n cap] (0, 0) (.struct (Tryz.prog.fieldsOf 40)) rfl (alloc_new w _) (by kernel_rfl) rfl (by kernel_rfl), rfl, Kp.alloc w _⟩
set_option maxRecDepth 100000 in
theorem new_line (c : Nat) (ao : Option Addr) (n cap : Nat) (w : World) :
    Calls Tryz.prog 45 #[.agg #[.int .u8 (c : Int), .slice ao n cap]] w fun e w' => e = .returned (.agg #[.int .u8 (c : Int), .slice ao n cap]) ∧ Kp w w' := by
  go_enter Tryz.func45, Tryz.ntmps45
  go_wp2_with fail
  have hs : (w.alloc (Obj.cells #[.int .u8 (c : Int), .slice ao n cap] 40)).heap.size = w.heap.size + 1 := by show (w.heap.push _).size = _; rw [Array.size_push]
  have hn := alloc_new (w.alloc (Obj.cells #[.int .u8 (c : Int), .slice ao n cap] 40)) (Obj.cells #[.int .u8 (c : Int), .slice ao n cap] 42)
  rw [hs] at hn
  exact ⟨rfl, _, results_cell_row rfl _ _ (w.heap.size + 1) 42 #[.int .u8 (c : Int), .slice ao n cap] (0, 0) (.struct (Tryz.prog.fieldsOf 42)) rfl hn (by kernel_rfl) rfl (by kernel_rfl), rfl, (Kp.alloc w _).trans (Kp.alloc _ _)⟩
theorem res_cell_tmp {fn : Func} {p u : Tmp} {ty : TypeId} (h : fn.results = #[.cell p ty, .tmp u]) (tmps : Array Value) (w : World) (b : Nat) (cs : Array Value)
    (hp : tmps.getD p undef = .pointer (some ⟨b, 0, none⟩)) (hl : (loadVar ty ⟨b, 0, none⟩).run Tryz.prog w = .ok (.agg cs) w) :
    (results fn tmps).run Tryz.prog w = .ok (.tuple #[.agg cs, tmps.getD u undef]) w := by
  rw [results_cell_tmp h, hp]
  simp [asAddr, hl]
theorem load42 {w : World} {b : Nat} {cs : Array Value} (hg : w.heap[b]? = some (.cells cs 42 (0, 0))) (hs : cs.size = 2) : (loadVar 42 ⟨b, 0, none⟩).run Tryz.prog w = .ok (.agg cs) w :=
  run_loadVar_row w b 42 42 cs (0, 0) (.struct (Tryz.prog.fieldsOf 42)) hg (by kernel_rfl) rfl (by rw [hs]; kernel_rfl)
/-- What stands behind the first place. -/
inductive Tail (T : Nat → Nat × Nat) (F : Nat → Nat) (N : Nat) : List ByteArray → List Nat → Prop
  | close {t ts} (h : t.toList = [41]) : Tail T F N (t :: ts) []
  | comma {t ts ys ts' zs} (h : t.toList = [44]) (hl : Lits T F ts ys ts') (hn : ys.length = N) (hz : Tail T F N ts' zs) : Tail T F N (t :: ts) (ys ++ zs)
/-- A line's body: its numbers. -/
inductive Body (T : Nat → Nat × Nat) (F : Nat → Nat) (N : Nat) : List ByteArray → List Nat → Prop
  | empty {t ts} (h : t.toList = [69, 77, 80, 84, 89]) : Body T F N (t :: ts) []
  | some {t ts ys ts' zs} (h : t.toList = [40]) (hl : Lits T F ts ys ts') (hn : ys.length = N) (hz : Tail T F N ts' zs) : Body T F N (t :: ts) (ys ++ zs)
theorem Lit.len {T F ts x ts'} (h : Lit T F ts x ts') : ts'.length ≤ ts.length := by
  cases h <;> simp <;> omega
theorem Lits.len {T F ts xs ts'} (h : Lits T F ts xs ts') : ts'.length ≤ ts.length := by
  induction h with
  | nil => exact Nat.le_refl _
  | snoc _ k ih => exact Nat.le_trans k.len ih
def LinePost (T : Nat → Nat × Nat) (F : Nat → Nat) (B g r : Nat) (s : ByteArray) (ts : List ByteArray) (c : Nat) (w : World) (e : Ending) (w' : World) : Prop :=
  HX B g r w w' ∧ ((∃ xs ao cap, Body T F (wid c) ts xs ∧ xs.length % wid c = 0 ∧ e = .returned (.tuple #[.agg #[.int .u8 (c : Int), .slice ao xs.length cap], .nilIface]) ∧ w'.ownsRow B 75 1 (.slice ao xs.length cap) xs.length (flts xs)) ∨
    ((¬ ∃ xs, Body T F (wid c) ts xs) ∧ ∃ u v, e = .returned (.tuple #[.agg #[.int .u8 0, .slice none 0 0], .iface u v])))
theorem Kp.hx {B g r w w'} (h : Kp w w') (hB : B ≤ w.heap.size) : HX B g r w w' := ⟨h.below B hB, fun k o h1 _ _ _ _ => h.ko k o h1⟩
theorem PS.kp {B g r s ts w w'} (h : PS B g r s ts w) (k : Kp w w') : PS B g r s ts w' := by
  have hB : B ≤ w.heap.size := by have h1 := h.blk.2.1; have h2 := h.blk.1.lt; omega
  exact h.kept75 (fun i o h1 _ => k.ko i o h1) (k.below B hB)
theorem row_kp {B w w' v n xs} (h : w.ownsRow B 75 1 v n xs) (k : Kp w w') : w'.ownsRow B 75 1 v n xs := by
  refine ⟨h.1, ?_⟩
  rcases h.2 with hn | ⟨q, cap, cur, rfl, hbq, hq, rest⟩
  · exact .inl hn
  · exact .inr ⟨q, cap, cur, rfl, hbq, k.ko _ _ hq, rest⟩
theorem row_slice {B : Nat} {w : World} {v : Value} {n : Nat} {xs : List Value} (h : w.ownsRow B 75 1 v n xs) : ∃ ao cap, v = .slice ao n cap := by
  rcases h.2 with ⟨rfl, rfl⟩ | ⟨q, cap, cur, rfl, _⟩
  · exact ⟨_, _, rfl⟩
  · exact ⟨_, _, rfl⟩
/-- The result's block: it is kept by the parser. -/
theorem res_keep {B g r w w' b A} (h : HX B g r w w') (hb : w.heap[b]? = some (.cells A 42 (0, 0))) (hg : b ≠ g) (hr : b ≠ r) : w'.heap[b]? = some (.cells A 42 (0, 0)) :=
  h.ko b _ hb hg hr (fun c fz e => by injection e with _ e _; exact absurd e (by decide)) (fun c fz e => by injection e with _ e _; exact absurd e (by decide))
theorem HX.setNew {B g r w w1} (h : HX B g r w w1) (b i : Nat) (hb : w.heap.size ≤ b) (hB : B ≤ w.heap.size) (v : Value) : HX B g r w (w1.setCell ⟨b, i, none⟩ v) :=
  ⟨h.below.setCell (p := ⟨b, i, none⟩) (by show B ≤ b; omega) v, fun k o h1 h2 h3 h4 h5 => by rw [Below.heap_setCell _ _ _ _ (by have := (Array.getElem?_eq_some_iff.mp h1).1; show k ≠ b; omega)]; exact h.ko k o h1 h2 h3 h4 h5⟩
theorem line_err {T F B g r s ts c} {w w1 : World} {b : Nat} {A : Array Value} (hX : HX B g r w w1) (hb : w1.heap[b]? = some (.cells A 42 (0, 0))) (hA : A.size = 2) (hbs : w.heap.size ≤ b) (hBw : B ≤ w.heap.size) (hno : ¬ ∃ xs, Body T F (wid c) ts xs)
    (tmps : Array Value) (hp : tmps.getD 4 undef = .pointer (some ⟨b, 0, none⟩)) (u : TypeId) (v : Value) (he : tmps.getD 5 undef = .iface u v) :
    bodyPost Tryz.prog Tryz.f23 (LinePost T F B g r s ts c w) Exit.ret { tmps := tmps, defers := [] } ((w1.setCell ⟨b, 0, none⟩ (.int .u8 0)).setCell ⟨b, 1, none⟩ (.slice none 0 0)) := by
  have h2 := Lib.heap_setCell_same (i := 1) (Lib.heap_setCell_same (i := 0) hb (.int .u8 0)) (.slice none 0 0)
  have hAe : (A.setIfInBounds 0 (.int .u8 0)).setIfInBounds 1 (.slice none 0 0) = #[.int .u8 0, .slice none 0 0] := by
    obtain ⟨l⟩ := A
    match l, hA with
    | [x, y], _ => rfl
  rw [hAe] at h2
  refine ⟨rfl, _, res_cell_tmp rfl tmps _ b _ hp (load42 h2 rfl), (hX.setNew b 0 hbs hBw _).setNew b 1 hbs hBw _, Or.inr ⟨hno, u, v, by rw [he]⟩⟩
theorem line_ok {T F B g r s ts c} {w w1 : World} {b : Nat} {A : Array Value} (hX : HX B g r w w1) (hb : w1.heap[b]? = some (.cells A 42 (0, 0))) (hA : A.size = 2) (hbs : w.heap.size ≤ b) (hBw : B ≤ w.heap.size) (xs : List Nat) (ao : Option Addr) (cap : Nat) (hbody : Body T F (wid c) ts xs) (hmod : xs.length % wid c = 0)
    (hrow : w1.ownsRow B 75 1 (.slice ao xs.length cap) xs.length (flts xs))
    (tmps : Array Value) (hp : tmps.getD 4 undef = .pointer (some ⟨b, 0, none⟩)) (he : tmps.getD 5 undef = .nilIface) :
    bodyPost Tryz.prog Tryz.f23 (LinePost T F B g r s ts c w) Exit.ret { tmps := tmps, defers := [] } ((w1.setCell ⟨b, 0, none⟩ (.int .u8 (c : Int))).setCell ⟨b, 1, none⟩ (.slice ao xs.length cap)) := by
  have h2 := Lib.heap_setCell_same (i := 1) (Lib.heap_setCell_same (i := 0) hb (.int .u8 (c : Int))) (.slice ao xs.length cap)
  have hAe : (A.setIfInBounds 0 (.int .u8 (c : Int))).setIfInBounds 1 (.slice ao xs.length cap) = #[.int .u8 (c : Int), .slice ao xs.length cap] := by
    obtain ⟨l⟩ := A
    match l, hA with
    | [x, y], _ => rfl
  rw [hAe] at h2
  refine ⟨rfl, _, res_cell_tmp rfl tmps _ b _ hp (load42 h2 rfl), (hX.setNew b 0 hbs hBw _).setNew b 1 hbs hBw _, Or.inl ⟨xs, ao, cap, hbody, hmod, by rw [he], ?_⟩⟩
  refine ⟨hrow.1, ?_⟩
  rcases hrow.2 with hn | ⟨q, cap', cur, hv, hbq, hq, rest⟩
  · exact .inl hn
  · refine .inr ⟨q, cap', cur, hv, hbq, ?_, rest⟩
    have hqb : q ≠ b := by
      rintro rfl
      rw [hb] at hq
      have := Option.some.inj hq
      injection this with _ e _
      exact absurd e (by decide)
    rw [Below.heap_setCell _ _ _ _ hqb, Below.heap_setCell _ _ _ _ hqb]
    exact hq
set_option maxHeartbeats 4000000 in
set_option maxRecDepth 100000 in
theorem line_text {T F B g r s ts} {w : World} (c : Nat) (hc : c < 4) (he : Env B s w) (h : PS B g r s ts w) (ht : TB B T F w) (hk : ∀ t ∈ ts, TK t) (hlen : ts.length ≤ 3000) :
    Calls Tryz.prog 23 #[.pointer (some ⟨g, 0, none⟩), .int .u8 (c : Int)] w (LinePost T F B g r s ts c w) := by
  have HE := Lib.hid he
  have HP := Lib.hid h
  have HT := Lib.hid ht
  have HK := Lib.hid hk
  have hgl := h.blk.1.lt
  have hBg := h.blk.2.1
  obtain ⟨cr, hcr⟩ := h.rtag
  have hrl := Lib.lt_of_heap hcr
  have hN4 : wid c ≤ 4 := by unfold wid; split <;> (try split) <;> omega
  have hN0 : 0 < wid c := by unfold wid; split <;> (try split) <;> omega
  obtain ⟨b, hb⟩ : ∃ b, b = w.heap.size := ⟨_, rfl⟩
  have hbs : Hid (w.heap.size ≤ b) := by show w.heap.size ≤ b; omega
  have hbg : b ≠ g := by omega
  have hbr : b ≠ r := by omega
  clear he h ht hk hcr
  go_enter Tryz.func23, Tryz.ntmps23
  go_upto_region 2 with fail
  obtain ⟨w0, hw0⟩ : ∃ w0, w0 = w.alloc (Obj.cells #[.int .u8 0, .slice none 0 0] 42) := ⟨_, rfl⟩
  rw [← hw0, ← hb]
  have hkp : Hid (Kp w w0) := by rw [hw0]; exact Kp.alloc w _
  have hres : Hid (w0.heap[b]? = some (.cells #[.int .u8 0, .slice none 0 0] 42 (0, 0))) := by rw [hw0, hb]; exact alloc_new w _
  have HP0 : Hid (PS B g r s ts w0) := HP.out.kp hkp.out
  have hBw : Hid (B ≤ w.heap.size) := by show B ≤ _; omega
  have HX0 : Hid (HX B g r w w0) := hkp.out.hx hBw.out
  clear hw0 hb
  go_wp2_with fail
  refine (empty_or_paren (HE.out.below HX0.out.below) HP0.out).mono ?_
  rintro e w1 ⟨hG, ⟨t, ts1, hts, hor, rfl, hP1⟩ | ⟨hbad, u, v, rfl⟩⟩
  · have HG : Hid (HX B g r w w1) := HX0.out.trans hG.hx
    have HB1 : Hid (w1.heap[b]? = some (.cells #[.int .u8 0, .slice none 0 0] 42 (0, 0))) := res_keep hG.hx hres.out hbg hbr
    have Hts := Lib.hid hts
    have HP1 := Lib.hid hP1
    have hgn := HP1.out.blk
    clear hG hts hP1
    by_cases hp : t.toList = [40]
    · have t40 : (t.toList == [40]) = true := by rw [beq_iff_eq]; exact hp
      have Hp := Lib.hid hp
      have Hor := Lib.hid hor
      clear hp hor
      go_wp2_with fail
      refine (point_append c hc (HE.out.below HG.out.below) HP1.out (HT.out.below HG.out.below) (fun t ht => HK.out t (by rw [Hts.out]; exact List.mem_cons_of_mem _ ht)) (World.ownsRow_nil w1 B 75 1) (by omega)).mono ?_
      rintro e w2 ⟨hX2, ⟨ys, ts2, v2, hl, hyl, rfl, hO2, hP2⟩ | ⟨hbad, u, v, rfl⟩⟩
      · have HX2 : Hid (HX B g r w w2) := HG.out.trans hX2
        have HB2 : Hid (w2.heap[b]? = some (.cells #[.int .u8 0, .slice none 0 0] 42 (0, 0))) := res_keep hX2 HB1.out hbg hbr
        have HO2 : Hid (w2.ownsRow B 75 1 v2 ys.length (flts ys)) := by have := hO2; rw [← hyl] at this; simpa [Hid] using this
        have HP2 := Lib.hid hP2
        have inv1 : Hid (∀ zs, Tail T F (wid c) ts2 zs → Body T F (wid c) ts (ys ++ zs)) := fun zs hz => by rw [Hts.out]; exact Body.some Hp.out hl hyl hz
        have inv2 : Hid (∀ xs, Body T F (wid c) ts xs → ∃ zs, Tail T F (wid c) ts2 zs) := by
          intro xs hx
          rw [Hts.out] at hx
          cases hx with
          | empty h => rw [Hp.out] at h; exact absurd h (by decide)
          | some h h2 h3 h4 =>
            obtain ⟨rfl, rfl⟩ := hl.det h2 (by rw [hyl, h3])
            exact ⟨_, h4⟩
        have Hmod : Hid (ys.length % wid c = 0) := by rw [Hid, hyl]; exact Nat.mod_self _
        have hmem : Hid (∀ t ∈ ts2, t ∈ ts) := fun t ht => by rw [Hts.out]; exact List.mem_cons_of_mem _ (hl.mem t ht)
        have hlen2 : ts2.length ≤ 3000 := by have h1 := hl.len; have h2 := congrArg List.length Hts.out; simp at h2; omega
        have hylen : Hid (ys.length ≤ 4 * (3000 - ts2.length) + 4) := by rw [Hid, hyl]; omega
        clear hX2 hl hyl hO2 hP2
        go_wp2_with fail
        go_loopg [6, 9, 10] ts2.length (fun q sv s9 s10 wr => ∃ (acc : List Nat) (ts3 : List ByteArray), q = ts3.length ∧ ts3.length ≤ 3000 ∧ Hid (wr.ownsRow B 75 1 sv acc.length (flts acc)) ∧ Hid (PS B g r s ts3 wr) ∧ Hid (HX B g r w wr) ∧ Hid (wr.heap[b]? = some (.cells #[.int .u8 0, .slice none 0 0] 42 (0, 0))) ∧
          Hid (∀ zs, Tail T F (wid c) ts3 zs → Body T F (wid c) ts (acc ++ zs)) ∧ Hid (∀ xs, Body T F (wid c) ts xs → ∃ zs, Tail T F (wid c) ts3 zs) ∧ Hid (acc.length % wid c = 0) ∧ Hid (∀ t ∈ ts3, t ∈ ts) ∧ Hid (acc.length ≤ 4 * (3000 - ts3.length) + 4))
        case atStart => exact ⟨ys, ts2, rfl, hlen2, HO2, HP2, HX2, HB2, inv1, inv2, Hmod, hmem, hylen⟩
        case round =>
          obtain ⟨acc, ts3, rfl, hl3, hO, hP, hX, hB, i1, i2, hm, hme, hal⟩ := hrel
          go_wp2_with fail
          refine (comma_or_paren (HE.out.below hX.out.below) hP.out).mono ?_
          rintro e w3 ⟨hG3, ⟨t3, ts4, hts3, hor3, rfl, hP3⟩ | ⟨hbad, u, v, rfl⟩⟩
          · have HX3 : Hid (HX B g r w w3) := hX.out.trans hG3.hx
            have HB3 : Hid (w3.heap[b]? = some (.cells #[.int .u8 0, .slice none 0 0] 42 (0, 0))) := res_keep hG3.hx hB.out hbg hbr
            have HO3 : Hid (w3.ownsRow B 75 1 u6 acc.length (flts acc)) := row_gx hO.out hP.out hG3
            have Hts3 := Lib.hid hts3
            have HP3 := Lib.hid hP3
            have hl4 : ts4.length < ts3.length := by have h2 := congrArg List.length hts3; simp at h2; omega
            clear hG3 hts3 hP3
            by_cases hc44 : t3.toList = [44]
            · have t44 : (t3.toList == [44]) = true := by rw [beq_iff_eq]; exact hc44
              have Hc44 := Lib.hid hc44
              have Hor3 := Lib.hid hor3
              clear hc44 hor3
              go_wp2_with fail
              refine (point_append c hc (HE.out.below HX3.out.below) HP3.out (HT.out.below HX3.out.below) (fun t ht => HK.out t (hme.out t (by rw [Hts3.out]; exact List.mem_cons_of_mem _ ht))) HO3.out (by have := hal.out; omega)).mono ?_
              rintro e w5 ⟨hX5, ⟨ys5, ts5, v5, hl5, hyl5, rfl, hO5, hP5⟩ | ⟨hbad, u, v, rfl⟩⟩
              · have HX5 : Hid (HX B g r w w5) := HX3.out.trans hX5
                have HB5 : Hid (w5.heap[b]? = some (.cells #[.int .u8 0, .slice none 0 0] 42 (0, 0))) := res_keep hX5 HB3.out hbg hbr
                have HO5 : Hid (w5.ownsRow B 75 1 v5 (acc ++ ys5).length (flts (acc ++ ys5))) := by
                  have := hO5
                  rw [← hyl5] at this
                  simpa [Hid, flts] using this
                have HP5 := Lib.hid hP5
                have j1 : Hid (∀ zs, Tail T F (wid c) ts5 zs → Body T F (wid c) ts ((acc ++ ys5) ++ zs)) := fun zs hz => by
                  rw [List.append_assoc]; exact i1.out _ (by rw [Hts3.out]; exact Tail.comma Hc44.out hl5 hyl5 hz)
                have j2 : Hid (∀ xs, Body T F (wid c) ts xs → ∃ zs, Tail T F (wid c) ts5 zs) := by
                  intro xs hx
                  obtain ⟨zs, hz⟩ := i2.out xs hx
                  rw [Hts3.out] at hz
                  cases hz with
                  | close h => rw [Hc44.out] at h; exact absurd h (by decide)
                  | comma h h2 h3 h4 =>
                    obtain ⟨rfl, rfl⟩ := hl5.det h2 (by rw [hyl5, h3])
                    exact ⟨_, h4⟩
                have j3 : Hid ((acc ++ ys5).length % wid c = 0) := by rw [Hid, List.length_append, hyl5, Nat.add_mod_right]; exact hm.out
                have hl55 := hl5.len
                have j4 : Hid (∀ t ∈ ts5, t ∈ ts) := fun t ht => hme.out t (by rw [Hts3.out]; exact List.mem_cons_of_mem _ (hl5.mem t ht))
                have j5 : Hid ((acc ++ ys5).length ≤ 4 * (3000 - ts5.length) + 4) := by rw [Hid, List.length_append, hyl5]; have := hal.out; omega
                clear hX5 hl5 hyl5 hO5 hP5
                go_wp2_with fail
                go_roundg ts5.length
                case measure => omega
                case rel => exact ⟨acc ++ ys5, ts5, rfl, by omega, HO5, HP5, HX5, HB5, j1, j2, j3, j4, j5⟩
              · have HX5 : Hid (HX B g r w w5) := HX3.out.trans hX5
                have HB5 : Hid (w5.heap[b]? = some (.cells #[.int .u8 0, .slice none 0 0] 42 (0, 0))) := res_keep hX5 HB3.out hbg hbr
                have Hno : Hid (¬ ∃ xs, Body T F (wid c) ts xs) := by
                  rintro ⟨xs, hx⟩
                  obtain ⟨zs, hz⟩ := i2.out xs hx
                  rw [Hts3.out] at hz
                  cases hz with
                  | close h => rw [Hc44.out] at h; exact absurd h (by decide)
                  | comma h h2 h3 h4 => exact hbad ⟨_, _, h2, h3⟩
                clear hX5 hbad
                have d0 : w5.cell? ⟨b, 0, none⟩ = some (.int .u8 0) := by rw [Lib.cell_of_heap HB5.out]; rfl
                have d1 : w5.cell? ⟨b, 1, none⟩ = some (.slice none 0 0) := by rw [Lib.cell_of_heap HB5.out]; rfl
                have f0 := Lib.frozen_of_heap HB5.out 0
                have f1 := Lib.frozen_of_heap HB5.out 1
                go_wp2_with fail
                exact line_err HX5.out HB5.out rfl hbs.out hBw.out Hno.out _ rfl _ _ rfl
            · have t44 : (t3.toList == [44]) = false := by rw [beq_eq_false_iff_ne]; exact hc44
              have h41 : t3.toList = [41] := by rcases hor3 with h | h; exact h; exact absurd h hc44
              have H41 := Lib.hid h41
              clear hc44 h41 hor3
              obtain ⟨ao, cap, hv6⟩ := row_slice HO3.out
              subst hv6
              have hbody : Hid (Body T F (wid c) ts acc) := by
                have := i1.out [] (by rw [Hts3.out]; exact Tail.close H41.out)
                rwa [List.append_nil] at this
              obtain ⟨n3, hn3⟩ : ∃ n, n = acc.length := ⟨_, rfl⟩
              have cS := fun W : World => new_seq ao n3 cap c hc (by rw [hn3]; exact hm.out) (by have := hal.out; omega) W
              have cL := fun W : World => new_line c ao n3 cap W
              have CS := Lib.hid cS
              have CL := Lib.hid cL
              have Hn3 := Lib.hid hn3
              rw [← hn3]
              clear cS cL hn3
              go_wp2_with fail
              refine (CS.out _).mono ?_
              rintro e w6 ⟨rfl, hk6⟩
              have HK6 := Lib.hid hk6
              clear hk6
              go_wp2_with fail
              refine (CL.out _).mono ?_
              rintro e w7 ⟨rfl, hk7⟩
              have HK7 : Hid (Kp w3 w7) := (HK6.out.trans (Kp.alloc _ _)).trans hk7
              have HB7 : Hid (w7.heap[b]? = some (.cells #[.int .u8 0, .slice none 0 0] 42 (0, 0))) := HK7.out.ko _ _ HB3.out
              have hBw3 : B ≤ w3.heap.size := by have h1 := HP3.out.blk.2.1; have h2 := HP3.out.blk.1.lt; omega
              have HX7 : Hid (HX B g r w w7) := HX3.out.trans (HK7.out.hx hBw3)
              have HO7 : Hid (w7.ownsRow B 75 1 (.slice ao n3 cap) n3 (flts acc)) := by have := row_kp HO3.out HK7.out; rw [← Hn3.out] at this; exact this
              clear hk7
              have d0 : w7.cell? ⟨b, 0, none⟩ = some (.int .u8 0) := by rw [Lib.cell_of_heap HB7.out]; rfl
              have d1 : w7.cell? ⟨b, 1, none⟩ = some (.slice none 0 0) := by rw [Lib.cell_of_heap HB7.out]; rfl
              have f0 := Lib.frozen_of_heap HB7.out 0
              have f1 := Lib.frozen_of_heap HB7.out 1
              go_wp2_with fail
              have hn3 := Hn3.out
              subst hn3
              exact line_ok HX7.out HB7.out rfl hbs.out hBw.out acc ao cap hbody.out hm.out HO7.out _ rfl rfl
          · have HX3 : Hid (HX B g r w w3) := hX.out.trans hG3.hx
            have HB3 : Hid (w3.heap[b]? = some (.cells #[.int .u8 0, .slice none 0 0] 42 (0, 0))) := res_keep hG3.hx hB.out hbg hbr
            have Hno : Hid (¬ ∃ xs, Body T F (wid c) ts xs) := by
              rintro ⟨xs, hx⟩
              obtain ⟨zs, hz⟩ := i2.out xs hx
              rcases hbad with rfl | ⟨t, ts', rfl, h1, h2⟩
              · cases hz
              · cases hz with
                | close h => exact h1 h
                | comma h _ _ _ => exact h2 h
            clear hG3 hbad
            have d0 : w3.cell? ⟨b, 0, none⟩ = some (.int .u8 0) := by rw [Lib.cell_of_heap HB3.out]; rfl
            have d1 : w3.cell? ⟨b, 1, none⟩ = some (.slice none 0 0) := by rw [Lib.cell_of_heap HB3.out]; rfl
            have f0 := Lib.frozen_of_heap HB3.out 0
            have f1 := Lib.frozen_of_heap HB3.out 1
            go_wp2_with fail
            exact line_err HX3.out HB3.out rfl hbs.out hBw.out Hno.out _ rfl _ _ rfl
      · have HX2 : Hid (HX B g r w w2) := HG.out.trans hX2
        have HB2 : Hid (w2.heap[b]? = some (.cells #[.int .u8 0, .slice none 0 0] 42 (0, 0))) := res_keep hX2 HB1.out hbg hbr
        have Hno : Hid (¬ ∃ xs, Body T F (wid c) ts xs) := by
          rintro ⟨xs, hx⟩
          rw [Hts.out] at hx
          cases hx with
          | empty h => rw [Hp.out] at h; exact absurd h (by decide)
          | some h h2 h3 h4 => exact hbad ⟨_, _, h2, h3⟩
        clear hX2 hbad
        have d0 : w2.cell? ⟨b, 0, none⟩ = some (.int .u8 0) := by rw [Lib.cell_of_heap HB2.out]; rfl
        have d1 : w2.cell? ⟨b, 1, none⟩ = some (.slice none 0 0) := by rw [Lib.cell_of_heap HB2.out]; rfl
        have f0 := Lib.frozen_of_heap HB2.out 0
        have f1 := Lib.frozen_of_heap HB2.out 1
        go_wp2_with fail
        exact line_err HX2.out HB2.out rfl hbs.out hBw.out Hno.out _ rfl _ _ rfl
    · have t40 : (t.toList == [40]) = false := by rw [beq_eq_false_iff_ne]; exact hp
      have hE : t.toList = [69, 77, 80, 84, 89] := by rcases hor with h | h; exact h; exact absurd h hp
      have HEm := Lib.hid hE
      clear hp hE hor
      have cS := fun W : World => new_seq none 0 0 c hc (Nat.zero_mod _) (by omega) W
      have cL := fun W : World => new_line c none 0 0 W
      have CS := Lib.hid cS
      have CL := Lib.hid cL
      clear cS cL
      go_wp2_with fail
      refine (CS.out _).mono ?_
      rintro e w6 ⟨rfl, hk6⟩
      have HK6 := Lib.hid hk6
      clear hk6
      go_wp2_with fail
      refine (CL.out _).mono ?_
      rintro e w7 ⟨rfl, hk7⟩
      have HK7 : Hid (Kp w1 w7) := (HK6.out.trans (Kp.alloc _ _)).trans hk7
      have HB7 : Hid (w7.heap[b]? = some (.cells #[.int .u8 0, .slice none 0 0] 42 (0, 0))) := HK7.out.ko _ _ HB1.out
      have hBw3 : B ≤ w1.heap.size := by have h1 := HP1.out.blk.2.1; have h2 := HP1.out.blk.1.lt; omega
      have HX7 : Hid (HX B g r w w7) := HG.out.trans (HK7.out.hx hBw3)
      clear hk7
      have d0 : w7.cell? ⟨b, 0, none⟩ = some (.int .u8 0) := by rw [Lib.cell_of_heap HB7.out]; rfl
      have d1 : w7.cell? ⟨b, 1, none⟩ = some (.slice none 0 0) := by rw [Lib.cell_of_heap HB7.out]; rfl
      have f0 := Lib.frozen_of_heap HB7.out 0
      have f1 := Lib.frozen_of_heap HB7.out 1
      go_wp2_with fail
      exact line_ok (xs := []) HX7.out HB7.out rfl hbs.out hBw.out none 0 (by rw [Hts.out]; exact Body.empty HEm.out) (Nat.zero_mod _) (World.ownsRow_nil w7 B 75 1) _ rfl rfl
  · have HG : Hid (HX B g r w w1) := HX0.out.trans hG.hx
    have HB1 : Hid (w1.heap[b]? = some (.cells #[.int .u8 0, .slice none 0 0] 42 (0, 0))) := res_keep hG.hx hres.out hbg hbr
    have Hno : Hid (¬ ∃ xs, Body T F (wid c) ts xs) := by
      rintro ⟨xs, hx⟩
      rcases hbad with rfl | ⟨t, ts', rfl, h1, h2⟩
      · cases hx
      · cases hx with
        | empty h => exact h1 h
        | some h _ _ _ => exact h2 h
    clear hG hbad
    have d0 : w1.cell? ⟨b, 0, none⟩ = some (.int .u8 0) := by rw [Lib.cell_of_heap HB1.out]; rfl
    have d1 : w1.cell? ⟨b, 1, none⟩ = some (.slice none 0 0) := by rw [Lib.cell_of_heap HB1.out]; rfl
    have f0 := Lib.frozen_of_heap HB1.out 0
    have f1 := Lib.frozen_of_heap HB1.out 1
    go_wp2_with fail
    exact line_err HG.out HB1.out rfl hbs.out hBw.out Hno.out _ rfl _ _ rfl
end Go.Proofs.YthplmbgdcfmkgaaGreatDoor
/- DoorLineBody. -/
namespace Go.Proofs.YthplmbgdcfmkgaaGreatDoor
open Go.RowKit Go.Proofs Go.Sort

/-- What the program's own variables hold. -/
structure Sta (B : Nat) (T : Nat → Nat × Nat) (F : Nat → Nat) (w : World) : Prop where
  tb : TB B T F w
  first : FirstAt B w
  eof : EofAt B w
  we : WEof w
theorem Sta.b {B T F w} (h : Sta B T F w) : 16 ≤ B := h.first.1
theorem Sta.below {B T F w w'} (h : Sta B T F w) (k : Below B w w') : Sta B T F w' := ⟨h.tb.below k, h.first.below k, h.eof.below k, h.we.below k h.b⟩
theorem Sta.mono {B B' T F w} (h : Sta B T F w) (hB : B ≤ B') : Sta B' T F w := by
  have hb := h.b
  obtain ⟨⟨⟨i1, ⟨pb, po, p1, p2, p3⟩, ⟨lc, lo, l1, l2, l3⟩, q1, ⟨⟨q, o, cap, f1, f2, f3⟩, g1, g2, g3⟩, op⟩, ⟨⟨a, b, c, d1, d2, d3⟩, ⟨a', b', c', d1', d2', d3'⟩, db⟩⟩, hf, ⟨e1, e2, e3, e4, e5⟩, hw⟩ := h
  exact ⟨⟨⟨⟨by omega, i1.c0, i1.c1, i1.c2⟩, ⟨pb, po, by omega, by omega, p3⟩, ⟨lc, lo, by omega, by omega, l3⟩, ⟨q1.hi, q1.lo, q1.hi64, q1.lo64, by omega⟩, ⟨⟨q, o, cap, f1, by omega, f3⟩, g1, g2, by omega⟩, op⟩, ⟨⟨a, b, c, d1, by omega, d3⟩, ⟨a', b', c', d1', by omega, d3'⟩, by omega⟩⟩, ⟨by omega, hf.2⟩, ⟨e1, e2, e3, by omega, by omega⟩, hw⟩
/-- A text that is tokens alone. -/
structure Txt (s : ByteArray) (ts : List ByteArray) : Prop where
  pl : Plain s
  nu : ∀ t, t < s.size → chAt s t ≠ 95
  sp : ∃ T, Spans s 0 T ∧ ts = T.map fun p => sub s p.1 p.2
  tk : ∀ t ∈ ts, TK t
  len : ts.length ≤ 3000
def DoorPost (T : Nat → Nat × Nat) (F : Nat → Nat) (ts : List ByteArray) (c : Nat) (w : World) (e : Ending) (w' : World) : Prop :=
  Below w.heap.size w w' ∧ ((∃ xs ao cap, Body T F (wid c) ts xs ∧ xs.length % wid c = 0 ∧ e = .returned (.tuple #[.agg #[.int .u8 (c : Int), .slice ao xs.length cap], .nilIface]) ∧ w'.ownsRow w.heap.size 75 1 (.slice ao xs.length cap) xs.length (flts xs)) ∨
    ((¬ ∃ xs, Body T F (wid c) ts xs) ∧ ∃ u v, e = .returned (.tuple #[.agg #[.int .u8 0, .slice none 0 0], .iface u v])))
set_option maxHeartbeats 2000000 in
set_option maxRecDepth 100000 in
theorem door_line {T F B s ts} {w : World} (c : Nat) (hc : c < 4) (hs : Txt s ts) (ht : Sta B T F w) (hB : B ≤ w.heap.size) :
    Calls Tryz.prog 12 #[.string s, .int .u8 (c : Int)] w (DoorPost T F ts c w) := by
  have HS := Lib.hid hs
  have HT := Lib.hid (ht.mono hB)
  obtain ⟨b, hb⟩ : ∃ b, b = w.heap.size := ⟨_, rfl⟩
  clear hs ht hB
  go_enter Tryz.func12, Tryz.ntmps12
  go_upto_region 1 with fail
  obtain ⟨w0, hw0⟩ : ∃ w0, w0 = w.alloc (Obj.cells #[.int .u8 0, .slice none 0 0] 42) := ⟨_, rfl⟩
  rw [← hw0, ← hb]
  have hkp : Hid (Kp w w0) := by rw [hw0]; exact Kp.alloc w _
  have hres : Hid (w0.heap[b]? = some (.cells #[.int .u8 0, .slice none 0 0] 42 (0, 0))) := by rw [hw0, hb]; exact alloc_new w _
  have hsz0 : w0.heap.size = w.heap.size + 1 := by rw [hw0]; show (w.heap.push _).size = _; rw [Array.size_push]
  have Hb := Lib.hid hb
  clear hw0 hb
  go_wp2_with fail
  refine (new_parser s w0).mono ?_
  rintro e w1 ⟨Y, r, g, rfl, hY, hYs, hr, hg, hR, hG, hko, hbl⟩
  have hkp1 : Hid (Kp w w1) := hkp.out.trans ⟨hko, hbl⟩
  have hb1 : Hid (w1.heap[b]? = some (.cells #[.int .u8 0, .slice none 0 0] 42 (0, 0))) := hko _ _ hres.out
  have hsta : Hid (Sta w.heap.size T F w1) := HT.out.below (hkp1.out.below _ (Nat.le_refl _))
  have hlx := lex_start w.heap.size g r s Y w1 hY hG hR (by omega) (by omega) ⟨by omega, hsta.out.first, hsta.out.eof⟩
  obtain ⟨TT, hT1, hT2⟩ := HS.out.sp
  have hps : Hid (PS w.heap.size g r s ts w1) := ⟨0, TT, hlx, hT1, hT2⟩
  have hbg : b ≠ g := by have := Hb.out; omega
  have hbr : b ≠ r := by have := Hb.out; omega
  clear hY hYs hR hG hko hbl hlx hT1 hT2 hr hg hsz0
  go_wp2_with fail
  refine (line_text c hc ⟨HS.out.pl, HS.out.nu, hsta.out.we, hsta.out.b⟩ hps.out hsta.out.tb HS.out.tk HS.out.len).mono ?_
  rintro e w2 ⟨hX, ⟨xs, ao, cap, hbody, hmod, rfl, hrow⟩ | ⟨hno, u, v, rfl⟩⟩
  · have hb2 := res_keep hX hb1.out hbg hbr
    have hkb : Hid (Below w.heap.size w w2) := (hkp1.out.below _ (Nat.le_refl _)).trans hX.below
    obtain ⟨n, hn⟩ : ∃ n, n = xs.length := ⟨_, rfl⟩
    rw [← hn] at hrow ⊢
    have d0 : w2.cell? ⟨b, 0, none⟩ = some (.int .u8 0) := by rw [Lib.cell_of_heap hb2]; rfl
    have d1 : w2.cell? ⟨b, 1, none⟩ = some (.slice none 0 0) := by rw [Lib.cell_of_heap hb2]; rfl
    have f0 := Lib.frozen_of_heap hb2 0
    have f1 := Lib.frozen_of_heap hb2 1
    have HB2 := Lib.hid hb2
    have HN := Lib.hid hn
    have HBody := Lib.hid hbody
    have HMod := Lib.hid hmod
    have HRow := Lib.hid hrow
    clear hX hb2 hn hbody hmod hrow
    go_wp2_with fail
    have h2 := Lib.heap_setCell_same (i := 1) (Lib.heap_setCell_same (i := 0) HB2.out (.int .u8 (c : Int))) (.slice ao n cap)
    refine ⟨rfl, _, res_cell_tmp rfl _ _ b #[.int .u8 (c : Int), .slice ao n cap] rfl (load42 h2 rfl), (hkb.out.setCell (p := ⟨b, 0, none⟩) (by show _ ≤ b; rw [Hb.out]; exact Nat.le_refl _) _).setCell (p := ⟨b, 1, none⟩) (by show _ ≤ b; rw [Hb.out]; exact Nat.le_refl _) _, Or.inl ⟨xs, ao, cap, HBody.out, HMod.out, by rw [← HN.out]; rfl, ?_⟩⟩
    rw [← HN.out]
    refine ⟨HRow.out.1, ?_⟩
    rcases HRow.out.2 with hn | ⟨q, cap', cur, hv, hbq, hq, rest⟩
    · exact .inl hn
    · refine .inr ⟨q, cap', cur, hv, hbq, ?_, rest⟩
      have hqb : q ≠ b := by
        rintro rfl
        rw [HB2.out] at hq
        have := Option.some.inj hq
        injection this with _ e _
        exact absurd e (by decide)
      rw [Below.heap_setCell _ _ _ _ hqb, Below.heap_setCell _ _ _ _ hqb]
      exact hq
  · have hb2 := res_keep hX hb1.out hbg hbr
    have hkb : Hid (Below w.heap.size w w2) := (hkp1.out.below _ (Nat.le_refl _)).trans hX.below
    have d0 : w2.cell? ⟨b, 0, none⟩ = some (.int .u8 0) := by rw [Lib.cell_of_heap hb2]; rfl
    have d1 : w2.cell? ⟨b, 1, none⟩ = some (.slice none 0 0) := by rw [Lib.cell_of_heap hb2]; rfl
    have f0 := Lib.frozen_of_heap hb2 0
    have f1 := Lib.frozen_of_heap hb2 1
    have HB2 := Lib.hid hb2
    have HNo := Lib.hid hno
    clear hX hb2 hno
    go_wp2_with fail
    have h2 := Lib.heap_setCell_same (i := 1) (Lib.heap_setCell_same (i := 0) HB2.out (.int .u8 0)) (.slice none 0 0)
    exact ⟨rfl, _, res_cell_tmp rfl _ _ b #[.int .u8 0, .slice none 0 0] rfl (load42 h2 rfl), (hkb.out.setCell (p := ⟨b, 0, none⟩) (by show _ ≤ b; rw [Hb.out]; exact Nat.le_refl _) _).setCell (p := ⟨b, 1, none⟩) (by show _ ≤ b; rw [Hb.out]; exact Nat.le_refl _) _, Or.inr ⟨HNo.out, u, v, rfl⟩⟩
end Go.Proofs.YthplmbgdcfmkgaaGreatDoor
