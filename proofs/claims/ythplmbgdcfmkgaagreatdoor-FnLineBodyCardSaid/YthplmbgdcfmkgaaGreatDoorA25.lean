/- The reference: bodies. -/
import Derived.Test.YthplmbgdcfmkgaaGreatDoorA24
import Derived.Deep.RegionHeld3
import Derived.Deep.AppendLies
set_option linter.unusedVariables false
set_option linter.unusedSimpArgs false
/- The reference: bodies, the plain side. -/
namespace Go.Proofs.YthplmbgdcfmkgaaGreatDoor
open Go.RowKit Go.Proofs Go.Sort

inductive TailR (T : Nat → Nat × Nat) (F : Nat → Nat) (N : Nat) : List ByteArray → List Nat → List ByteArray → Prop
  | close {t ts} (h : t.toList = [41]) : TailR T F N (t :: ts) [] ts
  | comma {t ts ys ts' zs r} (h : t.toList = [44]) (hl : Lits T F ts ys ts') (hn : ys.length = N) (hz : TailR T F N ts' zs r) : TailR T F N (t :: ts) (ys ++ zs) r
/-- A line's body, and what stands behind it. -/
inductive BodyR (T : Nat → Nat × Nat) (F : Nat → Nat) (N : Nat) : List ByteArray → List Nat → List ByteArray → Prop
  | empty {t ts} (h : t.toList = [69, 77, 80, 84, 89]) : BodyR T F N (t :: ts) [] ts
  | some {t ts ys ts' zs r} (h : t.toList = [40]) (hl : Lits T F ts ys ts') (hn : ys.length = N) (hz : TailR T F N ts' zs r) : BodyR T F N (t :: ts) (ys ++ zs) r
theorem TailR.tail {T F N ts xs r} (h : TailR T F N ts xs r) : Tail T F N ts xs := by
  induction h with
  | close h => exact .close h
  | comma h hl hn _ ih => exact .comma h hl hn ih
theorem Tail.rest {T F N ts xs} (h : Tail T F N ts xs) : ∃ r, TailR T F N ts xs r := by
  induction h with
  | close h => exact ⟨_, .close h⟩
  | comma h hl hn _ ih => obtain ⟨r, hr⟩ := ih; exact ⟨r, .comma h hl hn hr⟩
theorem BodyR.body {T F N ts xs r} (h : BodyR T F N ts xs r) : Body T F N ts xs := by
  cases h with
  | empty h => exact .empty h
  | some h hl hn hz => exact .some h hl hn hz.tail
theorem Body.rest {T F N ts xs} (h : Body T F N ts xs) : ∃ r, BodyR T F N ts xs r := by
  cases h with
  | empty h => exact ⟨_, .empty h⟩
  | some h hl hn hz => obtain ⟨r, hr⟩ := hz.rest; exact ⟨r, .some h hl hn hr⟩
/-- A sign's kind. -/
theorem WK.sign {p : Nat × ByteArray} (h : WK p) {c : Nat} (hc : c = 40 ∨ c = 41 ∨ c = 44) (ht : p.2.toList = [UInt8.ofNat c]) : p.1 = c := by
  rcases h.form with ⟨_, hn⟩ | ⟨_, hj, h0, h1, h2⟩ | ⟨h1, h2⟩
  · exfalso
    have hf := hn.first
    rw [ByteArray.toList_eq] at ht
    have h0 : p.2.data.toList[0]? = some (p.2[0]'hn.pos) := by rw [Array.getElem?_toList]; exact Array.getElem?_eq_getElem hn.pos
    rw [ht] at h0
    simp only [List.getElem?_cons_zero, Option.some.injEq] at h0
    rw [← h0, UInt8.toNat_ofNat'] at hf
    unfold isD at hf
    omega
  · exfalso
    rcases hc with rfl | rfl | rfl
    · exact h0 ht
    · exact h1 ht
    · exact h2 ht
  · rw [h2, ByteArray.toList_eq] at ht
    simp only [List.cons.injEq, and_true] at ht
    have := congrArg UInt8.toNat ht
    rw [UInt8.toNat_ofNat', UInt8.toNat_ofNat'] at this
    omega
theorem WK.text {c : Nat} {t : ByteArray} (h : WK (c, t)) (hc : c = 40 ∨ c = 41 ∨ c = 44) : t.toList = [UInt8.ofNat c] := by
  rcases h.form with ⟨h1, _⟩ | ⟨h1, _⟩ | ⟨_, h2⟩
  · simp only at h1; omega
  · simp only at h1; omega
  · simp only at h2; rw [h2, ByteArray.toList_eq]
def emptyS : ByteArray := ⟨#[69, 77, 80, 84, 89]⟩
theorem WK.empty {p : Nat × ByteArray} (h : WK p) (ht : p.2.toList = [69, 77, 80, 84, 89]) : p = (97, emptyS) := by
  have e2 : p.2 = emptyS := by
    apply ByteArray.ext
    apply Array.toList_inj.1
    rw [← ByteArray.toList_eq, ht]; rfl
  have e1 : p.1 = 97 := by
    rcases h.form with ⟨_, hn⟩ | ⟨h1, _⟩ | ⟨h1, h2⟩
    · exfalso
      rw [e2] at hn
      have hf := hn.first
      have h3 : (emptyS[0]'hn.pos).toNat = 69 := rfl
      rw [h3] at hf
      unfold isD at hf
      omega
    · exact h1
    · exfalso
      rw [h2] at e2
      have := congrArg ByteArray.size e2
      exact absurd this (by show ¬ (1 : Nat) = 5; decide)
  exact Prod.ext e1 e2
/-- The body can be read. -/
def Ex (T : Nat → Nat × Nat) (F : Nat → Nat) (N : Nat) (R : List (Nat × ByteArray)) : Prop := ∃ ys r, BodyR T F N (txs R) ys r
/-- Ahead of a place: xs has been read. -/
structure LH (T : Nat → Nat × Nat) (F : Nat → Nat) (N : Nat) (R : List (Nat × ByteArray)) (xs : List Nat) (R1 : List (Nat × ByteArray)) (bad1 : Bool) : Prop where
  mem : ∀ p ∈ R1, p ∈ R
  acc : bad1 = true ∨ ∀ ys ts' zs r, Lits T F (txs R1) ys ts' → ys.length = N → TailR T F N ts' zs r → BodyR T F N (txs R) (xs ++ (ys ++ zs)) r
  ex : Ex T F N R → bad1 = false ∧ ∃ ys ts' zs r, Lits T F (txs R1) ys ts' ∧ ys.length = N ∧ TailR T F N ts' zs r
/-- Behind a place. -/
structure LB (T : Nat → Nat × Nat) (F : Nat → Nat) (N : Nat) (R : List (Nat × ByteArray)) (xs : List Nat) (R1 : List (Nat × ByteArray)) (bad1 : Bool) : Prop where
  mem : ∀ p ∈ R1, p ∈ R
  acc : bad1 = true ∨ ∀ zs r, TailR T F N (txs R1) zs r → BodyR T F N (txs R) (xs ++ zs) r
  ex : Ex T F N R → bad1 = false ∧ ∃ zs r, TailR T F N (txs R1) zs r
theorem LH.place {T F N R xs R1 bad1 ys R2 bad2} (h : LH T F N R xs R1 bad1) (k : PlSt T F R1 N bad1 ys R2 bad2) (hl : ys.length = N) : LB T F N R (xs ++ ys) R2 bad2 ∧ (bad2 = false → bad1 = false ∧ R2.length ≤ R1.length) := by
  refine ⟨⟨fun p hp => h.mem p (k.1 p hp), ?_, ?_⟩, ?_⟩
  · rcases k.2 with ⟨rfl, rfl, hL⟩ | ⟨rfl, _⟩
    · refine Or.inr fun zs r hz => ?_
      rcases h.acc with hb | ha
      · exact absurd hb (by decide)
      · rw [List.append_assoc]; exact ha _ _ _ _ hL hl hz
    · exact Or.inl rfl
  · intro hx
    obtain ⟨rfl, ys', ts', zs, r, h1, h2, h3⟩ := h.ex hx
    rcases k.2 with ⟨_, rfl, hL⟩ | ⟨_, hs⟩
    · obtain ⟨rfl, rfl⟩ := h1.det hL (by omega)
      exact ⟨rfl, _, _, h3⟩
    · exact absurd ⟨rfl, _, _, h1, h2⟩ hs
  · intro hb
    rcases k.2 with ⟨rfl, _, hL⟩ | ⟨hb2, _⟩
    · refine ⟨rfl, ?_⟩
      have := hL.len
      simpa [txs] using this
    · rw [hb] at hb2; exact absurd hb2 (by decide)
theorem LB.comma {T F N R xs t R2} (hk : ∀ p ∈ R, WK p) (h : LB T F N R xs ((44, t) :: R2) false) : LH T F N R xs R2 false := by
  have ht : t.toList = [44] := (hk _ (h.mem _ (by simp))).text (Or.inr (Or.inr rfl))
  refine ⟨fun p hp => h.mem p (List.mem_cons_of_mem _ hp), Or.inr fun ys ts' zs r h1 h2 h3 => ?_, fun hx => ⟨rfl, ?_⟩⟩
  · rcases h.acc with hb | ha
    · exact absurd hb (by decide)
    · exact ha _ _ (TailR.comma ht h1 h2 h3)
  · obtain ⟨_, zs, r, hz⟩ := h.ex hx
    cases hz with
    | close h41 => rw [ht] at h41; exact absurd h41 (by decide)
    | comma _ hl hn hz => exact ⟨_, _, _, _, hl, hn, hz⟩
/-- The end: what stands behind the parenthesis. -/
theorem LB.close {T F N R xs t R2} (hk : ∀ p ∈ R, WK p) (h : LB T F N R xs ((41, t) :: R2) false) : BodyR T F N (txs R) xs (txs R2) := by
  have ht : t.toList = [41] := (hk _ (h.mem _ (by simp))).text (Or.inr (Or.inl rfl))
  rcases h.acc with hb | ha
  · exact absurd hb (by decide)
  · have := ha _ _ (TailR.close (ts := txs R2) ht)
    rwa [List.append_nil] at this
theorem LB.no {T F N R xs R1 bad1} (hk : ∀ p ∈ R, WK p) (h : LB T F N R xs R1 bad1) (h44 : nx R1 bad1 ≠ 44) (h41 : nx R1 bad1 ≠ 41) : ¬ Ex T F N R := by
  intro hx
  obtain ⟨rfl, zs, r, hz⟩ := h.ex hx
  cases R1 with
  | nil => cases hz
  | cons p R2 =>
    rw [nx_cons] at h44 h41
    have hw := hk _ (h.mem p (by simp))
    cases hz with
    | close h1 => exact h41 (hw.sign (Or.inr (Or.inl rfl)) h1)
    | comma h1 _ _ _ => exact h44 (hw.sign (Or.inr (Or.inr rfl)) h1)
/-- Behind the first parenthesis. -/
theorem LH.start {T F N R t} (hk : ∀ p ∈ (40, t) :: R, WK p) : LH T F N ((40, t) :: R) [] R false := by
  have ht : t.toList = [40] := (hk _ (by simp)).text (Or.inl rfl)
  refine ⟨fun p hp => List.mem_cons_of_mem _ hp, Or.inr fun ys ts' zs r h1 h2 h3 => by rw [List.nil_append]; exact BodyR.some ht h1 h2 h3, fun ⟨ys, r, hx⟩ => ⟨rfl, ?_⟩⟩
  cases hx with
  | empty h => rw [ht] at h; exact absurd h (by decide)
  | some _ hl hn hz => exact ⟨_, _, _, _, hl, hn, hz⟩
theorem LH.none {T F N R} (hk : ∀ p ∈ R, WK p) (h40 : nx R false ≠ 40) (hE : ∀ R', R ≠ (97, emptyS) :: R') : ¬ Ex T F N R := by
  rintro ⟨ys, r, hx⟩
  cases R with
  | nil => cases hx
  | cons p R =>
    have hw := hk p (by simp)
    cases hx with
    | empty h => exact hE R (by rw [hw.empty h])
    | some h _ _ _ => exact h40 (by rw [nx_cons]; exact hw.sign (Or.inl rfl) h)
theorem LH.bad {T F N R xs} (hx : ¬ Ex T F N R) (R1 : List (Nat × ByteArray)) (h : ∀ p ∈ R1, p ∈ R) : LH T F N R xs R1 true := ⟨h, Or.inl rfl, fun h => absurd h hx⟩
end Go.Proofs.YthplmbgdcfmkgaaGreatDoor
/- The reference: bodies, the walk. -/
namespace Go.Proofs.YthplmbgdcfmkgaaGreatDoor
open Go.RowKit Go.Proofs Go.Sort

def BodyPost (T : Nat → Nat × Nat) (F : Nat → Nat) (rb q : Nat) (R : List (Nat × ByteArray)) (c : Nat) (w : World) (e : Ending) (w' : World) : Prop :=
  RX rb w w' ∧ ∃ xs v R' bad' o' cap', e = .returned (.agg #[.int .i64 2, .int .i64 (c : Int), v, .slice none 0 0]) ∧ w'.ownsRow w.heap.size 75 1 v xs.length (flts xs) ∧ xs.length % wid c = 0 ∧ xs.length ≤ 5000000 ∧ RdS w' rb q o' cap' R' bad' ∧
    ((bad' = false ∧ BodyR T F (wid c) (txs R) xs (txs R')) ∨ (bad' = true ∧ ¬ Ex T F (wid c) R))
def gcells (c : Nat) (v : Value) : Array Value := #[.int .i64 2, .int .i64 (c : Int), v, .slice none 0 0]
/-- What body's loop keeps. -/
structure BoI (w : World) (rb q c N n b0 b1 : Nat) (xs : List Nat) (v : Value) (R1 : List (Nat × ByteArray)) (bad1 : Bool) (o cap : Nat) (wr : World) : Prop where
  rx : RX rb w wr
  h0 : wr.heap[b0]? = some (.cells geom0 33 (0, 0))
  h1 : wr.heap[b1]? = some (.cells (gcells c v) 33 (0, 0))
  rd : RdS wr rb q o cap R1 bad1
  row : wr.ownsRow w.heap.size 75 1 v xs.length (flts xs)
  md : xs.length % N = 0
  bd : xs.length + 4 * R1.length ≤ n
theorem BoI.rx' {w rb q c N n b0 b1 xs v R1 bad1 o cap wr w'} (h : BoI w rb q c N n b0 b1 xs v R1 bad1 o cap wr) (k : RX rb wr w') (hrb : rb < w.heap.size) (h0 : w.heap.size ≤ b0) (h1 : w.heap.size ≤ b1) {R2 bad2 o2 cap2} (hr : RdS w' rb q o2 cap2 R2 bad2) (hl : R2.length ≤ R1.length) : BoI w rb q c N n b0 b1 xs v R2 bad2 o2 cap2 w' :=
  ⟨h.rx.trans k, by rw [k.block b0 (Lib.lt_of_heap h.h0) (by omega)]; exact h.h0, by rw [k.block b1 (Lib.lt_of_heap h.h1) (by omega)]; exact h.h1, hr, row_rx h.row k hrb, h.md, by have := h.bd; omega⟩
theorem BoI.rx'' {w rb q c N n b0 b1 xs v R1 bad1 o cap wr w'} (h : BoI w rb q c N n b0 b1 xs v R1 bad1 o cap wr) (k : RX rb wr w') (hrb : rb < w.heap.size) (h0 : w.heap.size ≤ b0) (h1 : w.heap.size ≤ b1) {R2 bad2 o2 cap2} (hr : RdS w' rb q o2 cap2 R2 bad2) : BoI w rb q c N (n + 4 + 4 * R2.length) b0 b1 xs v R2 bad2 o2 cap2 w' :=
  ⟨h.rx.trans k, by rw [k.block b0 (Lib.lt_of_heap h.h0) (by omega)]; exact h.h0, by rw [k.block b1 (Lib.lt_of_heap h.h1) (by omega)]; exact h.h1, hr, row_rx h.row k hrb, h.md, by have := h.bd; omega⟩
theorem BoI.re {w rb q c N n b0 b1 xs v R1 bad1 o cap wr m} (h : BoI w rb q c N n b0 b1 xs v R1 bad1 o cap wr) (hm : xs.length + 4 * R1.length ≤ m) : BoI w rb q c N m b0 b1 xs v R1 bad1 o cap wr := ⟨h.rx, h.h0, h.h1, h.rd, h.row, h.md, hm⟩
theorem flts_one {ys : List Nat} : ∀ u ∈ flts ys, u.oneCell' = true := by
  intro u hu
  simp only [flts, List.mem_map] at hu
  obtain ⟨c, _, rfl⟩ := hu
  rfl
theorem row_ne {B b : Nat} {w : World} {v n xs A t fz} (h : w.ownsRow B 75 1 v n xs) (hb : w.heap[b]? = some (.cells A t fz)) (ht : t ≠ 75) : some b ≠ v.ownBlock := by
  rcases h.2 with ⟨rfl, _⟩ | ⟨q, cap, cur, rfl, hbq, hq, rest⟩
  · simp [Value.ownBlock]
  · simp only [Value.ownBlock, ne_eq, Option.some.injEq]
    rintro rfl
    rw [hb] at hq
    have := Option.some.inj hq
    injection this with _ e _
    exact ht e
/-- Behind the append: the new row is v', the geometry still holds v. -/
structure BoA (w : World) (rb q c N n b0 b1 : Nat) (xs : List Nat) (v v' : Value) (R1 : List (Nat × ByteArray)) (bad1 : Bool) (o cap : Nat) (wr : World) : Prop where
  rx : RX rb w wr
  h0 : wr.heap[b0]? = some (.cells geom0 33 (0, 0))
  h1 : wr.heap[b1]? = some (.cells (gcells c v) 33 (0, 0))
  rd : RdS wr rb q o cap R1 bad1
  row : wr.ownsRow w.heap.size 75 1 v' xs.length (flts xs)
  md : xs.length % N = 0
theorem BoI.app {w rb q c N n b0 b1 xs v R1 bad1 o cap wr w'} (h : BoI w rb q c N n b0 b1 xs v R1 bad1 o cap wr) {ys : List Nat} {v' : Value} (hy : ys.length = N) (ho : w'.ownsRow w.heap.size 75 1 v' (xs.length + N) (flts xs ++ flts ys)) (hg : wr.grownBy w' v.ownBlock) (hrb : rb < w.heap.size) (hq : q < w.heap.size) : BoA w rb q c N n b0 b1 (xs ++ ys) v v' R1 bad1 o cap w' := by
  have hb : Below w.heap.size wr w' := (Below.refl w.heap.size wr).grown hg h.rx.size (fun k hk => (h.row.lt k hk).1)
  refine ⟨h.rx.ext hb, ?_, ?_, h.rd.blw hb hrb hq, ?_, ?_⟩
  · rw [hg.block b0 (Lib.lt_of_heap h.h0) (row_ne h.row h.h0 (by decide))]; exact h.h0
  · rw [hg.block b1 (Lib.lt_of_heap h.h1) (row_ne h.row h.h1 (by decide))]; exact h.h1
  · rw [List.length_append, hy, show flts (xs ++ ys) = flts xs ++ flts ys from List.map_append]; exact ho
  · rw [List.length_append, hy, Nat.add_mod_right]; exact h.md
/-- The store of the new row. -/
theorem BoA.put {w rb q c N n b0 b1 xs v v' R1 bad1 o cap wr} (h : BoA w rb q c N n b0 b1 xs v v' R1 bad1 o cap wr) (hne : b0 ≠ b1) (hrb : rb < w.heap.size) (hq : q < w.heap.size) (h1 : w.heap.size ≤ b1) (hbd : xs.length + 4 * R1.length ≤ n) : BoI w rb q c N n b0 b1 xs v' R1 bad1 o cap (wr.setCell ⟨b1, 2, none⟩ v') := by
  have hb : Below w.heap.size wr (wr.setCell ⟨b1, 2, none⟩ v') := (Below.refl _ _).setCell (p := ⟨b1, 2, none⟩) h1 v'
  refine ⟨h.rx.ext hb, ?_, ?_, h.rd.blw hb hrb hq, ?_, h.md, hbd⟩
  · rw [Below.heap_setCell _ _ _ _ hne]; exact h.h0
  · exact Lib.heap_setCell_same (i := 2) h.h1 v'
  · exact row_set (i := 2) h.row h.h1 (by decide) v'
theorem place_ok' {T F B rb q o cap R bad} (c : Nat) (hc : c < 4) (w : World) (h : RdS w rb q o cap R bad) (hk : ∀ p ∈ R, WK p) (ht : TB B T F w) (hB : B ≤ rb) : Calls Tryz.prog 55 #[.pointer (some ⟨rb, 0, none⟩), .int .i64 (c : Int)] w fun e w' =>
    RX rb w w' ∧ ∃ q2 cap2 ys, ys.length = wid c ∧ e = .returned (.slice (some ⟨q2, 0, none⟩) (wid c) cap2) ∧ (∀ j u, (flts ys)[j]? = some u → w'.cell? ((⟨q2, 0, none⟩ : Addr).add j) = some u) ∧ ∃ o' cap' R' bad', RdS w' rb q o' cap' R' bad' ∧ PlSt T F R (wid c) bad ys R' bad' := by
  refine (place_ok c hc w h hk ht hB).mono ?_
  rintro e w' ⟨h1, v, ys, hl, rfl, hrow, rest⟩
  have hN : wid c ≠ 0 := by unfold wid; split <;> (try split) <;> omega
  rcases hrow.2 with ⟨_, h0⟩ | ⟨q2, cap2, cur, rfl, _⟩
  · exact absurd h0 hN
  · exact ⟨h1, q2, cap2, ys, hl, rfl, hrow.cells rfl, rest⟩
set_option maxHeartbeats 4000000 in
set_option maxRecDepth 100000 in
theorem body_ok {T F B rb q o cap R} (c : Nat) (hc : c < 4) (w : World) (h : RdS w rb q o cap R false) (hk : ∀ p ∈ R, WK p) (ht : TB B T F w) (hB : B ≤ rb) : Calls Tryz.prog 38 #[.pointer (some ⟨rb, 0, none⟩), .int .i64 2, .int .i64 (c : Int)] w (BodyPost T F rb q R c w) := by
  have hrb := h.rl
  have hql := h.ql
  have hRl : R.length ≤ 1000000 := h.big.1
  have hBs : B ≤ w.heap.size := by omega
  have hN4 : wid c ≤ 4 := by unfold wid; split <;> (try split) <;> omega
  have hN0 : 0 < wid c := by unfold wid; split <;> (try split) <;> omega
  have H := Lib.hid h
  have HK := Lib.hid hk
  have HT := Lib.hid ht
  obtain ⟨N, hNe⟩ : ∃ N, N = wid c := ⟨_, rfl⟩
  have cPl := fun (W : World) (o cap : Nat) (R1 : List (Nat × ByteArray)) (bad1 : Bool) (h : RdS W rb q o cap R1 bad1) (hk : ∀ p ∈ R1, WK p) (ht : TB B T F W) => place_ok' c hc W h hk ht hB
  have HPost : Hid (BodyPost T F rb q R c w = fun e w' => RX rb w w' ∧ ∃ xs v R' bad' o' cap', e = .returned (.agg #[.int .i64 2, .int .i64 (c : Int), v, .slice none 0 0]) ∧ w'.ownsRow w.heap.size 75 1 v xs.length (flts xs) ∧ xs.length % N = 0 ∧ xs.length ≤ 5000000 ∧ RdS w' rb q o' cap' R' bad' ∧ ((bad' = false ∧ BodyR T F N (txs R) xs (txs R')) ∨ (bad' = true ∧ ¬ Ex T F N R))) := by rw [hNe]; rfl
  rw [← hNe] at cPl hN4 hN0
  have CPl := Lib.hid cPl
  obtain ⟨b0, hb0⟩ : ∃ b, b = w.heap.size := ⟨_, rfl⟩
  obtain ⟨b1, hb1⟩ : ∃ b, b = w.heap.size + 1 := ⟨_, rfl⟩
  clear h hk ht hNe cPl
  go_enter Tryz.func38, Tryz.ntmps38
  go_wp2_with fail
  obtain ⟨wa, hwa⟩ : ∃ wa, wa = w.alloc (Obj.cells #[.int .i64 0, .int .i64 0, .slice none 0 0, .slice none 0 0] 33) := ⟨_, rfl⟩
  obtain ⟨w1, hw1⟩ : ∃ w1, w1 = wa.alloc (Obj.cells #[.int .i64 2, .int .i64 (c : Int), .slice none 0 0, .slice none 0 0] 33) := ⟨_, rfl⟩
  rw [← hwa, ← hw1, ← hb1, ← hb0]
  have hsa : wa.heap.size = w.heap.size + 1 := by rw [hwa]; show (w.heap.push _).size = _; rw [Array.size_push]
  have hkp : Kp w w1 := by rw [hw1]; refine Kp.trans ?_ (Kp.alloc wa _); rw [hwa]; exact Kp.alloc w _
  have HI0 : Hid (BoI w rb q c N 4000000 b0 b1 [] (.slice none 0 0) R false o cap w1) := by
    refine ⟨RX.blw (hkp.below _ (Nat.le_refl _)), ?_, ?_, H.out.blw (hkp.below _ (Nat.le_refl _)) hrb hql, World.ownsRow_nil _ _ _ _, rfl, by simp; omega⟩
    · rw [hw1, hb0]; refine alloc_kept _ _ _ _ ?_; rw [hwa]; exact alloc_new w _
    · rw [hw1, hb1, ← hsa]; exact alloc_new wa _
  have Hb0 := Lib.hid hb0
  have Hb1 := Lib.hid hb1
  have hl0 : w.heap.size ≤ b0 := by omega
  have hl1 : w.heap.size ≤ b1 := by omega
  have hne : b0 ≠ b1 := by omega
  clear hkp hsa hwa hw1 hb0 hb1
  refine (word_ok _ w1 HI0.out.rd).mono ?_
  rintro e w2 ⟨ho2, ⟨hnoE, rfl, hw2⟩ | ⟨R', _, hRE, rfl, o2, cap2, hr2⟩⟩
  · obtain rfl := hw2.symm
    have HnoE := Lib.hid hnoE
    clear hnoE ho2
    go_wp2_with fail
    refine (take_ok 40 (by decide) _ HI0.out.rd).mono ?_
    rintro e w3 ⟨ho3, htk⟩
    have hLH : ∃ R1 bad1 o1 cap1, RdS w3 rb q o1 cap1 R1 bad1 ∧ R1.length ≤ R.length ∧ LH T F N R [] R1 bad1 ∧ ∃ t, e = .returned (.string t) := by
      rcases htk with ⟨hne4, rfl, hr3⟩ | ⟨t, R', _, hR4, rfl, o3, cap3, hr3⟩
      · refine ⟨_, _, _, _, hr3, Nat.le_refl _, LH.bad (LH.none HK.out hne4 (fun R' hR' => HnoE.out ⟨trivial, R', hR'⟩)) _ (fun p hp => hp), _, rfl⟩
      · subst hR4
        exact ⟨_, _, _, _, hr3, by simp, LH.start HK.out, _, rfl⟩
    obtain ⟨R1, bad1, o1, cap1, hr3, hlen, hLH, t, rfl⟩ := hLH
    have HI1 : Hid (BoI w rb q c N 4000000 b0 b1 [] (.slice none 0 0) R1 bad1 o1 cap1 w3) := HI0.out.rx' (RX.only ho3) hrb hl0 hl1 hr3 hlen
    have HLH := Lib.hid hLH
    clear ho3 htk hr3 hLH hlen
    go_wp2_with fail
    go_loopg [26] R1.length (fun q' s26 wr => ∃ (xs : List Nat) (v : Value) (R2 : List (Nat × ByteArray)) (bad2 : Bool) (o2 cap2 : Nat), q' = R2.length ∧ Hid (BoI w rb q c N 4000000 b0 b1 xs v R2 bad2 o2 cap2 wr) ∧ Hid (LH T F N R xs R2 bad2))
    case atStart => exact ⟨[], _, R1, bad1, o1, cap1, rfl, HI1, HLH⟩
    case round =>
      obtain ⟨xs, v, R2, bad2, o2, cap2, hq2, hI, hL⟩ := hrel
      have hxs : xs.length ≤ 4000000 := by have := hI.out.bd; omega
      go_wp2_with fail
      refine (leaf_ok _).mono ?_
      rintro e wx ⟨rfl, hwx⟩
      obtain rfl := hwx.symm
      have hc1 : wr.cell? ⟨b1, 2, none⟩ = some v := by rw [Lib.cell_of_heap hI.out.h1]; rfl
      have hf1 : wr.frozen? ⟨b1, 2, none⟩ = false := Lib.frozen_of_heap hI.out.h1 2
      go_upto_region 7 with fail
      have hdr : RX rb wr wr.drew := ⟨rfl, rfl, rfl, Nat.le_refl _, fun _ _ _ => rfl⟩
      have HI2 : Hid (BoI w rb q c N 4000000 b0 b1 xs v R2 bad2 o2 cap2 wr.drew) := hI.out.rx' hdr hrb hl0 hl1 (hI.out.rd.kept rfl rfl (Nat.le_refl _)) (Nat.le_refl _)
      have HTB : Hid (TB B T F wr.drew) := HI2.out.rx.tb HT.out hB hBs
      clear hdr
      obtain ⟨i0, hi, hz0, hz1, hz2⟩ := float75
      have u30 : Tryz.prog.underlying 30 = some (.slice 75) := by kernel_rfl
      go_region_law
        (first
          | (go_simp; go_at_call 55; refine (CPl.out _ _ _ _ _ HI2.out.rd (fun p hp => HK.out p (hL.out.mem p hp)) HTB.out).mono ?_; rintro e w4 ⟨hx4, q4, cap4, ys, hys, rfl, hnews, o4, cap5, R4, bad4, hr4, hs4⟩; obtain ⟨hLB, hlen4⟩ := hL.out.place hs4 hys; have HLB := Lib.hid hLB; have Hlen4 := Lib.hid hlen4; have HI4 : Hid (BoI w rb q c N (4000000 + 4 + 4 * R4.length) b0 b1 xs v R4 bad4 o4 cap5 w4) := HI2.out.rx'' hx4 hrb hl0 hl1 hr4; have hc4 : w4.cell? ⟨b1, 2, none⟩ = some v := (Lib.cell_of_heap HI4.out.h1 2).trans rfl; have Hys := Lib.hid hys; have Hnews := Lib.hid hnews; clear hx4 hr4 hs4 hys hnews hLB hlen4)
          | ((refine step_append_lies _ (by rfl) _ _ 30 (by rfl) w.heap.size 75 i0 (.float .f64 0) 1 8 u30 hi hz0 hz1 hz2 (by rfl) (by decide) v xs.length (flts xs) (by rfl) HI4.out.row ⟨q4, 0, none⟩ N cap4 (flts ys) (by rfl) (by rw [Nat.mul_one, ← Hys.out]; exact List.length_map _) Hnews.out flts_one (by omega) (by unfold maxLen; omega) (by omega) HI4.out.rx.size w4.heap.size rfl ?_); intro g6 cap6 w6 hown6 hgrow6 hat6 hlt6; have HA6 := Lib.hid (HI4.out.app Hys.out hown6 hgrow6 hrb hql); have hc6 : w6.cell? ⟨b1, 2, none⟩ = some v := (Lib.cell_of_heap HA6.out.h1 2).trans rfl; have hf6 : w6.frozen? ⟨b1, 2, none⟩ = false := Lib.frozen_of_heap HA6.out.h1 2; clear hown6 hgrow6 hat6 hlt6)
          )
      all_goals
        have hbd7 : (xs ++ ys).length + 4 * R4.length ≤ 4000000 + 4 + 4 * R4.length := by rw [List.length_append, Hys.out]; have := HI2.out.bd; omega
        have HI7 := Lib.hid (HA6.out.put hne hrb hql hl1 hbd7)
        obtain ⟨v7, hv7⟩ : ∃ v, v = Value.slice (some ⟨g6, 0, none⟩) (xs.length + N) cap6 := ⟨_, rfl⟩
        rw [← hv7] at HI7 ⊢
        obtain ⟨w7, hw7⟩ : ∃ w7, w7 = w6.setCell ⟨b1, 2, none⟩ v7 := ⟨_, rfl⟩
        rw [← hw7] at HI7 ⊢
        clear hw7 hv7 hc1 hf1 hc4 hc6 hf6 hbd7
        go_wp2_with fail
        refine (next_ok _ HI7.out.rd).mono ?_
        rintro e wx ⟨rfl, hwx⟩
        obtain rfl := hwx.symm
        by_cases h44 : nx R4 bad4 = 44
        · have hz : ((nx R4 bad4 : Int) == 44) = true := by rw [beq_iff_eq]; omega
          have H44 := Lib.hid h44
          clear h44
          go_wp2_with fail
          refine (take_ok 44 (by decide) _ HI7.out.rd).mono ?_
          rintro e w8 ⟨ho8, ⟨hne8, _⟩ | ⟨t8, R8, rfl, rfl, rfl, o8, cap8, hr8⟩⟩
          · exact absurd H44.out hne8
          · have HI8 := Lib.hid (HI7.out.rx' (RX.only ho8) hrb hl0 hl1 hr8 (by simp))
            have hlen8 : R8.length + 1 ≤ R2.length := by have := (Hlen4.out rfl).2; simpa using this
            have hbd8 : Hid ((xs ++ ys).length + 4 * R8.length ≤ 4000000) := by rw [Hid, List.length_append, Hys.out]; have := HI2.out.bd; omega
            clear ho8 hr8 hz
            go_wp2_with fail
            go_roundg R8.length
            case measure => omega
            case rel => exact ⟨xs ++ ys, v7, R8, false, o8, cap8, rfl, HI8.out.re hbd8.out, HLB.out.comma HK.out⟩
        · have hz : ((nx R4 bad4 : Int) == 44) = false := by rw [beq_eq_false_iff_ne]; omega
          have H44 := Lib.hid h44
          clear h44
          go_wp2_with fail
          refine (take_ok 41 (by decide) _ HI7.out.rd).mono ?_
          rintro e w8 ⟨ho8, htk⟩
          have hfin : ∃ R' bad' o' cap' tt, e = .returned (.string tt) ∧ RdS w8 rb q o' cap' R' bad' ∧ R'.length ≤ R4.length ∧ ((bad' = false ∧ BodyR T F N (txs R) (xs ++ ys) (txs R')) ∨ (bad' = true ∧ ¬ Ex T F N R)) := by
            rcases htk with ⟨hne4, rfl, hr3⟩ | ⟨t, R', hb4, hR4, rfl, o3, cap3, hr3⟩
            · exact ⟨_, _, _, _, _, rfl, hr3, Nat.le_refl _, Or.inr ⟨rfl, HLB.out.no HK.out H44.out hne4⟩⟩
            · subst hR4
              subst hb4
              exact ⟨_, _, _, _, _, rfl, hr3, by simp, Or.inl ⟨rfl, HLB.out.close HK.out⟩⟩
          obtain ⟨R', bad', o', cap', tt, rfl, hr8, hlen8, hres⟩ := hfin
          have HI8 := Lib.hid (HI7.out.rx' (RX.only ho8) hrb hl0 hl1 hr8 hlen8)
          have Hres := Lib.hid hres
          have hbd8 : Hid ((xs ++ ys).length ≤ 5000000) := by rw [Hid, List.length_append, Hys.out]; have := HI2.out.bd; omega
          clear ho8 htk hr8 hlen8 hres hz
          obtain ⟨nz, hnz⟩ : ∃ n, n = (xs ++ ys).length := ⟨_, rfl⟩
          obtain ⟨ao, cap9, hv9⟩ := row_slice HI8.out.row
          rw [← hnz] at hv9
          subst hv9
          have Hnz := Lib.hid hnz
          clear hnz
          have m0 : w8.cell? ⟨b1, 0, none⟩ = some (.int .i64 2) := by rw [Lib.cell_of_heap HI8.out.h1]; rfl
          have m1 : w8.cell? ⟨b1, 1, none⟩ = some (.int .i64 (c : Int)) := by rw [Lib.cell_of_heap HI8.out.h1]; rfl
          have m2 : w8.cell? ⟨b1, 2, none⟩ = some (.slice ao nz cap9) := by rw [Lib.cell_of_heap HI8.out.h1]; rfl
          have m3 : w8.cell? ⟨b1, 3, none⟩ = some (.slice none 0 0) := by rw [Lib.cell_of_heap HI8.out.h1]; rfl
          have l0 : w8.cell? ⟨b0, 0, none⟩ = some (.int .i64 0) := by rw [Lib.cell_of_heap HI8.out.h0]; rfl
          have l1 : w8.cell? ⟨b0, 1, none⟩ = some (.int .i64 0) := by rw [Lib.cell_of_heap HI8.out.h0]; rfl
          have l2 : w8.cell? ⟨b0, 2, none⟩ = some (.slice none 0 0) := by rw [Lib.cell_of_heap HI8.out.h0]; rfl
          have l3 : w8.cell? ⟨b0, 3, none⟩ = some (.slice none 0 0) := by rw [Lib.cell_of_heap HI8.out.h0]; rfl
          have lf0 := Lib.frozen_of_heap HI8.out.h0 0
          have lf1 := Lib.frozen_of_heap HI8.out.h0 1
          have lf2 := Lib.frozen_of_heap HI8.out.h0 2
          have lf3 := Lib.frozen_of_heap HI8.out.h0 3
          go_wp2_with fail
          have y0 := Lib.heap_setCell_same (i := 0) HI8.out.h0 (.int .i64 2)
          have y1 := Lib.heap_setCell_same (i := 1) y0 (.int .i64 (c : Int))
          have y2 := Lib.heap_setCell_same (i := 2) y1 (.slice ao nz cap9)
          have y3 := Lib.heap_setCell_same (i := 3) y2 (.slice none 0 0)
          have x0 := (Below.refl w.heap.size w8).setCell (p := ⟨b0, 0, none⟩) hl0 (.int .i64 2)
          have x1 := x0.setCell (p := ⟨b0, 1, none⟩) hl0 (.int .i64 (c : Int))
          have x2 := x1.setCell (p := ⟨b0, 2, none⟩) hl0 (.slice ao nz cap9)
          have x3 := x2.setCell (p := ⟨b0, 3, none⟩) hl0 (.slice none 0 0)
          have r0 := row_set (i := 0) HI8.out.row HI8.out.h0 (by decide) (.int .i64 2)
          have r1 := row_set (i := 1) r0 y0 (by decide) (.int .i64 (c : Int))
          have r2 := row_set (i := 2) r1 y1 (by decide) (.slice ao nz cap9)
          have r3 := row_set (i := 3) r2 y2 (by decide) (.slice none 0 0)
          refine ⟨rfl, _, results_cell_row rfl _ _ b0 33 (gcells c (.slice ao nz cap9)) (0, 0) (.struct (Tryz.prog.fieldsOf 33)) rfl y3 (by kernel_rfl) rfl (by kernel_rfl), ?_⟩
          rw [HPost.out]
          exact ⟨HI8.out.rx.ext x3, (xs ++ ys), .slice ao nz cap9, _, _, _, _, rfl, r3, HI8.out.md, hbd8.out, HI8.out.rd.blw x3 hrb hql, Hres.out⟩
  · obtain rfl := hRE
    have HI8 := Lib.hid (HI0.out.rx' (RX.only ho2) hrb hl0 hl1 hr2 (by simp))
    have hbd8 : Hid (([] : List Nat).length ≤ 5000000) := by rw [Hid]; simp
    have Hres : Hid (BodyR T F N (txs ((97, (⟨#[69, 77, 80, 84, 89]⟩ : ByteArray)) :: R')) [] (txs R')) := BodyR.empty (by rw [ByteArray.toList_eq])
    clear ho2 hr2
    obtain ⟨nz, hnz⟩ : ∃ n, n = ([] : List Nat).length := ⟨_, rfl⟩
    have Hnz := Lib.hid hnz
    clear hnz
    have m0 : w2.cell? ⟨b1, 0, none⟩ = some (.int .i64 2) := by rw [Lib.cell_of_heap HI8.out.h1]; rfl
    have m1 : w2.cell? ⟨b1, 1, none⟩ = some (.int .i64 (c : Int)) := by rw [Lib.cell_of_heap HI8.out.h1]; rfl
    have m2 : w2.cell? ⟨b1, 2, none⟩ = some (.slice none 0 0) := by rw [Lib.cell_of_heap HI8.out.h1]; rfl
    have m3 : w2.cell? ⟨b1, 3, none⟩ = some (.slice none 0 0) := by rw [Lib.cell_of_heap HI8.out.h1]; rfl
    have l0 : w2.cell? ⟨b0, 0, none⟩ = some (.int .i64 0) := by rw [Lib.cell_of_heap HI8.out.h0]; rfl
    have l1 : w2.cell? ⟨b0, 1, none⟩ = some (.int .i64 0) := by rw [Lib.cell_of_heap HI8.out.h0]; rfl
    have l2 : w2.cell? ⟨b0, 2, none⟩ = some (.slice none 0 0) := by rw [Lib.cell_of_heap HI8.out.h0]; rfl
    have l3 : w2.cell? ⟨b0, 3, none⟩ = some (.slice none 0 0) := by rw [Lib.cell_of_heap HI8.out.h0]; rfl
    have lf0 := Lib.frozen_of_heap HI8.out.h0 0
    have lf1 := Lib.frozen_of_heap HI8.out.h0 1
    have lf2 := Lib.frozen_of_heap HI8.out.h0 2
    have lf3 := Lib.frozen_of_heap HI8.out.h0 3
    go_wp2_with fail
    have y0 := Lib.heap_setCell_same (i := 0) HI8.out.h0 (.int .i64 2)
    have y1 := Lib.heap_setCell_same (i := 1) y0 (.int .i64 (c : Int))
    have y2 := Lib.heap_setCell_same (i := 2) y1 (.slice none 0 0)
    have y3 := Lib.heap_setCell_same (i := 3) y2 (.slice none 0 0)
    have x0 := (Below.refl w.heap.size w2).setCell (p := ⟨b0, 0, none⟩) hl0 (.int .i64 2)
    have x1 := x0.setCell (p := ⟨b0, 1, none⟩) hl0 (.int .i64 (c : Int))
    have x2 := x1.setCell (p := ⟨b0, 2, none⟩) hl0 (.slice none 0 0)
    have x3 := x2.setCell (p := ⟨b0, 3, none⟩) hl0 (.slice none 0 0)
    have r0 := row_set (i := 0) HI8.out.row HI8.out.h0 (by decide) (.int .i64 2)
    have r1 := row_set (i := 1) r0 y0 (by decide) (.int .i64 (c : Int))
    have r2 := row_set (i := 2) r1 y1 (by decide) (.slice none 0 0)
    have r3 := row_set (i := 3) r2 y2 (by decide) (.slice none 0 0)
    refine ⟨rfl, _, results_cell_row rfl _ _ b0 33 (gcells c (.slice none 0 0)) (0, 0) (.struct (Tryz.prog.fieldsOf 33)) rfl y3 (by kernel_rfl) rfl (by kernel_rfl), ?_⟩
    rw [HPost.out]
    exact ⟨HI8.out.rx.ext x3, ([] : List Nat), .slice none 0 0, _, _, _, _, rfl, r3, HI8.out.md, hbd8.out, HI8.out.rd.blw x3 hrb hql, Or.inl ⟨rfl, Hres.out⟩⟩
end Go.Proofs.YthplmbgdcfmkgaaGreatDoor
