/- The reference: what is asked; the body; the tag. -/
import Derived.Test.YthplmbgdcfmkgaaGreatDoorA26
set_option linter.unusedVariables false
set_option linter.unusedSimpArgs false
/- The reference: whether it is asked, the walk. -/
namespace Go.Proofs.YthplmbgdcfmkgaaGreatDoor
open Go.RowKit Go.Proofs Go.Sort

theorem row_blw {B e sz : Nat} {w w' : World} {v : Value} {n : Nat} {xs : List Value} (h : w.ownsRow B e sz v n xs) (k : Below w.heap.size w w') : w'.ownsRow B e sz v n xs := by
  refine ⟨h.1, ?_⟩
  rcases h.2 with hn | ⟨q, cap, cur, rfl, hbq, hq, rest⟩
  · exact .inl hn
  · exact .inr ⟨q, cap, cur, rfl, hbq, by rw [k.block q (Array.getElem?_eq_some_iff.mp hq).1]; exact hq, rest⟩
theorem row_slice' {B e sz : Nat} {w : World} {v : Value} {n : Nat} {xs : List Value} (h : w.ownsRow B e sz v n xs) : ∃ ao cap, v = .slice ao n cap ∧ (0 < n → ∃ q, ao = some ⟨q, 0, none⟩) := by
  rcases h.2 with ⟨rfl, rfl⟩ | ⟨q, cap, cur, rfl, _⟩
  · exact ⟨_, _, rfl, fun h => absurd h (by omega)⟩
  · exact ⟨_, _, rfl, fun _ => ⟨q, rfl⟩⟩
theorem tkc_at : ∀ (l : List (Nat × ByteArray)) (i : Nat) (h : i < l.length), (tkc l)[2 * i]? = some (.int .u8 ((l[i]'h).1 : Int)) ∧ (tkc l)[2 * i + 1]? = some (.string (l[i]'h).2) := by
  intro l
  induction l with
  | nil => intro i h; simp at h
  | cons p l ih =>
    intro i h
    have e : tkc (p :: l) = .int .u8 (p.1 : Int) :: .string p.2 :: tkc l := rfl
    rw [e]
    cases i with
    | zero => exact ⟨rfl, rfl⟩
    | succ i =>
      have := ih i (by simpa using h)
      exact this
theorem tk_cells {B q cap : Nat} {w : World} {l : List (Nat × ByteArray)} {n : Nat} (h : w.ownsRow B 66 2 (.slice (some ⟨q, 0, none⟩) n cap) n (tkc l)) (i : Nat) (hi : i < l.length) :
    w.cell? ⟨q, i * 2, none⟩ = some (.int .u8 ((l[i]'hi).1 : Int)) ∧ w.cell? ⟨q, i * 2 + 1, none⟩ = some (.string (l[i]'hi).2) := by
  have ha : ∀ j, (⟨q, 0, none⟩ : Addr).add j = ⟨q, j, none⟩ := by
    intro j
    unfold Addr.add
    split <;> simp_all
  obtain ⟨h1, h2⟩ := tkc_at l i hi
  have c1 := h.cells rfl _ _ h1
  have c2 := h.cells rfl _ _ h2
  rw [ha] at c1 c2
  rw [Nat.mul_comm i 2]
  exact ⟨c1, c2⟩
def AskPost (s : ByteArray) (w : World) (e : Ending) (w' : World) : Prop := Below w.heap.size w w' ∧ ∃ b, e = .returned (.bool b) ∧ (b = true → ∃ l, cut s.data.toList false = some l ∧ NoLead l)
set_option maxHeartbeats 4000000 in
set_option maxRecDepth 100000 in
theorem asked_ok (s : ByteArray) (w : World) (hs : s.size ≤ 2900) : Calls Tryz.prog 15 #[.string s] w (AskPost s w) := by
  have cT := fun W : World => tokens_ok s W (by omega)
  have CT := Lib.hid cT
  clear cT
  go_enter Tryz.func15, Tryz.ntmps15
  go_wp2_with fail
  refine (CT.out _).mono ?_
  rintro e w1 ⟨hB1, ⟨hno, rfl⟩ | ⟨l, v, hcut, rfl, hrow, hlen⟩⟩
  · have HB1 := Lib.hid hB1
    clear hB1 hno
    go_wp2_with fail
    go_loopg [6, 7, 15] 0 (fun q s6 s7 s15 wr => s15 = .int .i64 0 ∧ Hid (wr = w1))
    case atStart => exact ⟨rfl, rfl⟩
    case round =>
      obtain ⟨rfl, hw⟩ := hrel
      obtain rfl := hw.out.symm
      go_wp2_with fail
      go_ret
      exact ⟨HB1.out, false, rfl, fun h => absurd h (by decide)⟩
  · obtain ⟨ao, cap, rfl, hao⟩ := row_slice' hrow
    obtain ⟨n, hn⟩ : ∃ n, n = l.length := ⟨_, rfl⟩
    rw [← hn] at hrow hlen hao ⊢
    have HB1 := Lib.hid hB1
    have HR := Lib.hid hrow
    have HC := Lib.hid hcut
    have HN := Lib.hid hn
    have HA := Lib.hid hao
    have HT := Lib.hid (cut_tk hs hcut)
    clear hB1 hcut hrow hn hao
    go_wp2_with fail
    go_loopg [6, 7, 15] n (fun q s6 s7 s15 wr => ∃ i : Nat, i ≤ n ∧ q + i = n ∧ s15 = .int .i64 (i : Int) ∧ Hid (Below w1.heap.size w1 wr) ∧ Hid (∀ p ∈ l.take i, p.1 = 49 → ¬ Lead p.2))
    case atStart => exact ⟨0, by omega, by omega, rfl, Below.refl _ _, fun p hp => by simp at hp⟩
    case round =>
      obtain ⟨i, hi, hq, rfl, hB, hL⟩ := hrel
      by_cases hin : i < n
      · have hlt : (i : Int) < (n : Int) := by omega
        obtain ⟨q0, rfl⟩ := HA.out (by omega)
        have hil : i < l.length := by rw [← HN.out]; exact hin
        obtain ⟨c0, c1⟩ := tk_cells (row_blw HR.out hB.out) i hil
        obtain ⟨p, hp⟩ : ∃ p, p = l[i]'hil := ⟨_, rfl⟩
        rw [← hp] at c0 c1
        have Hp : Hid (p ∈ l ∧ l.take (i + 1) = l.take i ++ [p]) := ⟨by rw [hp]; exact List.getElem_mem _, by rw [List.take_add_one, List.getElem?_eq_getElem hil, hp]; rfl⟩
        clear hp
        have hlen' : n ≤ 100000 := by omega
        obtain ⟨b, hb⟩ : ∃ b, b = wr.heap.size := ⟨_, rfl⟩
        obtain ⟨wa, hwa⟩ : ∃ wa, wa = wr.alloc (Obj.cells #[Value.int IntKind.u8 p.fst, Value.string p.snd] 66) := ⟨_, rfl⟩
        have hnew : wa.heap[b]? = some (Obj.cells #[Value.int IntKind.u8 p.fst, Value.string p.snd] 66) := by rw [hwa, hb]; exact alloc_new _ _
        have hbel : Below w1.heap.size w1 wa := by rw [hwa]; exact hB.out.trans (alloc_below _ _ _ hB.out.size)
        have Hwa := Lib.hid hwa
        have Hb := Lib.hid hb
        have Hnew := Lib.hid hnew
        have Hbel := Lib.hid hbel
        go_wp2_with fail
        rw [← Hwa.out, ← Hb.out]
        clear hwa hb hnew hbel hB c0 c1
        obtain ⟨pk, pt⟩ := p
        have hps : pt.size ≤ 2900 := ((HT.out _ Hp.out.1).wk).size
        refine (upper_ok pt _ (by omega)).mono ?_
        rintro e w2 ⟨rfl, hB2⟩
        have Hnew2 : Hid (w2.heap[b]? = some (Obj.cells #[Value.int IntKind.u8 pk, Value.string pt] 66)) := by
          rw [Hid, hB2.block b (Lib.lt_of_heap Hnew.out)]; exact Hnew.out
        have Hbel2 : Hid (Below w1.heap.size w1 w2) := Hbel.out.trans (hB2.mono Hbel.out.size)
        have c0 : w2.cell? ⟨b, 0, none⟩ = some (.int .u8 (pk : Int)) := by rw [Lib.cell_of_heap Hnew2.out]; rfl
        have c1 : w2.cell? ⟨b, 1, none⟩ = some (.string pt) := by rw [Lib.cell_of_heap Hnew2.out]; rfl
        obtain ⟨u, hu⟩ : ∃ u, u = upS pt := ⟨_, rfl⟩
        rw [← hu]
        clear hu hB2 Hnew Hwa
        by_cases h49 : pk = 49
        · subst h49
          have cP := fun W : World => padded_ok pt W (by omega) ((HT.out _ Hp.out.1).ex rfl)
          have CP := Lib.hid cP
          clear cP
          go_wp2_with fail
          refine (CP.out _).mono ?_
          rintro e w3 ⟨⟨d, rfl, hd⟩, hw3⟩
          obtain rfl := hw3.symm
          cases d with
          | true =>
            clear hd
            go_wp2_with fail
            go_ret
            exact ⟨HB1.out.trans (Hbel2.out.mono HB1.out.size), false, rfl, fun h => absurd h (by decide)⟩
          | false =>
            have Hd : Hid (∀ p ∈ l.take (i + 1), p.1 = 49 → ¬ Lead p.2) := by
              rw [Hid, Hp.out.2]
              intro p hp h49 hl
              rcases List.mem_append.mp hp with h | h
              · exact hL.out p h h49 hl
              · obtain rfl := List.mem_singleton.mp h
                exact absurd (hd hl) (by decide)
            clear hd
            go_wp2_with fail
            all_goals
              first
                | (go_roundg (gk - 1); (case measure => omega); (case rel => exact ⟨i + 1, by omega, by omega, by go_num, Hbel2, Hd⟩))
                | (go_ret; exact ⟨HB1.out.trans (Hbel2.out.mono HB1.out.size), false, rfl, fun h => absurd h (by decide)⟩)
        · have hz : ((pk : Int) == 49) = false := by rw [beq_eq_false_iff_ne]; omega
          have Hd : Hid (∀ p ∈ l.take (i + 1), p.1 = 49 → ¬ Lead p.2) := by
            rw [Hid, Hp.out.2]
            intro p hp h49' hl
            rcases List.mem_append.mp hp with h | h
            · exact hL.out p h h49' hl
            · obtain rfl := List.mem_singleton.mp h
              exact absurd h49' h49
          clear h49
          go_wp2_with fail
          all_goals
            first
              | (go_roundg (gk - 1); (case measure => omega); (case rel => exact ⟨i + 1, by omega, by omega, by go_num, Hbel2, Hd⟩))
              | (go_ret; exact ⟨HB1.out.trans (Hbel2.out.mono HB1.out.size), false, rfl, fun h => absurd h (by decide)⟩)
      · have hlt : ¬ (i : Int) < (n : Int) := by omega
        go_wp2_with fail
        go_ret
        refine ⟨HB1.out.trans (hB.out.mono HB1.out.size), true, rfl, fun _ => ⟨l, HC.out, fun p hp => hL.out p ?_⟩⟩
        rw [List.take_of_length_le (by rw [← HN.out]; omega)]
        exact hp
end Go.Proofs.YthplmbgdcfmkgaaGreatDoor
/- The reference: the tokens' texts, the walk. -/
namespace Go.Proofs.YthplmbgdcfmkgaaGreatDoor
open Go.RowKit Go.Proofs Go.Sort

theorem str9 : ∃ i, Tryz.prog.info? 9 = some i ∧ i.zero = some (.string ⟨#[]⟩) ∧ i.size = 1 ∧ i.bytes = 16 := info_parts (P := Tryz.prog) (e := 9) (z := .string ⟨#[]⟩) (size := 1) (bytes := 16) (by kernel_rfl)
def strs (l : List ByteArray) : List Value := l.map Value.string
theorem append_str {ops : Array Oper} {rest : List Oper} {o : Oper} {a : Act} {Q : Exit → Act → World → Prop} (hgd : o.guard = none) (s x : Operand)
    (ho : o.op = .call { callee := .builtin .append, args := #[s, x], argTypes := #[25, 25] }) (B : Nat) (v : Value) (n : Nat) (l : List ByteArray) (hs : a.eval s = v) (w0 : World) (t : ByteArray)
    (hown : w0.ownsRow B 9 1 v n (strs l)) (hx : a.eval x = .slice (some ⟨w0.heap.size, 0, none⟩) 1 1) (hlen : n ≤ 1000000) (hB : B ≤ w0.heap.size)
    (h : ∀ v' w', w'.ownsRow B 9 1 v' (n + 1) (strs (l ++ [t])) → Below B w0 w' → wpList Tryz.prog ops Q rest (a.put o.dst v') w') : wpList Tryz.prog ops Q (o :: rest) a (w0.alloc (.cells #[.string t] 9)) := by
  obtain ⟨i0, hi, hz0, hz1, hz2⟩ := str9
  have u25 : Tryz.prog.underlying 25 = some (.slice 9) := by kernel_rfl
  have hb' := hown.alloc (.cells #[.string t] 9)
  refine wpList_append_own _ hgd s x 25 ho B 9 i0 (.string ⟨#[]⟩) 1 16 u25 hi hz0 hz1 hz2 rfl (by decide) v n (strs l) hs hb' ⟨w0.heap.size, 0, none⟩ 1 1 [.string t] hx rfl ?_ ?_ (by unfold maxLen; omega) (by omega) (by show B ≤ (w0.heap.push _).size; rw [Array.size_push]; omega) ?_
  · intro j u hj
    have hadd : (⟨w0.heap.size, 0, none⟩ : Addr).add j = ⟨w0.heap.size, j, none⟩ := by unfold Addr.add; split <;> simp_all
    rw [hadd, Lib.cell_of_heap (alloc_new w0 _), ← Array.getElem?_toList]
    exact hj
  · intro u hu
    rcases List.mem_cons.mp hu with rfl | hu
    · rfl
    · exact absurd hu (by simp)
  · intro v' w' ho' hg _
    refine h v' w' ?_ ((alloc_below B w0 _ hB).trans ((Below.refl B _).grown hg (by show B ≤ (w0.heap.push _).size; rw [Array.size_push]; omega) (fun k hk => (hb'.lt k hk).1)))
    have : strs (l ++ [t]) = strs l ++ [.string t] := by simp [strs]
    rw [this]
    exact ho'
theorem row_mono {B B' e sz : Nat} {w : World} {v : Value} {n : Nat} {xs : List Value} (h : w.ownsRow B e sz v n xs) (hB : B' ≤ B) : w.ownsRow B' e sz v n xs := by
  refine ⟨h.1, ?_⟩
  rcases h.2 with hn | ⟨q, cap, cur, rfl, hbq, hq, rest⟩
  · exact .inl hn
  · exact .inr ⟨q, cap, cur, rfl, Nat.le_trans hB hbq, hq, rest⟩
def TxtPost (l : List (Nat × ByteArray)) (w : World) (e : Ending) (w' : World) : Prop := Below w.heap.size w w' ∧ ∃ v, e = .returned (.tuple #[v, .bool true]) ∧ w'.ownsRow w.heap.size 9 1 v l.length (strs (txs l))
/-- What the loop keeps: the texts of the first i tokens are in v. -/
def TxI (w : World) (B : Nat) (l : List (Nat × ByteArray)) (i : Nat) (v : Value) (w' : World) : Prop := Below B w w' ∧ w'.ownsRow B 9 1 v i (strs (txs (l.take i)))
theorem TxI.next {w B l i v w' v2 w2} {p : Nat × ByteArray} (h : TxI w B l i v w') (hp : l.take (i + 1) = l.take i ++ [p]) (ho : w2.ownsRow B 9 1 v2 (i + 1) (strs (txs (l.take i) ++ [p.2]))) (hB : Below B w' w2) : TxI w B l (i + 1) v2 w2 := by
  refine ⟨h.1.trans hB, ?_⟩
  rw [hp]
  have : txs (l.take i ++ [p]) = txs (l.take i) ++ [p.2] := by simp [txs]
  rw [this]
  exact ho
set_option maxHeartbeats 4000000 in
set_option maxRecDepth 100000 in
theorem texts_ok (s : ByteArray) (w : World) (hs : s.size ≤ 2900) (l : List (Nat × ByteArray)) (hcut : cut s.data.toList false = some l) : Calls Tryz.prog 16 #[.string s] w (TxtPost l w) := by
  have cT := fun W : World => tokens_ok s W (by omega)
  have CT := Lib.hid cT
  have HC := Lib.hid hcut
  obtain ⟨B, hBe⟩ : ∃ B, B = w.heap.size := ⟨_, rfl⟩
  have HBe := Lib.hid hBe
  clear cT hcut
  go_enter Tryz.func16, Tryz.ntmps16
  go_wp2_with fail
  refine (CT.out _).mono ?_
  rintro e w1 ⟨hB1, ⟨hno, rfl⟩ | ⟨l', v, hcut, rfl, hrow, hlen⟩⟩
  · rw [HC.out] at hno
    exact absurd hno (by simp)
  · rw [HC.out] at hcut
    obtain rfl := Option.some.inj hcut
    obtain ⟨ao, cap, rfl, hao⟩ := row_slice' hrow
    obtain ⟨n, hn⟩ : ∃ n, n = l.length := ⟨_, rfl⟩
    rw [← hBe] at hB1 hrow
    rw [← hn] at hrow hlen hao ⊢
    have HB1 := Lib.hid hB1
    have HR := Lib.hid hrow
    have HN := Lib.hid hn
    have HA := Lib.hid hao
    have hBl : B ≤ w1.heap.size := by rw [hBe]; rw [hBe] at hB1; exact hB1.size
    have HBl := Lib.hid hBl
    clear hB1 hcut hrow hn hao hBe hBl
    go_wp2_with fail
    go_loopg [2, 6, 14] n (fun q s2 s6 s14 wr => ∃ i : Nat, i ≤ n ∧ q + i = n ∧ s14 = .int .i64 (i : Int) ∧ Hid (TxI w1 w1.heap.size l i s2 wr))
    case atStart => exact ⟨0, by omega, by omega, rfl, Below.refl _ _, World.ownsRow_nil _ _ _ _⟩
    case round =>
      obtain ⟨i, hi, hq, rfl, hI⟩ := hrel
      by_cases hin : i < n
      · have hlt : (i : Int) < (n : Int) := by omega
        obtain ⟨q0, rfl⟩ := HA.out (by omega)
        have hil : i < l.length := by rw [← HN.out]; exact hin
        obtain ⟨c0, c1⟩ := tk_cells (row_blw HR.out hI.out.1) i hil
        obtain ⟨p, hp⟩ : ∃ p, p = l[i]'hil := ⟨_, rfl⟩
        rw [← hp] at c0 c1
        have Hp : Hid (p ∈ l ∧ l.take (i + 1) = l.take i ++ [p]) := ⟨by rw [hp]; exact List.getElem_mem _, by rw [List.take_add_one, List.getElem?_eq_getElem hil, hp]; rfl⟩
        clear hp
        have hlen' : n ≤ 100000 := by omega
        obtain ⟨pk, pt⟩ := p
        obtain ⟨wa, hwa⟩ : ∃ wa, wa = wr.alloc (Obj.cells #[Value.int IntKind.u8 pk, Value.string pt] 66) := ⟨_, rfl⟩
        have hbel : Below w1.heap.size wr wa := by rw [hwa]; exact alloc_below _ _ _ hI.out.1.size
        have hown : Hid (wa.ownsRow w1.heap.size 9 1 u2 i (strs (txs (l.take i)))) := by rw [Hid, hwa]; exact hI.out.2.alloc _
        have Hbel := Lib.hid hbel
        have hsz : w1.heap.size ≤ wa.heap.size := Nat.le_trans hI.out.1.size hbel.size
        have Hsa : Hid (wa.heap.size = wr.heap.size + 1) := by rw [Hid, hwa]; show (wr.heap.push _).size = _; rw [Array.size_push]
        have Hwa := Lib.hid hwa
        clear hwa hbel
        go_wp2_with (at_builtin; rw [← Hwa.out]; refine append_str rfl _ _ rfl w1.heap.size u2 i (txs (l.take i)) rfl wa pt hown.out (by rw [Hsa.out]; rfl) (by omega) hsz ?_; intro v5 w5 hO5 hB5)
        have HI5 : Hid (TxI w1 w1.heap.size l (i + 1) v5 w5) := TxI.next ⟨hI.out.1.trans Hbel.out, hown.out⟩ Hp.out.2 hO5 hB5
        clear hO5 hB5
        go_wp2_with fail
        go_roundg (gk - 1)
        case measure => omega
        case rel => exact ⟨i + 1, by omega, by omega, by go_num, HI5⟩
      · have hlt : ¬ (i : Int) < (n : Int) := by omega
        go_wp2_with fail
        go_ret2
        have hin' : i = l.length := by rw [← HN.out]; omega
        have hr := hI.out.2
        rw [List.take_of_length_le (by omega)] at hr
        refine ⟨?_, _, rfl, ?_⟩
        · rw [← HBe.out]; exact HB1.out.trans (hI.out.1.mono HBl.out)
        · rw [← HBe.out, ← hin']
          exact row_mono hr HBl.out
end Go.Proofs.YthplmbgdcfmkgaaGreatDoor
/- The reference: pTokens and pBody, the walks. -/
namespace Go.Proofs.YthplmbgdcfmkgaaGreatDoor
open Go.RowKit Go.Proofs Go.Sort

def PtPost' (s : ByteArray) (w : World) (e : Ending) (w' : World) : Prop := Below w.heap.size w w' ∧ (e = .returned (.tuple #[.slice none 0 0, .bool false]) ∨
  ∃ l v, s.size ≤ 2000 ∧ cut s.data.toList false = some l ∧ NoLead l ∧ e = .returned (.tuple #[v, .bool true]) ∧ w'.ownsRow w.heap.size 9 1 v l.length (strs (txs l)))
set_option maxHeartbeats 1000000 in
set_option maxRecDepth 100000 in
theorem ptokens_ok (s : ByteArray) (w : World) : Calls Tryz.prog 6 #[.string s] w (PtPost' s w) := by
  by_cases h2 : 2000 < s.size
  · have hlt : (2000 : Int) < (s.size : Int) := by omega
    go_enter Tryz.func6, Tryz.ntmps6
    go_wp2_with fail
    go_ret2
    exact ⟨Below.refl _ _, Or.inl rfl⟩
  · have hlt : ¬ (2000 : Int) < (s.size : Int) := by omega
    have cA := fun W : World => asked_ok s W (by omega)
    have CA := Lib.hid cA
    have H2 := Lib.hid h2
    clear cA h2
    go_enter Tryz.func6, Tryz.ntmps6
    go_wp2_with fail
    refine (CA.out _).mono ?_
    rintro e w1 ⟨hB1, b, rfl, hb⟩
    have HB1 := Lib.hid hB1
    cases b with
    | false =>
      clear hB1 hb
      go_wp2_with fail
      go_ret2
      exact ⟨HB1.out, Or.inl rfl⟩
    | true =>
      obtain ⟨l, hcut, hno⟩ := hb rfl
      have HC := Lib.hid hcut
      have HN := Lib.hid hno
      have cT := fun W : World => texts_ok s W (by omega) l hcut
      have CT := Lib.hid cT
      clear hB1 hb hcut hno cT
      go_wp2_with fail
      refine (CT.out _).mono ?_
      rintro e w2 ⟨hB2, v, rfl, hrow⟩
      have HB2 := Lib.hid hB2
      have HR := Lib.hid hrow
      clear hB2 hrow
      go_wp2_with fail
      go_ret2
      exact ⟨HB1.out.trans (HB2.out.mono HB1.out.size), Or.inr ⟨l, v, by have := H2.out; omega, HC.out, HN.out, rfl, row_mono HR.out HB1.out.size⟩⟩
theorem strs_at (l : List ByteArray) (i : Nat) (h : i < l.length) : (strs l)[i]? = some (.string (l[i]'h)) := by
  unfold strs
  rw [List.getElem?_map, List.getElem?_eq_getElem h]
  rfl
theorem str_cell {B q cap : Nat} {w : World} {l : List ByteArray} {n : Nat} (h : w.ownsRow B 9 1 (.slice (some ⟨q, 0, none⟩) n cap) n (strs l)) (i : Nat) (hi : i < l.length) :
    w.cell? ⟨q, i, none⟩ = some (.string (l[i]'hi)) := by
  have ha : ∀ j, (⟨q, 0, none⟩ : Addr).add j = ⟨q, j, none⟩ := by
    intro j
    unfold Addr.add
    split <;> simp_all
  have c1 := h.cells rfl _ _ (strs_at l i hi)
  rw [ha] at c1
  exact c1
/-- pBody's answer. -/
def pbA (l : List ByteArray) : ByteArray × Bool := match pb 0 0 l with
  | none => (⟨#[]⟩, false)
  | some (p, b) => (cat p, b)
/-- What the loop over the tokens keeps: out is written, the rest has to be read. -/
def PbI (l : List ByteArray) (i : Nat) (d : Int) (t : ByteArray) : Prop := t.size ≤ 3000 * i ∧ -(i : Int) ≤ d ∧ d ≤ i ∧ pbA l = match pb d i (l.drop i) with
  | none => (⟨#[]⟩, false)
  | some (p, b) => (t ++ cat p, b)
theorem PbI.start (l : List ByteArray) : PbI l 0 0 ⟨#[]⟩ := by
  refine ⟨Nat.le_refl _, by decide, by decide, ?_⟩
  rw [List.drop_zero]
  unfold pbA
  cases pb 0 0 l with
  | none => rfl
  | some p =>
    show (cat p.1, p.2) = ((⟨#[]⟩ : ByteArray) ++ cat p.1, p.2)
    have : (⟨#[]⟩ : ByteArray) ++ cat p.1 = cat p.1 := by
      apply ByteArray.ext
      simp [ByteArray.data_append]
    rw [this]
theorem cat_app (t u : ByteArray) (p : List ByteArray) : t ++ (u ++ ⟨#[32]⟩) ++ cat p = t ++ cat (u :: p) := by
  rw [cat]
  apply ByteArray.ext
  simp only [ByteArray.data_append, Array.append_assoc]
theorem PbI.on {l i d t} (h : PbI l i d t) (hi : i < l.length) (hs : (l[i]'hi).size ≤ 2900) {d' : Int} (hd : dep d (l[i]'hi) = d') (hd0 : d' ≠ 0) : PbI l (i + 1) d' (t ++ (l[i]'hi ++ ⟨#[32]⟩)) := by
  obtain ⟨h1, h2, h3, h4⟩ := h
  refine ⟨?_, ?_, ?_, ?_⟩
  · rw [ByteArray.size_append, ByteArray.size_append]
    have : (⟨#[32]⟩ : ByteArray).size = 1 := rfl
    omega
  · rw [← hd]; unfold dep; split <;> (try split) <;> omega
  · rw [← hd]; unfold dep; split <;> (try split) <;> omega
  · rw [h4, List.drop_eq_getElem_cons hi, pb_on _ _ _ _ (by rw [hd]; exact hd0), hd]
    cases pb d' (i + 1) (l.drop (i + 1)) with
    | none => rfl
    | some p =>
      show (t ++ cat (l[i] :: p.1), p.2) = (t ++ (l[i] ++ ⟨#[32]⟩) ++ cat p.1, p.2)
      rw [cat_app]
theorem PbI.fin {l i d t} (h : PbI l i d t) (hi : i < l.length) {d' : Int} (hd : dep d (l[i]'hi) = d') (hd0 : d' = 0) : pbA l = (t ++ (l[i]'hi ++ ⟨#[32]⟩), decide (0 < i ∨ (l[i]'hi).data.toList = [69, 77, 80, 84, 89])) := by
  obtain ⟨h1, h2, h3, h4⟩ := h
  rw [h4, List.drop_eq_getElem_cons hi, pb_end _ _ _ _ (by rw [hd]; exact hd0)]
  show (t ++ cat [l[i]], _) = _
  rw [← cat_app]
  congr 1
  apply ByteArray.ext
  simp [cat]
theorem PbI.none {l i d t} (h : PbI l i d t) (hi : ¬ i < l.length) : pbA l = (⟨#[]⟩, false) := by
  obtain ⟨h1, h2, h3, h4⟩ := h
  rw [h4, List.drop_eq_nil_of_le (by omega), pb_nil]
def BodyTPost (l : List ByteArray) (w : World) (e : Ending) (w' : World) : Prop := e = .returned (.tuple #[.string (pbA l).1, .bool (pbA l).2]) ∧ w' = w
set_option maxHeartbeats 4000000 in
set_option maxRecDepth 100000 in
theorem pbody_ok (l : List ByteArray) (v : Value) (B : Nat) (w : World) (hrow : w.ownsRow B 9 1 v l.length (strs l)) (hl : l.length ≤ 3000) (hs : ∀ t ∈ l, t.size ≤ 2900) : Calls Tryz.prog 7 #[v] w (BodyTPost l w) := by
  obtain ⟨ao, cap, rfl, hao⟩ := row_slice' hrow
  obtain ⟨n, hn⟩ : ∃ n, n = l.length := ⟨_, rfl⟩
  rw [← hn] at hrow hao hl ⊢
  have HR := Lib.hid hrow
  have HN := Lib.hid hn
  have HA := Lib.hid hao
  have HS := Lib.hid hs
  obtain ⟨P, hP⟩ : ∃ P : ByteArray × Bool → Prop, P = fun q => pbA l = q := ⟨_, rfl⟩
  have HP := Lib.hid hP
  clear hrow hn hao hs hP
  go_enter Tryz.func7, Tryz.ntmps7
  go_wp2_with fail
  go_loopg [2, 4, 5, 6, 9] n (fun q s2 s4 s5 s6 s9 wr => ∃ (i : Nat) (d : Int) (t : ByteArray), i ≤ n ∧ q + i = n ∧ s9 = .int .i64 (i : Int) ∧ s4 = .int .i64 d ∧ s2 = .string t ∧ Hid (PbI l i d t) ∧ Hid (wr = w))
  case atStart => exact ⟨0, 0, ⟨#[]⟩, by omega, by omega, rfl, rfl, rfl, PbI.start l, rfl⟩
  case round =>
    obtain ⟨i, d, t, hi, hq, rfl, rfl, rfl, hI, hw⟩ := hrel
    obtain rfl := hw.out.symm
    by_cases hin : i < n
    · have hlt : (i : Int) < (n : Int) := by omega
      obtain ⟨q0, rfl⟩ := HA.out (by omega)
      have hil : i < l.length := by rw [← HN.out]; exact hin
      have c0 := str_cell HR.out i hil
      obtain ⟨u, hu⟩ : ∃ u, u = l[i]'hil := ⟨_, rfl⟩
      have hus : u.size ≤ 2900 := by rw [hu]; exact HS.out _ (List.getElem_mem _)
      have hts : t.size ≤ 9000000 := by have := hI.out.1; omega
      have hd1 : -3000 ≤ d := by have := hI.out.2.1; omega
      have hd2 : d ≤ 3000 := by have := hI.out.2.2.1; omega
      have hsz : (u ++ ⟨#[32]⟩).size = u.size + 1 := by rw [ByteArray.size_append]; rfl
      rw [← hu] at c0
      have Hu := Lib.hid hu
      by_cases h40 : u.data.toList = [40]
      · have e40 : (u.toList == [40]) = true := by rw [ByteArray.toList_eq, h40]; rfl
        have e41 : (u.toList == [41]) = false := by rw [ByteArray.toList_eq, h40]; rfl
        have Hd : Hid (dep d u = d + 1) := by rw [Hid, dep, if_pos h40]
        by_cases hz : d + 1 = 0
        · have HF := Lib.hid (hI.out.fin hil (by rw [← Hu.out]; exact Hd.out) hz)
          rw [← Hu.out] at HF
          by_cases hi0 : i = 0
          · subst hi0
            clear hu
            go_wp2_with fail
            go_ret2
            refine ⟨?_, rfl⟩
            rw [HF.out]
            by_cases hE : u.data.toList = [69, 77, 80, 84, 89]
            · simp [hE, ByteArray.toList_eq]
            · simp [hE, ByteArray.toList_eq]
          · have hi1 : 0 < i := by omega
            have hi2 : (0 : Int) < (i : Int) := by omega
            clear hu
            go_wp2_with fail
            go_ret2
            refine ⟨?_, rfl⟩
            rw [HF.out]
            simp [hi1]
        · have HO := Lib.hid (hI.out.on hil (by rw [← Hu.out]; exact hus) (by rw [← Hu.out]; exact Hd.out) hz)
          rw [← Hu.out] at HO
          clear hu
          go_wp2_with fail
          go_roundg (gk - 1)
          case measure => omega
          case rel => exact ⟨i + 1, d + 1, t ++ (u ++ ⟨#[32]⟩), by omega, by omega, by go_num, rfl, rfl, HO, rfl⟩
      · have e40 : (u.toList == [40]) = false := by rw [ByteArray.toList_eq, beq_eq_false_iff_ne]; exact h40
        by_cases h41 : u.data.toList = [41]
        · have e41 : (u.toList == [41]) = true := by rw [ByteArray.toList_eq, h41]; rfl
          have Hd : Hid (dep d u = d - 1) := by rw [Hid, dep, if_neg h40, if_pos h41]
          by_cases hz : d - 1 = 0
          · have HF := Lib.hid (hI.out.fin hil (by rw [← Hu.out]; exact Hd.out) hz)
            rw [← Hu.out] at HF
            by_cases hi0 : i = 0
            · subst hi0
              clear hu
              go_wp2_with fail
              go_ret2
              refine ⟨?_, rfl⟩
              rw [HF.out]
              by_cases hE : u.data.toList = [69, 77, 80, 84, 89]
              · simp [hE, ByteArray.toList_eq]
              · simp [hE, ByteArray.toList_eq]
            · have hi1 : 0 < i := by omega
              have hi2 : (0 : Int) < (i : Int) := by omega
              clear hu
              go_wp2_with fail
              go_ret2
              refine ⟨?_, rfl⟩
              rw [HF.out]
              simp [hi1]
          · have HO := Lib.hid (hI.out.on hil (by rw [← Hu.out]; exact hus) (by rw [← Hu.out]; exact Hd.out) hz)
            rw [← Hu.out] at HO
            clear hu
            go_wp2_with fail
            go_roundg (gk - 1)
            case measure => omega
            case rel => exact ⟨i + 1, d - 1, t ++ (u ++ ⟨#[32]⟩), by omega, by omega, by go_num, rfl, rfl, HO, rfl⟩
        · have e41 : (u.toList == [41]) = false := by rw [ByteArray.toList_eq, beq_eq_false_iff_ne]; exact h41
          have Hd : Hid (dep d u = d) := by rw [Hid, dep, if_neg h40, if_neg h41]
          by_cases hz : d = 0
          · have HF := Lib.hid (hI.out.fin hil (by rw [← Hu.out]; exact Hd.out) hz)
            rw [← Hu.out] at HF
            by_cases hi0 : i = 0
            · subst hi0
              clear hu
              go_wp2_with fail
              go_ret2
              refine ⟨?_, rfl⟩
              rw [HF.out]
              by_cases hE : u.data.toList = [69, 77, 80, 84, 89]
              · simp [hE, ByteArray.toList_eq]
              · simp [hE, ByteArray.toList_eq]
            · have hi1 : 0 < i := by omega
              have hi2 : (0 : Int) < (i : Int) := by omega
              clear hu
              go_wp2_with fail
              go_ret2
              refine ⟨?_, rfl⟩
              rw [HF.out]
              simp [hi1]
          · have HO := Lib.hid (hI.out.on hil (by rw [← Hu.out]; exact hus) (by rw [← Hu.out]; exact Hd.out) hz)
            rw [← Hu.out] at HO
            clear hu
            go_wp2_with fail
            go_roundg (gk - 1)
            case measure => omega
            case rel => exact ⟨i + 1, d, t ++ (u ++ ⟨#[32]⟩), by omega, by omega, by go_num, rfl, rfl, HO, rfl⟩
    · have hlt : ¬ (i : Int) < (n : Int) := by omega
      go_wp2_with fail
      go_ret2
      refine ⟨?_, rfl⟩
      rw [hI.out.none (by rw [← HN.out]; exact hin)]
      rfl
end Go.Proofs.YthplmbgdcfmkgaaGreatDoor
/- The reference: a kind's name, a tag and a body, the walk. -/
namespace Go.Proofs.YthplmbgdcfmkgaaGreatDoor
open Go.RowKit Go.Proofs Go.Sort

/-- A tag's token. -/
def tagT (c : Nat) : List (Nat × ByteArray) := if c = 0 then [] else [(97, dimN c)]
theorem upS_line : upS lineS = lineS := by decide
theorem kind_eq : ∀ k : _root_.Fin 7, ((kindS k.val).data.toList == lineS.data.toList) = decide (k.val = 2) := by decide
theorem dim_ne : ∀ c d : _root_.Fin 4, c ≠ d → dimN c.val ≠ dimN d.val := by decide
/-- What the second loop keeps: ahead of round d the type is read, or it is not one of those that were asked for. -/
structure TgI (c : Nat) (P : List (Nat × ByteArray)) (d : Nat) (dim : Nat) (R : List (Nat × ByteArray)) : Prop where
  done : c < d → dim = c ∧ R = P
  open' : d ≤ c → dim = 0 ∧ R = (97, dimN c) :: P
theorem TgI.start (c : Nat) (P : List (Nat × ByteArray)) : TgI c P 1 0 (tagT c ++ P) := by
  refine ⟨fun h => ?_, fun h => ?_⟩
  · obtain rfl : c = 0 := by omega
    exact ⟨rfl, rfl⟩
  · refine ⟨rfl, ?_⟩
    rw [tagT, if_neg (by omega)]
    rfl
theorem TgI.skip {c P d dim R} (h : TgI c P d dim R) (hd : dim ≠ 0) : TgI c P (d + 1) dim R := by
  refine ⟨fun hc => ?_, fun hc => ?_⟩
  · by_cases h1 : c < d
    · exact h.done h1
    · exact absurd (h.open' (by omega)).1 hd
  · exact absurd (h.open' (by omega)).1 hd
theorem TgI.no {c P d R} (h : TgI c P d 0 R) (hn : ∀ R', R ≠ (97, dimN d) :: R') : TgI c P (d + 1) 0 R := by
  refine ⟨fun hc => ?_, fun hc => h.open' (by omega)⟩
  by_cases h1 : c < d
  · exact h.done h1
  · obtain rfl : c = d := by omega
    exact absurd (h.open' (Nat.le_refl _)).2 (hn P)
theorem TgI.yes {c P d R R'} (hc : c < 4) (hd0 : 0 < d) (hd : d < 4) (hP : ∀ d, 0 < d → d < 4 → ∀ r, P ≠ (97, dimN d) :: r) (h : TgI c P d 0 R) (hR : R = (97, dimN d) :: R') : TgI c P (d + 1) d R' := by
  by_cases h1 : c < d
  · have := (h.done h1).2
    rw [hR] at this
    exact absurd this.symm (hP d hd0 hd R')
  · have h2 := (h.open' (by omega)).2
    rw [hR] at h2
    have h3 : dimN d = dimN c ∧ R' = P := by
      have := List.cons.inj h2
      exact ⟨(Prod.mk.inj this.1).2, this.2⟩
    have h4 : d = c := by
      by_cases h5 : d = c
      · exact h5
      · exact absurd h3.1 (dim_ne ⟨d, hd⟩ ⟨c, hc⟩ (fun h => h5 (congrArg (fun x : _root_.Fin 4 => x.val) h)))
    subst h4
    exact ⟨fun _ => ⟨rfl, h3.2⟩, fun h => by omega⟩
set_option maxHeartbeats 4000000 in
set_option maxRecDepth 100000 in
theorem tagged_ok {T F B rb q o cap P} (c : Nat) (hc : c < 4) (w : World) (h : RdS w rb q o cap ((97, lineS) :: (tagT c ++ P)) false) (hk : ∀ p ∈ P, WK p) (hT : ∀ d, 0 < d → d < 4 → ∀ r, P ≠ (97, dimN d) :: r) (ht : TB B T F w) (hB : B ≤ rb) :
    Calls Tryz.prog 19 #[.pointer (some ⟨rb, 0, none⟩)] w (BodyPost T F rb q P c w) := by
  have hrb := h.rl
  have hql := h.ql
  have hBs : B ≤ w.heap.size := by omega
  have H := Lib.hid h
  have HK := Lib.hid hk
  have HP := Lib.hid hT
  have HT := Lib.hid ht
  obtain ⟨b0, hb0⟩ : ∃ b, b = w.heap.size := ⟨_, rfl⟩
  clear h hk ht hT
  go_enter Tryz.func19, Tryz.ntmps19
  go_wp2_with fail
  obtain ⟨w0, hw0⟩ : ∃ w0, w0 = w.alloc (Obj.cells #[.int .i64 0, .int .i64 0, .slice none 0 0, .slice none 0 0] 33) := ⟨_, rfl⟩
  rw [← hw0, ← hb0]
  have hkp : Kp w w0 := by rw [hw0]; exact Kp.alloc w _
  have hr0 : Hid (RdS w0 rb q o cap ((97, lineS) :: (tagT c ++ P)) false) := H.out.blw (hkp.below _ (Nat.le_refl _)) hrb hql
  have hG0 : Hid (w0.heap[b0]? = some (.cells geom0 33 (0, 0))) := by rw [Hid, hw0, hb0]; exact alloc_new w _
  have hX0 : Hid (RX rb w w0) := RX.blw (hkp.below _ (Nat.le_refl _))
  have Hb0 := Lib.hid hb0
  have hne : rb ≠ b0 := by omega
  clear hkp hw0 hb0
  refine (take_ok 97 (by decide) _ hr0.out).mono ?_
  rintro e w1 ⟨ho1, ⟨hn, _⟩ | ⟨t, R', _, hR, rfl, o1, cap1, hr1⟩⟩
  · exact absurd rfl hn
  · have hR2 := List.cons.inj hR
    obtain rfl : t = lineS := ((Prod.mk.inj hR2.1).2).symm
    obtain rfl := hR2.2.symm
    have hr1' : Hid (RdS w1 rb q o1 cap1 (tagT c ++ P) false) := hr1
    have hG1 : Hid (w1.heap[b0]? = some (.cells geom0 33 (0, 0))) := by rw [Hid, ho1.block b0 (fun h => hne h.symm)]; exact hG0.out
    have hX1 : Hid (RX rb w w1) := hX0.out.trans (RX.only ho1)
    obtain ⟨nm, hnm⟩ : ∃ nm, nm = lineS := ⟨_, rfl⟩
    have cU := fun W : World => upper_ok nm W (by rw [hnm]; decide)
    have hun : Hid (upS nm = lineS) := by rw [Hid, hnm]; exact upS_line
    rw [← hnm]
    have CU := Lib.hid cU
    clear hr1 hR hR2 ho1 hG0 hr0 hX0 cU hnm
    go_wp2_with fail
    refine (CU.out _).mono ?_
    rintro e w2 ⟨rfl, hB2⟩
    rw [hun.out]
    obtain ⟨nu, hnu⟩ : ∃ nm, nm = lineS := ⟨_, rfl⟩
    rw [← hnu]
    have hr2 : Hid (RdS w2 rb q o1 cap1 (tagT c ++ P) false) := hr1'.out.blw hB2 hr1'.out.rl hr1'.out.ql
    have hG2 : Hid (w2.heap[b0]? = some (.cells geom0 33 (0, 0))) := by rw [Hid, hB2.block b0 (Lib.lt_of_heap hG1.out)]; exact hG1.out
    have hX2 : Hid (RX rb w w2) := hX1.out.trans (RX.blw hB2)
    have Hnu := Lib.hid hnu
    clear hB2 hr1' hG1 hX1 hnu
    go_wp2_with fail
    go_loopg [4, 5, 11] 7 (fun q' s4 s5 s11 wr => ∃ j : Nat, j ≤ 7 ∧ q' + j = 7 ∧ s11 = .int .i64 (j : Int) ∧ s4 = .int .i64 (if j ≤ 2 then -1 else 2) ∧ Hid (wr = w2))
    case atStart => exact ⟨0, by omega, by omega, rfl, rfl, rfl⟩
    case round =>
      obtain ⟨j, hj, hq, rfl, rfl, hw⟩ := hrel
      obtain rfl := hw.out.symm
      by_cases hj7 : j < 7
      · have hlt : (j : Int) < 7 := by omega
        have cK := fun W : World => kindName_ok j hj7 W
        have hke : ((kindS j).toList == nu.toList) = decide (j = 2) := by rw [Hnu.out, ByteArray.toList_eq, ByteArray.toList_eq]; exact kind_eq ⟨j, hj7⟩
        obtain ⟨kn, hkn⟩ : ∃ kn, kn = kindS j := ⟨_, rfl⟩
        rw [← hkn] at cK hke
        have CK := Lib.hid cK
        clear cK hkn
        by_cases h2 : j = 2
        · subst h2
          have hke' : (kn.toList == nu.toList) = true := hke
          clear hke
          go_wp2_with fail
          refine (CK.out _).mono ?_
          rintro e wx ⟨rfl, hwx⟩
          obtain rfl := hwx.symm
          go_wp2_with fail
          go_roundg (gk - 1)
          case measure => omega
          case rel => exact ⟨3, by omega, by omega, by go_num, rfl, rfl⟩
        · have hke' : (kn.toList == nu.toList) = false := by rw [hke]; exact decide_eq_false h2
          have he : (if j ≤ 2 then (-1 : Int) else 2) = if j + 1 ≤ 2 then -1 else 2 := by
            by_cases h3 : j ≤ 2
            · rw [if_pos h3, if_pos (by omega)]
            · rw [if_neg h3, if_neg (by omega)]
          obtain ⟨z, hz⟩ : ∃ z : Int, z = if j ≤ 2 then -1 else 2 := ⟨_, rfl⟩
          rw [← hz] at he ⊢
          have He := Lib.hid he
          clear hke hz he
          go_wp2_with fail
          refine (CK.out _).mono ?_
          rintro e wx ⟨rfl, hwx⟩
          obtain rfl := hwx.symm
          go_wp2_with fail
          go_roundg (gk - 1)
          case measure => omega
          case rel => exact ⟨j + 1, by omega, by omega, by go_num, by rw [He.out], rfl⟩
      · obtain rfl : j = 7 := by omega
        go_wp2_with fail
        go_loopg [6, 7] 3 (fun q' s6 s7 wr => ∃ (d dim : Nat) (R : List (Nat × ByteArray)) (o' cap' : Nat), 1 ≤ d ∧ d ≤ 4 ∧ q' + d = 4 ∧ s7 = .int .i64 (d : Int) ∧ s6 = .int .i64 (dim : Int) ∧ dim ≤ 4 ∧ Hid (TgI c P d dim R) ∧ Hid (RdS wr rb q o' cap' R false) ∧ Hid (Only rb w2 wr))
        case atStart => exact ⟨1, 0, _, _, _, by omega, by omega, by omega, rfl, rfl, by omega, TgI.start c P, hr2, Only.refl _ _⟩
        case round =>
          obtain ⟨d, dim, R, o2, cap2, hd1, hd4, hq2, rfl, rfl, hdim, hI, hr, ho⟩ := hrel
          have hG3 : Hid (wr.heap[b0]? = some (.cells geom0 33 (0, 0))) := by rw [Hid, ho.out.block b0 (fun h => hne h.symm)]; exact hG2.out
          have hX3 : Hid (RX rb w wr) := hX2.out.trans (RX.only ho.out)
          by_cases hd : d < 4
          · have hlt : (d : Int) < 4 := by omega
            by_cases hz : dim = 0
            · subst hz
              have cD := fun W : World => dimName_ok d hd W
              obtain ⟨dn, hdn⟩ : ∃ dn, dn = dimN d := ⟨_, rfl⟩
              rw [← hdn] at cD
              have CD := Lib.hid cD
              have Hdn := Lib.hid hdn
              clear cD hdn
              go_wp2_with fail
              refine (CD.out _).mono ?_
              rintro e wx ⟨rfl, hwx⟩
              obtain rfl := hwx.symm
              go_wp2_with fail
              refine (word_ok _ _ hr.out).mono ?_
              rintro e w4 ⟨ho4, ⟨hno, rfl, hw4⟩ | ⟨R', _, hR, rfl, o4, cap4, hr4⟩⟩
              · obtain rfl := hw4.symm
                have HI2 : Hid (TgI c P (d + 1) 0 R) := hI.out.no (fun R' hR' => hno ⟨rfl, R', by rw [Hdn.out]; exact hR'⟩)
                clear hno ho4
                go_wp2_with fail
                go_roundg (gk - 1)
                case measure => omega
                case rel => exact ⟨d + 1, 0, R, o2, cap2, by omega, by omega, by omega, by go_num, rfl, by omega, HI2, hr, ho⟩
              · have HI2 : Hid (TgI c P (d + 1) d R') := TgI.yes hc hd1 hd HP.out hI.out (by rw [← Hdn.out]; exact hR)
                have HR4 := Lib.hid hr4
                have HO4 : Hid (Only rb w2 w4) := ho.out.trans ho4
                clear hR hr4 ho4
                go_wp2_with fail
                go_roundg (gk - 1)
                case measure => omega
                case rel => exact ⟨d + 1, d, R', o4, cap4, by omega, by omega, by omega, by go_num, by go_num, by omega, HI2, HR4, HO4⟩
            · have hz' : ((dim : Int) == 0) = false := by rw [beq_eq_false_iff_ne]; omega
              have HI2 : Hid (TgI c P (d + 1) dim R) := hI.out.skip hz
              clear hz
              go_wp2_with fail
              go_roundg (gk - 1)
              case measure => omega
              case rel => exact ⟨d + 1, dim, R, o2, cap2, by omega, by omega, by omega, by go_num, rfl, by omega, HI2, hr, ho⟩
          · obtain rfl : d = 4 := by omega
            obtain ⟨hdc, hRP⟩ := hI.out.done hc
            obtain rfl := hdc
            obtain rfl := hRP
            have hht : Hid (TB B T F wr) := hX3.out.tb HT.out hB hBs
            go_wp2_with fail
            refine (body_ok dim hc _ hr.out HK.out hht.out hB).mono ?_
            rintro e w5 ⟨hX5, xs, v, R5, bad5, o5, cap5, rfl, hrow, hm, hl, hrd, hres⟩
            have hG5 : Hid (w5.heap[b0]? = some (.cells geom0 33 (0, 0))) := by rw [Hid, hX5.block b0 (Lib.lt_of_heap hG3.out) (fun h => hne h.symm)]; exact hG3.out
            have hX6 : Hid (RX rb w w5) := hX3.out.trans hX5
            obtain ⟨ao, cap9, hv9⟩ := row_slice hrow
            subst hv9
            have HRow : Hid (w5.ownsRow w.heap.size 75 1 (.slice ao xs.length cap9) xs.length (flts xs)) := row_mono hrow hX3.out.size
            have HM := Lib.hid hm
            have HL := Lib.hid hl
            have HRd := Lib.hid hrd
            have HRes := Lib.hid hres
            obtain ⟨nz, hnz⟩ : ∃ n, n = xs.length := ⟨_, rfl⟩
            rw [← hnz] at HRow ⊢
            have Hnz := Lib.hid hnz
            have l0 : w5.cell? ⟨b0, 0, none⟩ = some (.int .i64 0) := by rw [Lib.cell_of_heap hG5.out]; rfl
            have l1 : w5.cell? ⟨b0, 1, none⟩ = some (.int .i64 0) := by rw [Lib.cell_of_heap hG5.out]; rfl
            have l2 : w5.cell? ⟨b0, 2, none⟩ = some (.slice none 0 0) := by rw [Lib.cell_of_heap hG5.out]; rfl
            have l3 : w5.cell? ⟨b0, 3, none⟩ = some (.slice none 0 0) := by rw [Lib.cell_of_heap hG5.out]; rfl
            have lf0 := Lib.frozen_of_heap hG5.out 0
            have lf1 := Lib.frozen_of_heap hG5.out 1
            have lf2 := Lib.frozen_of_heap hG5.out 2
            have lf3 := Lib.frozen_of_heap hG5.out 3
            have hl0 : w.heap.size ≤ b0 := by have := Hb0.out; omega
            clear hX5 hrow hm hl hrd hres hnz
            go_wp2_with fail
            have y0 := Lib.heap_setCell_same (i := 0) hG5.out (.int .i64 2)
            have y1 := Lib.heap_setCell_same (i := 1) y0 (.int .i64 (dim : Int))
            have y2 := Lib.heap_setCell_same (i := 2) y1 (.slice ao nz cap9)
            have y3 := Lib.heap_setCell_same (i := 3) y2 (.slice none 0 0)
            have x0 := (Below.refl w.heap.size w5).setCell (p := ⟨b0, 0, none⟩) hl0 (.int .i64 2)
            have x1 := x0.setCell (p := ⟨b0, 1, none⟩) hl0 (.int .i64 (dim : Int))
            have x2 := x1.setCell (p := ⟨b0, 2, none⟩) hl0 (.slice ao nz cap9)
            have x3 := x2.setCell (p := ⟨b0, 3, none⟩) hl0 (.slice none 0 0)
            have r0 := row_set (i := 0) HRow.out hG5.out (by decide) (.int .i64 2)
            have r1 := row_set (i := 1) r0 y0 (by decide) (.int .i64 (dim : Int))
            have r2 := row_set (i := 2) r1 y1 (by decide) (.slice ao nz cap9)
            have r3 := row_set (i := 3) r2 y2 (by decide) (.slice none 0 0)
            exact ⟨rfl, _, results_cell_row rfl _ _ b0 33 (gcells dim (.slice ao nz cap9)) (0, 0) (.struct (Tryz.prog.fieldsOf 33)) rfl y3 (by kernel_rfl) rfl (by kernel_rfl), hX6.out.ext x3, xs, .slice ao nz cap9, R5, bad5, o5, cap5, rfl, by rw [← Hnz.out]; exact r3, HM.out, HL.out, HRd.out.blw x3 hrb hql, HRes.out⟩
end Go.Proofs.YthplmbgdcfmkgaaGreatDoor
