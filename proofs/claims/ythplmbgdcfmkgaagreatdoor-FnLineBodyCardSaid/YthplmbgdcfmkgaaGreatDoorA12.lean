/- The scanner: small functions. -/
import Derived.Test.YthplmbgdcfmkgaaGreatDoorA01
set_option linter.unusedVariables false
set_option linter.unusedSimpArgs false
/- The scanner's small functions. -/
namespace Go.Proofs.YthplmbgdcfmkgaaGreatDoor
open Go.RowKit

def dig (c : Int) : Bool := decide (48 ≤ c) && decide (c ≤ 57)
/-- A character in small letters, if it is a letter. -/
def low (c : Int) : Int := bits .or .i32 32 c
def ltr (c : Int) : Bool := decide (97 ≤ low c) && decide (low c ≤ 122)
def idr (c : Int) (i : Int) : Bool := (c == 95) || ltr c || (dig c && decide (0 < i))

theorem is_decimal (c : Int) (w : World) : Calls Tryz.prog 74 #[.int .i32 c] w fun e w' => e = .returned (.bool (dig c)) ∧ w' = w := by
  obtain ⟨b, hb⟩ : ∃ b, dig c = b := ⟨_, rfl⟩
  rw [hb]
  by_cases h1 : 48 ≤ c
  · by_cases h2 : c ≤ 57
    · have hb' : b = true := by rw [← hb, dig]; simp [h1, h2]
      subst hb'
      clear hb
      go_enter Tryz.func74, Tryz.ntmps74
      go_wp2
      go_ret
      exact ⟨rfl, rfl⟩
    · have hb' : b = false := by rw [← hb, dig]; simp [h2]
      subst hb'
      clear hb
      go_enter Tryz.func74, Tryz.ntmps74
      go_wp2
      go_ret
      exact ⟨rfl, rfl⟩
  · have hb' : b = false := by rw [← hb, dig]; simp [h1]
    subst hb'
    clear hb
    go_enter Tryz.func74, Tryz.ntmps74
    go_wp2
    go_ret
    exact ⟨rfl, rfl⟩
theorem is_lower (c : Int) (w : World) : Calls Tryz.prog 89 #[.int .i32 c] w fun e w' => e = .returned (.int .i32 (low c)) ∧ w' = w := by
  obtain ⟨b, hb⟩ : ∃ b, low c = b := ⟨_, rfl⟩
  rw [hb]
  have hb' : bits .or .i32 32 c = b := hb
  clear hb
  go_enter Tryz.func89, Tryz.ntmps89
  go_wp2
  go_ret
  exact ⟨rfl, rfl⟩
theorem low_ascii : ∀ c : _root_.Fin 128, ltr (c.val : Int) = (decide (65 ≤ c.val) && decide (c.val ≤ 90) || decide (97 ≤ c.val) && decide (c.val ≤ 122)) := by decide
theorem low_end : ltr (-1) = false ∧ dig (-1) = false := by decide
theorem low_some : ∀ c : _root_.Fin 128, ltr (c.val : Int) = false → low (c.val : Int) ≠ 101 ∧ low (c.val : Int) ≠ 112 ∧ low (c.val : Int) ≠ 120 ∧ low (c.val : Int) ≠ 111 ∧ low (c.val : Int) ≠ 98 := by decide
theorem low_e : ∀ c : _root_.Fin 128, low (c.val : Int) = 101 ↔ c.val = 101 ∨ c.val = 69 := by decide

theorem nil_func_eq (w : World) : Sem.run Tryz.prog (binOp BinOp.neq 88 Value.nilFunc Value.nilFunc) w = .ok (.bool false) w := by kernel_rfl
set_option maxRecDepth 100000 in
theorem is_ident (g : Nat) (c i : Int) (w : World) (h : w.cell? ⟨g, 1043, none⟩ = some .nilFunc) :
    Calls Tryz.prog 72 #[.pointer (some ⟨g, 0, none⟩), .int .i32 c, .int .i64 i] w fun e w' => e = .returned (.bool (idr c i)) ∧ w' = w := by
  obtain ⟨b, hb⟩ : ∃ b, idr c i = b := ⟨_, rfl⟩
  obtain ⟨l, hl⟩ : ∃ l, low c = l := ⟨_, rfl⟩
  obtain ⟨d, hd⟩ : ∃ d, dig c = d := ⟨_, rfl⟩
  have hnn := fun W : World => nil_func_eq W
  have HD := fun W : World => is_decimal c W
  have HL := fun W : World => is_lower c W
  rw [hd] at HD
  rw [hl] at HL
  have hb2 : ((c == 95) || (decide (97 ≤ l) && decide (l ≤ 122)) || (d && decide (0 < i))) = b := by rw [← hb, ← hd, ← hl]; rfl
  rw [hb]
  clear hb hl hd
  have HD' := Lib.hid HD
  have HL' := Lib.hid HL
  clear HD HL
  by_cases h95 : (c == 95) = true
  · obtain rfl : b = true := by rw [← hb2, h95]; rfl
    clear hb2
    go_enter Tryz.func72, Tryz.ntmps72
    go_wp2
    go_ret
    exact ⟨rfl, rfl⟩
  · have h95' : (c == 95) = false := by simpa using h95
    clear h95
    rw [h95', Bool.false_or] at hb2
    by_cases hl : 97 ≤ l
    · by_cases hl2 : l ≤ 122
      · obtain rfl : b = true := by rw [← hb2]; simp [hl, hl2]
        clear hb2
        go_enter Tryz.func72, Tryz.ntmps72
        go_wp2_with fail
        refine (HL'.out _).mono ?_
        rintro e w' ⟨rfl, rfl⟩
        go_wp2_with fail
        refine (HL'.out _).mono ?_
        rintro e w' ⟨rfl, rfl⟩
        go_wp2_with fail
        go_ret
        exact ⟨rfl, rfl⟩
      · rw [decide_eq_false hl2, Bool.and_false, Bool.false_or] at hb2
        cases d with
        | false =>
          obtain rfl : b = false := by rw [← hb2]; rfl
          clear hb2
          go_enter Tryz.func72, Tryz.ntmps72
          go_wp2_with fail
          refine (HL'.out _).mono ?_
          rintro e w' ⟨rfl, rfl⟩
          go_wp2_with fail
          refine (HL'.out _).mono ?_
          rintro e w' ⟨rfl, rfl⟩
          go_wp2_with fail
          refine (HD'.out _).mono ?_
          rintro e w' ⟨rfl, rfl⟩
          go_wp2_with fail
          go_ret
          exact ⟨congrArg (fun b => Ending.returned (Value.bool b)) (decide_eq_false (by omega)), rfl⟩
        | true =>
          rw [Bool.true_and] at hb2
          have HB := Lib.hid hb2
          clear hb2
          go_enter Tryz.func72, Tryz.ntmps72
          go_wp2_with fail
          refine (HL'.out _).mono ?_
          rintro e w' ⟨rfl, rfl⟩
          go_wp2_with fail
          refine (HL'.out _).mono ?_
          rintro e w' ⟨rfl, rfl⟩
          go_wp2_with fail
          refine (HD'.out _).mono ?_
          rintro e w' ⟨rfl, rfl⟩
          go_wp2_with fail
          go_ret
          exact ⟨congrArg (fun b => Ending.returned (Value.bool b)) (by rw [decide_eq_false (by omega : ¬ l ≤ 122), Bool.false_or]; exact HB.out), rfl⟩
    · rw [decide_eq_false hl, Bool.false_and, Bool.false_or] at hb2
      cases d with
      | false =>
        obtain rfl : b = false := by rw [← hb2]; rfl
        clear hb2
        go_enter Tryz.func72, Tryz.ntmps72
        go_wp2_with fail
        refine (HL'.out _).mono ?_
        rintro e w' ⟨rfl, rfl⟩
        go_wp2_with fail
        refine (HD'.out _).mono ?_
        rintro e w' ⟨rfl, rfl⟩
        go_wp2_with fail
        go_ret
        exact ⟨rfl, rfl⟩
      | true =>
        rw [Bool.true_and] at hb2
        have HB := Lib.hid hb2
        clear hb2
        go_enter Tryz.func72, Tryz.ntmps72
        go_wp2_with fail
        refine (HL'.out _).mono ?_
        rintro e w' ⟨rfl, rfl⟩
        go_wp2_with fail
        refine (HD'.out _).mono ?_
        rintro e w' ⟨rfl, rfl⟩
        go_wp2_with fail
        go_ret
        exact ⟨congrArg (fun b => Ending.returned (Value.bool b)) HB.out, rfl⟩
end Go.Proofs.YthplmbgdcfmkgaaGreatDoor
