/- The library contracts, laid. -/
import Derived.Shelf.Small.Utf8
import Derived.Shelf.Utf8.AppendRune
import Derived.Shelf.Utf8.AppendRunePlain
import Derived.Shelf.Strconv.Bsearch
import Derived.Shelf.Strconv.IsPrint
import Derived.Shelf.Strconv.IsPrint16
import Derived.Shelf.Strconv.IsPrint32
import Derived.Shelf.Strconv.Escaped
import Derived.Shelf.Strconv.Quoted
import Derived.Shelf.Strconv.Quote
import Derived.Ground.FneProg
import Derived.Shelf.Strconv.NumErrorText
import Derived.Shelf.Strconv.Itoa0
import Derived.Shelf.Strconv.Itoa1
import Derived.Shelf.LaysM
import Derived.Shelf.Strconv.Itoa2
import Derived.Shelf.Strconv.Itoa3
import Derived.Shelf.Bytes.Len
import Derived.Shelf.Bytes.TryGrow
import Derived.Shelf.Bytes.GrowSliceCatch
import Derived.Shelf.Bytes.GrowSlice
import Derived.Shelf.Bytes.GrowRow0
import Derived.Shelf.Bytes.GrowRow
import Derived.Shelf.Bytes.GrowNil
import Derived.Shelf.Bytes.Grow
import Derived.Shelf.Bytes.Write
import Derived.Shelf.Strconv.Clone
import Derived.Shelf.Strconv.SyntaxError
import Derived.Shelf.LaysC
import Derived.Shelf.Strconv.ToError
import Derived.Shelf.Strconv.Lower
import Derived.Shelf.Strconv.RangeError
import Derived.Shelf.Strconv.ToErrorRange
import Derived.Shelf.Bytes.GrowRow0Kept
import Derived.Shelf.Bytes.GrowRowKept
import Derived.Shelf.Bytes.GrowNilKept
import Derived.Shelf.Bytes.GrowKept
import Derived.Shelf.Bytes.ResetKept
import Derived.Shelf.Bytes.WriteKept
import Derived.Shelf.Bytes.BufferK
import Derived.Shelf.Bytes.GrowRow0Own
import Derived.Shelf.Bytes.GrowRowOwn
import Derived.Shelf.Bytes.GrowNilOwn
import Derived.Shelf.Bytes.GrowOwn
import Derived.Shelf.Bytes.WriteAny
import Derived.Shelf.Bytes.LenAt
import Derived.Shelf.Bytes.StringAt
import Derived.Shelf.Bytes.TryGrowAt
import Derived.Shelf.Bytes.GrowRow0At
import Derived.Shelf.Bytes.GrowRowAt
import Derived.Shelf.Bytes.GrowNilAt
import Derived.Shelf.Bytes.GrowAt
import Derived.Shelf.Bytes.WriteAt
import Derived.Shelf.Unicode.Decode
import Derived.Shelf.Bits.Mul64
import Derived.Shelf.Unicode.DecodeSlow
import Derived.Shelf.Unicode.DecodeAny
import Derived.Test.YthplmbgdcfmkgaaGreatDoorProg
set_option linter.unusedVariables false
set_option linter.unusedSimpArgs false
namespace Go.Proofs
open Go.Shelf
def Tryz.lays119_ren : Go.Shelf.Ren := ⟨fun | 119 => 197 | n => n, fun | 21 => 21 | 4 => 4 | n => n, fun | n => n⟩
theorem Tryz.lays119 : Go.Proofs.Lays.n119 Tryz.prog Tryz.lays119_ren := {
  mixed := by kernel_rfl
  f119 := Tryz.func197.trans (congrArg some (by kernel_rfl))
  t4 := Tryz.underlying4
  a4 := Tryz.isAgg4
  z4 := Tryz.sizeOf4
  v4 := Tryz.zeroValue4
  t21 := Tryz.underlying21
  a21 := Tryz.isAgg21
  z21 := Tryz.sizeOf21
  v21 := Tryz.zeroValue21 }
theorem Tryz.utf8_ValidRune (r : Int) (w : World) :
    Calls Tryz.prog 197 #[.int .i32 r] w fun e w' => e = .returned (.bool (Lib.validRune r)) ∧ w' = w := Any.utf8_ValidRune Tryz.lays119 r w
def Tryz.lays278_ren : Go.Shelf.Ren := ⟨fun | 278 => 200 | n => n, fun | 37 => 81 | 21 => 21 | 51 => 186 | 4 => 4 | 46 => 87 | 5 => 5 | n => n, fun | n => n⟩
theorem Tryz.lays278 : Go.Proofs.Lays.n278 Tryz.prog Tryz.lays278_ren := {
  mixed := by kernel_rfl
  f278 := Tryz.func200.trans (congrArg some (by kernel_rfl))
  t4 := Tryz.underlying4
  a4 := Tryz.isAgg4
  z4 := Tryz.sizeOf4
  v4 := Tryz.zeroValue4
  t5 := Tryz.underlying5
  a5 := Tryz.isAgg5
  z5 := Tryz.sizeOf5
  v5 := Tryz.zeroValue5
  t21 := Tryz.underlying21
  a21 := Tryz.isAgg21
  z21 := Tryz.sizeOf21
  v21 := Tryz.zeroValue21
  t37 := Tryz.underlying81
  a37 := Tryz.isAgg81
  z37 := Tryz.sizeOf81
  v37 := Tryz.zeroValue81
  t46 := Tryz.underlying87
  a46 := Tryz.isAgg87
  z46 := Tryz.sizeOf87
  v46 := Tryz.zeroValue87
  t51 := Tryz.underlying186
  a51 := Tryz.isAgg186
  z51 := Tryz.sizeOf186
  v51 := Tryz.zeroValue186 }
open Go.RowKit in
theorem Tryz.utf8_appendRuneNonASCII_row (B : Nat) (v : Value) (n : Nat) (xs : List Value) (r : Int) (hr0 : -2147483648 ≤ r) (hr1 : r ≤ 2147483647) (hna : r < 0 ∨ 128 ≤ r) (w : World) (hown : w.ownsRowF B 5 1 v n xs) (hlen : n + 4 ≤ 140737488355328) (hBw : B ≤ w.heap.size) :
    Calls Tryz.prog 200 #[v, .int .i32 r] w fun e w' => ∃ v', e = .returned v' ∧ w'.ownsRowF B 5 1 v' (n + (Lib.runeCells r).length) (xs ++ Lib.runeCells r) ∧ ∃ o, (w.alloc o).grownBy w' v.ownBlock := Any.utf8_appendRuneNonASCII_row Tryz.lays278 (by kernel_rfl) B v n xs r hr0 hr1 hna w hown hlen hBw
def Tryz.lays242_ren : Go.Shelf.Ren := ⟨fun | 242 => 196 | 278 => 200 | n => n, fun | 37 => 81 | 21 => 21 | 51 => 186 | 4 => 4 | 5 => 5 | 46 => 87 | n => n, fun | n => n⟩
theorem Tryz.lays242 : Go.Proofs.Lays.n242 Tryz.prog Tryz.lays242_ren := {
  mixed := by kernel_rfl
  f242 := Tryz.func196.trans (congrArg some (by kernel_rfl))
  f278 := Tryz.func200.trans (congrArg some (by kernel_rfl))
  t4 := Tryz.underlying4
  a4 := Tryz.isAgg4
  z4 := Tryz.sizeOf4
  v4 := Tryz.zeroValue4
  t5 := Tryz.underlying5
  a5 := Tryz.isAgg5
  z5 := Tryz.sizeOf5
  v5 := Tryz.zeroValue5
  t21 := Tryz.underlying21
  a21 := Tryz.isAgg21
  z21 := Tryz.sizeOf21
  v21 := Tryz.zeroValue21
  t37 := Tryz.underlying81
  a37 := Tryz.isAgg81
  z37 := Tryz.sizeOf81
  v37 := Tryz.zeroValue81
  t46 := Tryz.underlying87
  a46 := Tryz.isAgg87
  z46 := Tryz.sizeOf87
  v46 := Tryz.zeroValue87
  t51 := Tryz.underlying186
  a51 := Tryz.isAgg186
  z51 := Tryz.sizeOf186
  v51 := Tryz.zeroValue186 }
open Go.RowKit in
theorem Tryz.utf8_AppendRune_row (B : Nat) (v : Value) (n : Nat) (xs : List Value) (r : Int) (hr0 : -2147483648 ≤ r) (hr1 : r ≤ 2147483647) (w : World) (hown : w.ownsRowF B 5 1 v n xs) (hlen : n + 4 ≤ 140737488355328) (hBw : B ≤ w.heap.size) :
    Calls Tryz.prog 196 #[v, .int .i32 r] w fun e w' => ∃ v', e = .returned v' ∧ w'.ownsRowF B 5 1 v' (n + (Lib.runeCells r).length) (xs ++ Lib.runeCells r) ∧ ∃ o, (w.alloc o).grownBy w' v.ownBlock := Any.utf8_AppendRune_row Tryz.lays242 (by kernel_rfl) B v n xs r hr0 hr1 w hown hlen hBw
open Go.RowKit in
theorem Tryz.utf8_appendRuneNonASCII_plain (B : Nat) (v : Value) (n : Nat) (xs : List Value) (r : Int) (hr0 : -2147483648 ≤ r) (hr1 : r ≤ 2147483647) (hna : r < 0 ∨ 128 ≤ r) (w : World) (hown : w.ownsRow B 5 1 v n xs) (hlen : n + 4 ≤ 140737488355328) (hBw : B ≤ w.heap.size) :
    Calls Tryz.prog 200 #[v, .int .i32 r] w fun e w' => ∃ v', e = .returned v' ∧ w'.ownsRow B 5 1 v' (n + (Lib.runeCells r).length) (xs ++ Lib.runeCells r) ∧ ∃ o, (w.alloc o).grownBy w' v.ownBlock := Any.utf8_appendRuneNonASCII_plain Tryz.lays278 (by kernel_rfl) B v n xs r hr0 hr1 hna w hown hlen hBw
open Go.RowKit in
theorem Tryz.utf8_AppendRune_plain (B : Nat) (v : Value) (n : Nat) (xs : List Value) (r : Int) (hr0 : -2147483648 ≤ r) (hr1 : r ≤ 2147483647) (w : World) (hown : w.ownsRow B 5 1 v n xs) (hlen : n + 4 ≤ 140737488355328) (hBw : B ≤ w.heap.size) :
    Calls Tryz.prog 196 #[v, .int .i32 r] w fun e w' => ∃ v', e = .returned v' ∧ w'.ownsRow B 5 1 v' (n + (Lib.runeCells r).length) (xs ++ Lib.runeCells r) ∧ ∃ o, (w.alloc o).grownBy w' v.ownBlock := Any.utf8_AppendRune_plain Tryz.lays242 (by kernel_rfl) B v n xs r hr0 hr1 w hown hlen hBw
def Tryz.lays345_ren : Go.Shelf.Ren := ⟨fun | 345 => 198 | n => n, fun | 234 => 267 | 49 => 266 | 3 => 3 | 4 => 4 | 46 => 87 | 0 => 0 | n => n, fun | n => n⟩
theorem Tryz.lays345 : Go.Proofs.Lays.n345 Tryz.prog Tryz.lays345_ren := {
  mixed := by kernel_rfl
  f345 := Tryz.func198.trans (congrArg some (by kernel_rfl))
  t0 := Tryz.underlying0
  a0 := Tryz.isAgg0
  z0 := Tryz.sizeOf0
  v0 := Tryz.zeroValue0
  t3 := Tryz.underlying3
  a3 := Tryz.isAgg3
  z3 := Tryz.sizeOf3
  v3 := Tryz.zeroValue3
  t4 := Tryz.underlying4
  a4 := Tryz.isAgg4
  z4 := Tryz.sizeOf4
  v4 := Tryz.zeroValue4
  t46 := Tryz.underlying87
  a46 := Tryz.isAgg87
  z46 := Tryz.sizeOf87
  v46 := Tryz.zeroValue87
  t49 := Tryz.underlying266
  a49 := Tryz.isAgg266
  z49 := Tryz.sizeOf266
  v49 := Tryz.zeroValue266
  t234 := Tryz.underlying267
  a234 := Tryz.isAgg267
  z234 := Tryz.sizeOf267
  v234 := Tryz.zeroValue267 }
open Go.RowKit in
theorem Tryz.strconv_bsearch16 (R o c : Nat) (t : List Nat) (v : Nat) (w : World) (h0 : 0 < t.length) (hn : t.length ≤ 4611686018427387904) (hc : ∀ j, j < t.length → w.cell? ⟨R, o + j, none⟩ = some (.int .u16 (t.getD j 0))) :
    Calls Tryz.prog 198 #[.slice (some ⟨R, o, none⟩) t.length c, .int .u16 v] w fun e w' => e = .returned (.tuple #[.int .i64 (Lib.bsearchI t v), .bool (Lib.bsearchFound t v)]) ∧ ∃ q, w' = w.drewN q := Any.strconv_bsearch16 Tryz.lays345 R o c t v w h0 hn hc
def Tryz.lays346_ren : Go.Shelf.Ren := ⟨fun | 346 => 199 | n => n, fun | 236 => 269 | 51 => 186 | 3 => 3 | 4 => 4 | 46 => 87 | 0 => 0 | n => n, fun | n => n⟩
theorem Tryz.lays346 : Go.Proofs.Lays.n346 Tryz.prog Tryz.lays346_ren := {
  mixed := by kernel_rfl
  f346 := Tryz.func199.trans (congrArg some (by kernel_rfl))
  t0 := Tryz.underlying0
  a0 := Tryz.isAgg0
  z0 := Tryz.sizeOf0
  v0 := Tryz.zeroValue0
  t3 := Tryz.underlying3
  a3 := Tryz.isAgg3
  z3 := Tryz.sizeOf3
  v3 := Tryz.zeroValue3
  t4 := Tryz.underlying4
  a4 := Tryz.isAgg4
  z4 := Tryz.sizeOf4
  v4 := Tryz.zeroValue4
  t46 := Tryz.underlying87
  a46 := Tryz.isAgg87
  z46 := Tryz.sizeOf87
  v46 := Tryz.zeroValue87
  t51 := Tryz.underlying186
  a51 := Tryz.isAgg186
  z51 := Tryz.sizeOf186
  v51 := Tryz.zeroValue186
  t236 := Tryz.underlying269
  a236 := Tryz.isAgg269
  z236 := Tryz.sizeOf269
  v236 := Tryz.zeroValue269 }
open Go.RowKit in
theorem Tryz.strconv_bsearch32 (R o c : Nat) (t : List Nat) (v : Nat) (w : World) (h0 : 0 < t.length) (hn : t.length ≤ 4611686018427387904) (hc : ∀ j, j < t.length → w.cell? ⟨R, o + j, none⟩ = some (.int .u32 (t.getD j 0))) :
    Calls Tryz.prog 199 #[.slice (some ⟨R, o, none⟩) t.length c, .int .u32 v] w fun e w' => e = .returned (.tuple #[.int .i64 (Lib.bsearchI t v), .bool (Lib.bsearchFound t v)]) ∧ ∃ q, w' = w.drewN q := Any.strconv_bsearch32 Tryz.lays346 R o c t v w h0 hn hc
def Tryz.lays339_ren : Go.Shelf.Ren := ⟨fun | 339 => 194 | 345 => 198 | 346 => 199 | n => n, fun | 21 => 21 | 4 => 4 | 49 => 266 | 234 => 267 | 131 => 156 | 3 => 3 | 0 => 0 | 51 => 186 | 236 => 269 | 46 => 87 | n => n, fun | 20 => 19 | 21 => 20 | 22 => 21 | 23 => 22 | n => n⟩
theorem Tryz.lays339 : Go.Proofs.Lays.n339 Tryz.prog Tryz.lays339_ren := {
  mixed := by kernel_rfl
  f339 := Tryz.func194.trans (congrArg some (by kernel_rfl))
  f345 := Tryz.func198.trans (congrArg some (by kernel_rfl))
  f346 := Tryz.func199.trans (congrArg some (by kernel_rfl))
  t0 := Tryz.underlying0
  a0 := Tryz.isAgg0
  z0 := Tryz.sizeOf0
  v0 := Tryz.zeroValue0
  t3 := Tryz.underlying3
  a3 := Tryz.isAgg3
  z3 := Tryz.sizeOf3
  v3 := Tryz.zeroValue3
  t4 := Tryz.underlying4
  a4 := Tryz.isAgg4
  z4 := Tryz.sizeOf4
  v4 := Tryz.zeroValue4
  t21 := Tryz.underlying21
  a21 := Tryz.isAgg21
  z21 := Tryz.sizeOf21
  v21 := Tryz.zeroValue21
  t46 := Tryz.underlying87
  a46 := Tryz.isAgg87
  z46 := Tryz.sizeOf87
  v46 := Tryz.zeroValue87
  t49 := Tryz.underlying266
  a49 := Tryz.isAgg266
  z49 := Tryz.sizeOf266
  v49 := Tryz.zeroValue266
  t51 := Tryz.underlying186
  a51 := Tryz.isAgg186
  z51 := Tryz.sizeOf186
  v51 := Tryz.zeroValue186
  t131 := Tryz.underlying156
  a131 := Tryz.isAgg156
  z131 := Tryz.sizeOf156
  v131 := Tryz.zeroValue156
  t234 := Tryz.underlying267
  a234 := Tryz.isAgg267
  z234 := Tryz.sizeOf267
  v234 := Tryz.zeroValue267
  t236 := Tryz.underlying269
  a236 := Tryz.isAgg269
  z236 := Tryz.sizeOf269
  v236 := Tryz.zeroValue269
  g20 := by kernel_rfl
  g21 := by kernel_rfl
  g22 := by kernel_rfl
  g23 := by kernel_rfl }
open Go.RowKit in
theorem Tryz.strconv_IsPrint_latin (r : Int) (w : World) (hr : r ≤ 255) :
    Calls Tryz.prog 194 #[.int .i32 r] w fun e w' => e = .returned (.bool (Lib.isPrintLatin r)) ∧ w' = w := Any.strconv_IsPrint_latin Tryz.lays339 r w hr
open Go.RowKit in
theorem Tryz.strconv_IsPrint_16 (T : Lib.PrintTabs) (r : Nat) (w : World) (h1 : 255 < r) (h2 : r < 65536) (hT : Lib.PrintTabsAt 19 20 21 22 T w) :
    Calls Tryz.prog 194 #[.int .i32 r] w fun e w' => e = .returned (.bool (Lib.isPrintR T r)) ∧ ∃ q, w' = w.drewN q := Any.strconv_IsPrint_16 Tryz.lays339 T r w h1 h2 hT
open Go.RowKit in
theorem Tryz.strconv_IsPrint_32 (T : Lib.PrintTabs) (r : Nat) (w : World) (h1 : 65535 < r) (h2 : r < 2147483648) (hT : Lib.PrintTabsAt 19 20 21 22 T w) :
    Calls Tryz.prog 194 #[.int .i32 r] w fun e w' => e = .returned (.bool (Lib.isPrintR T r)) ∧ ∃ q, w' = w.drewN q := Any.strconv_IsPrint_32 Tryz.lays339 T r w h1 h2 hT
open Go.RowKit in
theorem Tryz.strconv_IsPrint (T : Lib.PrintTabs) (r : Int) (w : World) (hlo : -2147483648 ≤ r) (hhi : r ≤ 2147483647) (hT : Lib.PrintTabsAt 19 20 21 22 T w) :
    Calls Tryz.prog 194 #[.int .i32 r] w fun e w' => e = .returned (.bool (Lib.isPrintR T r)) ∧ ∃ q, w' = w.drewN q := Any.strconv_IsPrint Tryz.lays339 T r w hlo hhi hT
def Tryz.lays323_ren : Go.Shelf.Ren := ⟨fun | 323 => 192 | 339 => 194 | 340 => 195 | 242 => 196 | 119 => 197 | 345 => 198 | 346 => 199 | 278 => 200 | n => n, fun | 37 => 81 | 21 => 21 | 5 => 5 | 4 => 4 | 9 => 9 | 46 => 87 | 3 => 3 | 49 => 266 | 234 => 267 | 131 => 156 | 0 => 0 | 51 => 186 | 236 => 269 | n => n, fun | 20 => 19 | 21 => 20 | 22 => 21 | 23 => 22 | 24 => 23 | n => n⟩
theorem Tryz.lays323 : Go.Proofs.Lays.n323 Tryz.prog Tryz.lays323_ren := {
  mixed := by kernel_rfl
  f119 := Tryz.func197.trans (congrArg some (by kernel_rfl))
  f242 := Tryz.func196.trans (congrArg some (by kernel_rfl))
  f278 := Tryz.func200.trans (congrArg some (by kernel_rfl))
  f323 := Tryz.func192.trans (congrArg some (by kernel_rfl))
  f339 := Tryz.func194.trans (congrArg some (by kernel_rfl))
  f340 := Tryz.func195.trans (congrArg some (by kernel_rfl))
  f345 := Tryz.func198.trans (congrArg some (by kernel_rfl))
  f346 := Tryz.func199.trans (congrArg some (by kernel_rfl))
  t0 := Tryz.underlying0
  a0 := Tryz.isAgg0
  z0 := Tryz.sizeOf0
  v0 := Tryz.zeroValue0
  t3 := Tryz.underlying3
  a3 := Tryz.isAgg3
  z3 := Tryz.sizeOf3
  v3 := Tryz.zeroValue3
  t4 := Tryz.underlying4
  a4 := Tryz.isAgg4
  z4 := Tryz.sizeOf4
  v4 := Tryz.zeroValue4
  t5 := Tryz.underlying5
  a5 := Tryz.isAgg5
  z5 := Tryz.sizeOf5
  v5 := Tryz.zeroValue5
  t9 := Tryz.underlying9
  a9 := Tryz.isAgg9
  z9 := Tryz.sizeOf9
  v9 := Tryz.zeroValue9
  t21 := Tryz.underlying21
  a21 := Tryz.isAgg21
  z21 := Tryz.sizeOf21
  v21 := Tryz.zeroValue21
  t37 := Tryz.underlying81
  a37 := Tryz.isAgg81
  z37 := Tryz.sizeOf81
  v37 := Tryz.zeroValue81
  t46 := Tryz.underlying87
  a46 := Tryz.isAgg87
  z46 := Tryz.sizeOf87
  v46 := Tryz.zeroValue87
  t49 := Tryz.underlying266
  a49 := Tryz.isAgg266
  z49 := Tryz.sizeOf266
  v49 := Tryz.zeroValue266
  t51 := Tryz.underlying186
  a51 := Tryz.isAgg186
  z51 := Tryz.sizeOf186
  v51 := Tryz.zeroValue186
  t131 := Tryz.underlying156
  a131 := Tryz.isAgg156
  z131 := Tryz.sizeOf156
  v131 := Tryz.zeroValue156
  t234 := Tryz.underlying267
  a234 := Tryz.isAgg267
  z234 := Tryz.sizeOf267
  v234 := Tryz.zeroValue267
  t236 := Tryz.underlying269
  a236 := Tryz.isAgg269
  z236 := Tryz.sizeOf269
  v236 := Tryz.zeroValue269
  g20 := by kernel_rfl
  g21 := by kernel_rfl
  g22 := by kernel_rfl
  g23 := by kernel_rfl
  g24 := by kernel_rfl }
open Go.RowKit in
theorem Tryz.strconv_appendEscapedRune_quoted (T : Lib.PrintTabs) (B : Nat) (v : Value) (n : Nat) (xs : List Value) (r : Int) (W0 w : World) (hb : Lib.OwnBuf B 5 v n xs W0 w) (hlen : n + 10 ≤ 140737488355328) (hT : Lib.PrintTabsAt 19 20 21 22 T w) (hr0 : 0 ≤ r) (hr1 : r ≤ 2147483647) (hq : r = 34 ∨ r = 92) :
    Calls Tryz.prog 192 #[v, .int .i32 r, .int .u8 34, .bool false, .bool false] w fun e w' => ∃ v', e = .returned v' ∧ Lib.OwnBuf B 5 v' (n + (Lib.escRune T r).length) (xs ++ Lib.intCells (Lib.escRune T r)) W0 w' := Any.strconv_appendEscapedRune_quoted Tryz.lays323 (by kernel_rfl) T B v n xs r W0 w hb hlen hT hr0 hr1 hq
open Go.RowKit in
theorem Tryz.strconv_appendEscapedRune_printable (T : Lib.PrintTabs) (B : Nat) (v : Value) (n : Nat) (xs : List Value) (r : Int) (W0 w : World) (hb : Lib.OwnBuf B 5 v n xs W0 w) (hlen : n + 10 ≤ 140737488355328) (hT : Lib.PrintTabsAt 19 20 21 22 T w) (hr0 : 0 ≤ r) (hr1 : r ≤ 2147483647) (hq1 : r ≠ 34) (hq2 : r ≠ 92) (hp : Lib.isPrintR T r = true) :
    Calls Tryz.prog 192 #[v, .int .i32 r, .int .u8 34, .bool false, .bool false] w fun e w' => ∃ v', e = .returned v' ∧ Lib.OwnBuf B 5 v' (n + (Lib.escRune T r).length) (xs ++ Lib.intCells (Lib.escRune T r)) W0 w' := Any.strconv_appendEscapedRune_printable Tryz.lays323 (by kernel_rfl) T B v n xs r W0 w hb hlen hT hr0 hr1 hq1 hq2 hp
open Go.RowKit in
theorem Tryz.strconv_appendEscapedRune_named (T : Lib.PrintTabs) (B : Nat) (v : Value) (n : Nat) (xs : List Value) (r : Int) (W0 w : World) (hb : Lib.OwnBuf B 5 v n xs W0 w) (hlen : n + 10 ≤ 140737488355328) (hT : Lib.PrintTabsAt 19 20 21 22 T w) (hr0 : 0 ≤ r) (hr1 : r ≤ 2147483647) (hn : r = 7 ∨ r = 8 ∨ r = 12 ∨ r = 10 ∨ r = 13 ∨ r = 9 ∨ r = 11) :
    Calls Tryz.prog 192 #[v, .int .i32 r, .int .u8 34, .bool false, .bool false] w fun e w' => ∃ v', e = .returned v' ∧ Lib.OwnBuf B 5 v' (n + (Lib.escRune T r).length) (xs ++ Lib.intCells (Lib.escRune T r)) W0 w' := Any.strconv_appendEscapedRune_named Tryz.lays323 (by kernel_rfl) T B v n xs r W0 w hb hlen hT hr0 hr1 hn
open Go.RowKit in
theorem Tryz.strconv_appendEscapedRune_hex2 (T : Lib.PrintTabs) (B : Nat) (v : Value) (n : Nat) (xs : List Value) (r : Int) (W0 w : World) (hb : Lib.OwnBuf B 5 v n xs W0 w) (hlen : n + 10 ≤ 140737488355328) (hT : Lib.PrintTabsAt 19 20 21 22 T w) (hr0 : 0 ≤ r) (hr1 : r ≤ 2147483647) (hx : r < 32 ∨ r = 127) (hn : ¬ (r = 7 ∨ r = 8 ∨ r = 12 ∨ r = 10 ∨ r = 13 ∨ r = 9 ∨ r = 11)) :
    Calls Tryz.prog 192 #[v, .int .i32 r, .int .u8 34, .bool false, .bool false] w fun e w' => ∃ v', e = .returned v' ∧ Lib.OwnBuf B 5 v' (n + (Lib.escRune T r).length) (xs ++ Lib.intCells (Lib.escRune T r)) W0 w' := Any.strconv_appendEscapedRune_hex2 Tryz.lays323 (by kernel_rfl) T B v n xs r W0 w hb hlen hT hr0 hr1 hx hn
open Go.RowKit in
theorem Tryz.strconv_appendEscapedRune_u4 (T : Lib.PrintTabs) (B : Nat) (v : Value) (n : Nat) (xs : List Value) (r : Int) (W0 w : World) (hb : Lib.OwnBuf B 5 v n xs W0 w) (hlen : n + 10 ≤ 140737488355328) (hT : Lib.PrintTabsAt 19 20 21 22 T w) (hr0 : 0 ≤ r) (hr1 : r ≤ 2147483647) (h80 : 128 ≤ r) (hlt : r < 65536) (hv : Lib.validRune r = true) (hp : Lib.isPrintR T r = false) :
    Calls Tryz.prog 192 #[v, .int .i32 r, .int .u8 34, .bool false, .bool false] w fun e w' => ∃ v', e = .returned v' ∧ Lib.OwnBuf B 5 v' (n + (Lib.escRune T r).length) (xs ++ Lib.intCells (Lib.escRune T r)) W0 w' := Any.strconv_appendEscapedRune_u4 Tryz.lays323 (by kernel_rfl) T B v n xs r W0 w hb hlen hT hr0 hr1 h80 hlt hv hp
open Go.RowKit in
theorem Tryz.strconv_appendEscapedRune_u8 (T : Lib.PrintTabs) (B : Nat) (v : Value) (n : Nat) (xs : List Value) (r : Int) (W0 w : World) (hb : Lib.OwnBuf B 5 v n xs W0 w) (hlen : n + 10 ≤ 140737488355328) (hT : Lib.PrintTabsAt 19 20 21 22 T w) (hr0 : 0 ≤ r) (hr1 : r ≤ 2147483647) (h80 : 65536 ≤ r) (hv : Lib.validRune r = true) (hp : Lib.isPrintR T r = false) :
    Calls Tryz.prog 192 #[v, .int .i32 r, .int .u8 34, .bool false, .bool false] w fun e w' => ∃ v', e = .returned v' ∧ Lib.OwnBuf B 5 v' (n + (Lib.escRune T r).length) (xs ++ Lib.intCells (Lib.escRune T r)) W0 w' := Any.strconv_appendEscapedRune_u8 Tryz.lays323 (by kernel_rfl) T B v n xs r W0 w hb hlen hT hr0 hr1 h80 hv hp
open Go.RowKit in
theorem Tryz.strconv_appendEscapedRune (T : Lib.PrintTabs) (B : Nat) (v : Value) (n : Nat) (xs : List Value) (r : Int) (W0 w : World) (hb : Lib.OwnBuf B 5 v n xs W0 w) (hlen : n + 10 ≤ 140737488355328) (hT : Lib.PrintTabsAt 19 20 21 22 T w) (hv : Lib.validRune r = true) :
    Calls Tryz.prog 192 #[v, .int .i32 r, .int .u8 34, .bool false, .bool false] w fun e w' => ∃ v', e = .returned v' ∧ Lib.OwnBuf B 5 v' (n + (Lib.escRune T r).length) (xs ++ Lib.intCells (Lib.escRune T r)) W0 w' := Any.strconv_appendEscapedRune Tryz.lays323 (by kernel_rfl) T B v n xs r W0 w hb hlen hT hv
def Tryz.lays289_ren : Go.Shelf.Ren := ⟨fun | 289 => 190 | 197 => 191 | 323 => 192 | 260 => 193 | 339 => 194 | 340 => 195 | 242 => 196 | 119 => 197 | 345 => 198 | 346 => 199 | 278 => 200 | n => n, fun | 37 => 81 | 9 => 9 | 5 => 5 | 4 => 4 | 3 => 3 | 21 => 21 | 105 => 150 | 46 => 87 | 119 => 165 | 0 => 0 | 139 => 168 | 138 => 167 | 49 => 266 | 234 => 267 | 131 => 156 | 51 => 186 | 236 => 269 | n => n, fun | 3 => 3 | 4 => 4 | 20 => 19 | 21 => 20 | 22 => 21 | 23 => 22 | 24 => 23 | n => n⟩
theorem Tryz.lays289 : Go.Proofs.Lays.n289 Tryz.prog Tryz.lays289_ren := {
  mixed := by kernel_rfl
  f119 := Tryz.func197.trans (congrArg some (by kernel_rfl))
  f197 := Tryz.func191.trans (congrArg some (by kernel_rfl))
  f242 := Tryz.func196.trans (congrArg some (by kernel_rfl))
  f260 := Tryz.func193.trans (congrArg some (by kernel_rfl))
  f278 := Tryz.func200.trans (congrArg some (by kernel_rfl))
  f289 := Tryz.func190.trans (congrArg some (by kernel_rfl))
  f323 := Tryz.func192.trans (congrArg some (by kernel_rfl))
  f339 := Tryz.func194.trans (congrArg some (by kernel_rfl))
  f340 := Tryz.func195.trans (congrArg some (by kernel_rfl))
  f345 := Tryz.func198.trans (congrArg some (by kernel_rfl))
  f346 := Tryz.func199.trans (congrArg some (by kernel_rfl))
  t0 := Tryz.underlying0
  a0 := Tryz.isAgg0
  z0 := Tryz.sizeOf0
  v0 := Tryz.zeroValue0
  t3 := Tryz.underlying3
  a3 := Tryz.isAgg3
  z3 := Tryz.sizeOf3
  v3 := Tryz.zeroValue3
  t4 := Tryz.underlying4
  a4 := Tryz.isAgg4
  z4 := Tryz.sizeOf4
  v4 := Tryz.zeroValue4
  t5 := Tryz.underlying5
  a5 := Tryz.isAgg5
  z5 := Tryz.sizeOf5
  v5 := Tryz.zeroValue5
  t9 := Tryz.underlying9
  a9 := Tryz.isAgg9
  z9 := Tryz.sizeOf9
  v9 := Tryz.zeroValue9
  t21 := Tryz.underlying21
  a21 := Tryz.isAgg21
  z21 := Tryz.sizeOf21
  v21 := Tryz.zeroValue21
  t37 := Tryz.underlying81
  a37 := Tryz.isAgg81
  z37 := Tryz.sizeOf81
  v37 := Tryz.zeroValue81
  t46 := Tryz.underlying87
  a46 := Tryz.isAgg87
  z46 := Tryz.sizeOf87
  v46 := Tryz.zeroValue87
  t49 := Tryz.underlying266
  a49 := Tryz.isAgg266
  z49 := Tryz.sizeOf266
  v49 := Tryz.zeroValue266
  t51 := Tryz.underlying186
  a51 := Tryz.isAgg186
  z51 := Tryz.sizeOf186
  v51 := Tryz.zeroValue186
  t105 := Tryz.underlying150
  a105 := Tryz.isAgg150
  z105 := Tryz.sizeOf150
  v105 := Tryz.zeroValue150
  t119 := Tryz.underlying165
  a119 := Tryz.isAgg165
  z119 := Tryz.sizeOf165
  t131 := Tryz.underlying156
  a131 := Tryz.isAgg156
  z131 := Tryz.sizeOf156
  v131 := Tryz.zeroValue156
  t138 := Tryz.underlying167
  a138 := Tryz.isAgg167
  z138 := Tryz.sizeOf167
  v138 := Tryz.zeroValue167
  t139 := Tryz.underlying168
  a139 := Tryz.isAgg168
  z139 := Tryz.sizeOf168
  v139 := Tryz.zeroValue168
  t234 := Tryz.underlying267
  a234 := Tryz.isAgg267
  z234 := Tryz.sizeOf267
  v234 := Tryz.zeroValue267
  t236 := Tryz.underlying269
  a236 := Tryz.isAgg269
  z236 := Tryz.sizeOf269
  v236 := Tryz.zeroValue269
  g3 := by kernel_rfl
  g4 := by kernel_rfl
  g20 := by kernel_rfl
  g21 := by kernel_rfl
  g22 := by kernel_rfl
  g23 := by kernel_rfl
  g24 := by kernel_rfl }
open Go.RowKit in
theorem Tryz.strconv_appendQuotedWith (T : Lib.PrintTabs) (a : Option Addr) (n c : Nat) (xs : List Value) (s : ByteArray) (W0 w : World) (hb : Lib.OwnBuf W0.heap.size 5 (.slice a n c) n xs W0 w) (hroom : n + s.size ≤ c) (hc : c ≤ 9223372036854775807) (hlen : n + 10 * s.size + 12 ≤ 140737488355328) (hT : Lib.PrintTabsAt 19 20 21 22 T W0) (hU : Lib.Utf8Tabs 3 4 W0) :
    Calls Tryz.prog 190 #[.slice a n c, .string s, .int .u8 34, .bool false, .bool false] w fun e w' => ∃ v', e = .returned v' ∧ Lib.OwnBuf W0.heap.size 5 v' (n + (Lib.quoteZ T s).length) (xs ++ Lib.intCells (Lib.quoteZ T s)) W0 w' := Any.strconv_appendQuotedWith Tryz.lays289 (by kernel_rfl) T a n c xs s W0 w hb hroom hc hlen hT hU
def Tryz.lays250_ren : Go.Shelf.Ren := ⟨fun | 250 => 189 | 289 => 190 | 197 => 191 | 323 => 192 | 260 => 193 | 339 => 194 | 340 => 195 | 242 => 196 | 119 => 197 | 345 => 198 | 346 => 199 | 278 => 200 | n => n, fun | 9 => 9 | 5 => 5 | 4 => 4 | 3 => 3 | 37 => 81 | 21 => 21 | 105 => 150 | 46 => 87 | 119 => 165 | 0 => 0 | 139 => 168 | 138 => 167 | 49 => 266 | 234 => 267 | 131 => 156 | 51 => 186 | 236 => 269 | n => n, fun | 3 => 3 | 4 => 4 | 20 => 19 | 21 => 20 | 22 => 21 | 23 => 22 | 24 => 23 | n => n⟩
theorem Tryz.lays250 : Go.Proofs.Lays.n250 Tryz.prog Tryz.lays250_ren := {
  mixed := by kernel_rfl
  f119 := Tryz.func197.trans (congrArg some (by kernel_rfl))
  f197 := Tryz.func191.trans (congrArg some (by kernel_rfl))
  f242 := Tryz.func196.trans (congrArg some (by kernel_rfl))
  f250 := Tryz.func189.trans (congrArg some (by kernel_rfl))
  f260 := Tryz.func193.trans (congrArg some (by kernel_rfl))
  f278 := Tryz.func200.trans (congrArg some (by kernel_rfl))
  f289 := Tryz.func190.trans (congrArg some (by kernel_rfl))
  f323 := Tryz.func192.trans (congrArg some (by kernel_rfl))
  f339 := Tryz.func194.trans (congrArg some (by kernel_rfl))
  f340 := Tryz.func195.trans (congrArg some (by kernel_rfl))
  f345 := Tryz.func198.trans (congrArg some (by kernel_rfl))
  f346 := Tryz.func199.trans (congrArg some (by kernel_rfl))
  t0 := Tryz.underlying0
  a0 := Tryz.isAgg0
  z0 := Tryz.sizeOf0
  v0 := Tryz.zeroValue0
  t3 := Tryz.underlying3
  a3 := Tryz.isAgg3
  z3 := Tryz.sizeOf3
  v3 := Tryz.zeroValue3
  t4 := Tryz.underlying4
  a4 := Tryz.isAgg4
  z4 := Tryz.sizeOf4
  v4 := Tryz.zeroValue4
  t5 := Tryz.underlying5
  a5 := Tryz.isAgg5
  z5 := Tryz.sizeOf5
  v5 := Tryz.zeroValue5
  t9 := Tryz.underlying9
  a9 := Tryz.isAgg9
  z9 := Tryz.sizeOf9
  v9 := Tryz.zeroValue9
  t21 := Tryz.underlying21
  a21 := Tryz.isAgg21
  z21 := Tryz.sizeOf21
  v21 := Tryz.zeroValue21
  t37 := Tryz.underlying81
  a37 := Tryz.isAgg81
  z37 := Tryz.sizeOf81
  v37 := Tryz.zeroValue81
  t46 := Tryz.underlying87
  a46 := Tryz.isAgg87
  z46 := Tryz.sizeOf87
  v46 := Tryz.zeroValue87
  t49 := Tryz.underlying266
  a49 := Tryz.isAgg266
  z49 := Tryz.sizeOf266
  v49 := Tryz.zeroValue266
  t51 := Tryz.underlying186
  a51 := Tryz.isAgg186
  z51 := Tryz.sizeOf186
  v51 := Tryz.zeroValue186
  t105 := Tryz.underlying150
  a105 := Tryz.isAgg150
  z105 := Tryz.sizeOf150
  v105 := Tryz.zeroValue150
  t119 := Tryz.underlying165
  a119 := Tryz.isAgg165
  z119 := Tryz.sizeOf165
  t131 := Tryz.underlying156
  a131 := Tryz.isAgg156
  z131 := Tryz.sizeOf156
  v131 := Tryz.zeroValue156
  t138 := Tryz.underlying167
  a138 := Tryz.isAgg167
  z138 := Tryz.sizeOf167
  v138 := Tryz.zeroValue167
  t139 := Tryz.underlying168
  a139 := Tryz.isAgg168
  z139 := Tryz.sizeOf168
  v139 := Tryz.zeroValue168
  t234 := Tryz.underlying267
  a234 := Tryz.isAgg267
  z234 := Tryz.sizeOf267
  v234 := Tryz.zeroValue267
  t236 := Tryz.underlying269
  a236 := Tryz.isAgg269
  z236 := Tryz.sizeOf269
  v236 := Tryz.zeroValue269
  g3 := by kernel_rfl
  g4 := by kernel_rfl
  g20 := by kernel_rfl
  g21 := by kernel_rfl
  g22 := by kernel_rfl
  g23 := by kernel_rfl
  g24 := by kernel_rfl }
open Go.RowKit in
theorem Tryz.strconv_quoteWith (T : Lib.PrintTabs) (s : ByteArray) (w : World) (hlen : 10 * s.size + 12 ≤ 140737488355328) (hT : Lib.PrintTabsAt 19 20 21 22 T w) (hU : Lib.Utf8Tabs 3 4 w) :
    Calls Tryz.prog 189 #[.string s, .int .u8 34, .bool false, .bool false] w fun e w' => e = .returned (.string (strOfNums (Lib.quoteZ T s))) ∧ Below w.heap.size w w' := Any.strconv_quoteWith Tryz.lays250 (by kernel_rfl) T s w hlen hT hU
def Tryz.lays177_ren : Go.Shelf.Ren := ⟨fun | 177 => 188 | 250 => 189 | 289 => 190 | 197 => 191 | 323 => 192 | 260 => 193 | 339 => 194 | 340 => 195 | 242 => 196 | 119 => 197 | 345 => 198 | 346 => 199 | 278 => 200 | n => n, fun | 9 => 9 | 5 => 5 | 4 => 4 | 3 => 3 | 37 => 81 | 21 => 21 | 105 => 150 | 46 => 87 | 119 => 165 | 0 => 0 | 139 => 168 | 138 => 167 | 49 => 266 | 234 => 267 | 131 => 156 | 51 => 186 | 236 => 269 | n => n, fun | 3 => 3 | 4 => 4 | 20 => 19 | 21 => 20 | 22 => 21 | 23 => 22 | 24 => 23 | n => n⟩
theorem Tryz.lays177 : Go.Proofs.Lays.n177 Tryz.prog Tryz.lays177_ren := {
  mixed := by kernel_rfl
  f119 := Tryz.func197.trans (congrArg some (by kernel_rfl))
  f177 := Tryz.func188.trans (congrArg some (by kernel_rfl))
  f197 := Tryz.func191.trans (congrArg some (by kernel_rfl))
  f242 := Tryz.func196.trans (congrArg some (by kernel_rfl))
  f250 := Tryz.func189.trans (congrArg some (by kernel_rfl))
  f260 := Tryz.func193.trans (congrArg some (by kernel_rfl))
  f278 := Tryz.func200.trans (congrArg some (by kernel_rfl))
  f289 := Tryz.func190.trans (congrArg some (by kernel_rfl))
  f323 := Tryz.func192.trans (congrArg some (by kernel_rfl))
  f339 := Tryz.func194.trans (congrArg some (by kernel_rfl))
  f340 := Tryz.func195.trans (congrArg some (by kernel_rfl))
  f345 := Tryz.func198.trans (congrArg some (by kernel_rfl))
  f346 := Tryz.func199.trans (congrArg some (by kernel_rfl))
  t0 := Tryz.underlying0
  a0 := Tryz.isAgg0
  z0 := Tryz.sizeOf0
  v0 := Tryz.zeroValue0
  t3 := Tryz.underlying3
  a3 := Tryz.isAgg3
  z3 := Tryz.sizeOf3
  v3 := Tryz.zeroValue3
  t4 := Tryz.underlying4
  a4 := Tryz.isAgg4
  z4 := Tryz.sizeOf4
  v4 := Tryz.zeroValue4
  t5 := Tryz.underlying5
  a5 := Tryz.isAgg5
  z5 := Tryz.sizeOf5
  v5 := Tryz.zeroValue5
  t9 := Tryz.underlying9
  a9 := Tryz.isAgg9
  z9 := Tryz.sizeOf9
  v9 := Tryz.zeroValue9
  t21 := Tryz.underlying21
  a21 := Tryz.isAgg21
  z21 := Tryz.sizeOf21
  v21 := Tryz.zeroValue21
  t37 := Tryz.underlying81
  a37 := Tryz.isAgg81
  z37 := Tryz.sizeOf81
  v37 := Tryz.zeroValue81
  t46 := Tryz.underlying87
  a46 := Tryz.isAgg87
  z46 := Tryz.sizeOf87
  v46 := Tryz.zeroValue87
  t49 := Tryz.underlying266
  a49 := Tryz.isAgg266
  z49 := Tryz.sizeOf266
  v49 := Tryz.zeroValue266
  t51 := Tryz.underlying186
  a51 := Tryz.isAgg186
  z51 := Tryz.sizeOf186
  v51 := Tryz.zeroValue186
  t105 := Tryz.underlying150
  a105 := Tryz.isAgg150
  z105 := Tryz.sizeOf150
  v105 := Tryz.zeroValue150
  t119 := Tryz.underlying165
  a119 := Tryz.isAgg165
  z119 := Tryz.sizeOf165
  t131 := Tryz.underlying156
  a131 := Tryz.isAgg156
  z131 := Tryz.sizeOf156
  v131 := Tryz.zeroValue156
  t138 := Tryz.underlying167
  a138 := Tryz.isAgg167
  z138 := Tryz.sizeOf167
  v138 := Tryz.zeroValue167
  t139 := Tryz.underlying168
  a139 := Tryz.isAgg168
  z139 := Tryz.sizeOf168
  v139 := Tryz.zeroValue168
  t234 := Tryz.underlying267
  a234 := Tryz.isAgg267
  z234 := Tryz.sizeOf267
  v234 := Tryz.zeroValue267
  t236 := Tryz.underlying269
  a236 := Tryz.isAgg269
  z236 := Tryz.sizeOf269
  v236 := Tryz.zeroValue269
  g3 := by kernel_rfl
  g4 := by kernel_rfl
  g20 := by kernel_rfl
  g21 := by kernel_rfl
  g22 := by kernel_rfl
  g23 := by kernel_rfl
  g24 := by kernel_rfl }
open Go.RowKit in
theorem Tryz.strconv_Quote (T : Lib.PrintTabs) (s : ByteArray) (w : World) (hlen : 10 * s.size + 12 ≤ 140737488355328) (hT : Lib.PrintTabsAt 19 20 21 22 T w) (hU : Lib.Utf8Tabs 3 4 w) :
    Calls Tryz.prog 188 #[.string s] w fun e w' => e = .returned (.string (strOfNums (Lib.quoteZ T s))) ∧ Below w.heap.size w w' := Any.strconv_Quote Tryz.lays177 (by kernel_rfl) T s w hlen hT hU
def Tryz.laysFn4_ren : Go.Shelf.Ren := ⟨fun | 4 => 187 | 5 => 188 | 6 => 189 | 7 => 190 | 8 => 191 | 9 => 192 | 10 => 193 | 11 => 194 | 12 => 195 | 13 => 196 | 14 => 197 | 15 => 198 | 16 => 199 | 17 => 200 | n => n, fun | 22 => 161 | 9 => 9 | 0 => 0 | 28 => 176 | 26 => 44 | 5 => 5 | 4 => 4 | 3 => 3 | 31 => 81 | 21 => 21 | 33 => 150 | 35 => 87 | 39 => 165 | 42 => 168 | 41 => 167 | 43 => 266 | 44 => 267 | 45 => 156 | 47 => 186 | 48 => 269 | 23 => 134 | n => n, fun | 0 => 3 | 1 => 4 | 2 => 19 | 3 => 20 | 4 => 21 | 5 => 22 | 6 => 23 | n => n⟩
theorem Tryz.laysFn4 : Go.Proofs.LaysFn.n4 Tryz.prog Tryz.laysFn4_ren := {
  mixed := by kernel_rfl
  f4 := Tryz.func187.trans (congrArg some (by kernel_rfl))
  f5 := Tryz.func188.trans (congrArg some (by kernel_rfl))
  f6 := Tryz.func189.trans (congrArg some (by kernel_rfl))
  f7 := Tryz.func190.trans (congrArg some (by kernel_rfl))
  f8 := Tryz.func191.trans (congrArg some (by kernel_rfl))
  f9 := Tryz.func192.trans (congrArg some (by kernel_rfl))
  f10 := Tryz.func193.trans (congrArg some (by kernel_rfl))
  f11 := Tryz.func194.trans (congrArg some (by kernel_rfl))
  f12 := Tryz.func195.trans (congrArg some (by kernel_rfl))
  f13 := Tryz.func196.trans (congrArg some (by kernel_rfl))
  f14 := Tryz.func197.trans (congrArg some (by kernel_rfl))
  f15 := Tryz.func198.trans (congrArg some (by kernel_rfl))
  f16 := Tryz.func199.trans (congrArg some (by kernel_rfl))
  f17 := Tryz.func200.trans (congrArg some (by kernel_rfl))
  t0 := Tryz.underlying0
  a0 := Tryz.isAgg0
  z0 := Tryz.sizeOf0
  v0 := Tryz.zeroValue0
  i0 := by kernel_rfl
  t3 := Tryz.underlying3
  a3 := Tryz.isAgg3
  z3 := Tryz.sizeOf3
  v3 := Tryz.zeroValue3
  i3 := by kernel_rfl
  t4 := Tryz.underlying4
  a4 := Tryz.isAgg4
  z4 := Tryz.sizeOf4
  v4 := Tryz.zeroValue4
  i4 := by kernel_rfl
  t5 := Tryz.underlying5
  a5 := Tryz.isAgg5
  z5 := Tryz.sizeOf5
  v5 := Tryz.zeroValue5
  i5 := by kernel_rfl
  t9 := Tryz.underlying9
  a9 := Tryz.isAgg9
  z9 := Tryz.sizeOf9
  v9 := Tryz.zeroValue9
  i9 := by kernel_rfl
  t21 := Tryz.underlying21
  a21 := Tryz.isAgg21
  z21 := Tryz.sizeOf21
  v21 := Tryz.zeroValue21
  i21 := by kernel_rfl
  t22 := Tryz.underlying161
  a22 := Tryz.isAgg161
  z22 := Tryz.sizeOf161
  v22 := Tryz.zeroValue161
  i22 := by kernel_rfl
  t23 := Tryz.underlying134
  a23 := Tryz.isAgg134
  z23 := Tryz.sizeOf134
  v23 := Tryz.zeroValue134
  i23 := by kernel_rfl
  t26 := Tryz.underlying44
  a26 := Tryz.isAgg44
  z26 := Tryz.sizeOf44
  v26 := Tryz.zeroValue44
  i26 := by kernel_rfl
  t28 := Tryz.underlying176
  a28 := Tryz.isAgg176
  z28 := Tryz.sizeOf176
  v28 := Tryz.zeroValue176
  i28 := by kernel_rfl
  t31 := Tryz.underlying81
  a31 := Tryz.isAgg81
  z31 := Tryz.sizeOf81
  v31 := Tryz.zeroValue81
  i31 := by kernel_rfl
  t33 := Tryz.underlying150
  a33 := Tryz.isAgg150
  z33 := Tryz.sizeOf150
  v33 := Tryz.zeroValue150
  i33 := by kernel_rfl
  t35 := Tryz.underlying87
  a35 := Tryz.isAgg87
  z35 := Tryz.sizeOf87
  v35 := Tryz.zeroValue87
  i35 := by kernel_rfl
  t39 := Tryz.underlying165
  a39 := Tryz.isAgg165
  z39 := Tryz.sizeOf165
  t41 := Tryz.underlying167
  a41 := Tryz.isAgg167
  z41 := Tryz.sizeOf167
  v41 := Tryz.zeroValue167
  i41 := by kernel_rfl
  t42 := Tryz.underlying168
  a42 := Tryz.isAgg168
  z42 := Tryz.sizeOf168
  v42 := Tryz.zeroValue168
  i42 := by kernel_rfl
  t43 := Tryz.underlying266
  a43 := Tryz.isAgg266
  z43 := Tryz.sizeOf266
  v43 := Tryz.zeroValue266
  i43 := by kernel_rfl
  t44 := Tryz.underlying267
  a44 := Tryz.isAgg267
  z44 := Tryz.sizeOf267
  v44 := Tryz.zeroValue267
  i44 := by kernel_rfl
  t45 := Tryz.underlying156
  a45 := Tryz.isAgg156
  z45 := Tryz.sizeOf156
  v45 := Tryz.zeroValue156
  i45 := by kernel_rfl
  t47 := Tryz.underlying186
  a47 := Tryz.isAgg186
  z47 := Tryz.sizeOf186
  v47 := Tryz.zeroValue186
  i47 := by kernel_rfl
  t48 := Tryz.underlying269
  a48 := Tryz.isAgg269
  z48 := Tryz.sizeOf269
  v48 := Tryz.zeroValue269
  i48 := by kernel_rfl
  g0 := by kernel_rfl
  m0 := by kernel_rfl
  g1 := by kernel_rfl
  m1 := by kernel_rfl
  g2 := by kernel_rfl
  m2 := by kernel_rfl
  g3 := by kernel_rfl
  m3 := by kernel_rfl
  g4 := by kernel_rfl
  m4 := by kernel_rfl
  g5 := by kernel_rfl
  m5 := by kernel_rfl
  g6 := by kernel_rfl
  m6 := by kernel_rfl }
open Go.RowKit Go.Sort in
theorem Tryz.NumError_Error (b o : Nat) (fn num q txt : ByteArray) (u : TypeId) (v0 : Value) (g : FuncId) (rv : Value) (w : World) (c0 : w.cell? ⟨b, o, none⟩ = some (.string fn)) (c1 : w.cell? ⟨b, o + 1, none⟩ = some (.string num)) (c2 : w.cell? ⟨b, o + 2, none⟩ = some (.iface u v0)) (hsum : fn.size + q.size + txt.size + 20 ≤ 9223372036854775807) (hQ : ∀ W, Below w.heap.size w W → Calls Tryz.prog 188 #[.string num] W fun e w' => e = .returned (.string q) ∧ Below W.heap.size W w') (hm : ∀ W, (method (Tryz.prog.types.size + 100) u v0 "Error").run Tryz.prog W = .ok (g, rv) W) (eg : ∀ args W, (callFunc g args).run Tryz.prog W = .ok (.enter g args) W) (hE : ∀ W, Below w.heap.size w W → Calls Tryz.prog g #[rv] W fun e w' => e = .returned (.string txt) ∧ Below W.heap.size W w') :
    Calls Tryz.prog 187 #[.pointer (some ⟨b, o, none⟩)] w fun e w' => e = .returned (.string ("strconv.".toUTF8 ++ fn ++ ": ".toUTF8 ++ "parsing ".toUTF8 ++ q ++ ": ".toUTF8 ++ txt)) ∧ Below w.heap.size w w' := Any.NumError_Error Tryz.laysFn4 b o fn num q txt u v0 g rv w c0 c1 c2 hsum hQ hm eg hE
def Tryz.lays129_ren : Go.Shelf.Ren := ⟨fun | 129 => 133 | n => n, fun | 53 => 76 | 3 => 3 | 4 => 4 | 46 => 87 | 5 => 5 | 9 => 9 | n => n, fun | n => n⟩
theorem Tryz.lays129 : Go.Proofs.Lays.n129 Tryz.prog Tryz.lays129_ren := {
  mixed := by kernel_rfl
  f129 := Tryz.func133.trans (congrArg some (by kernel_rfl))
  t3 := Tryz.underlying3
  a3 := Tryz.isAgg3
  z3 := Tryz.sizeOf3
  v3 := Tryz.zeroValue3
  t4 := Tryz.underlying4
  a4 := Tryz.isAgg4
  z4 := Tryz.sizeOf4
  v4 := Tryz.zeroValue4
  t5 := Tryz.underlying5
  a5 := Tryz.isAgg5
  z5 := Tryz.sizeOf5
  v5 := Tryz.zeroValue5
  t9 := Tryz.underlying9
  a9 := Tryz.isAgg9
  z9 := Tryz.sizeOf9
  v9 := Tryz.zeroValue9
  t46 := Tryz.underlying87
  a46 := Tryz.isAgg87
  z46 := Tryz.sizeOf87
  v46 := Tryz.zeroValue87
  t53 := Tryz.underlying76
  a53 := Tryz.isAgg76
  z53 := Tryz.sizeOf76
  v53 := Tryz.zeroValue76 }
theorem Tryz.bits_Len64 (x : Int) (w : World) (h0 : 0 ≤ x) (h1 : x ≤ 18446744073709551615) :
    Calls Tryz.prog 133 #[.int .u64 x] w fun e w' => e = .returned (.int .i64 (Lib.bitLen x.toNat)) ∧ w' = w := Any.bits_Len64 Tryz.lays129 x w h0 h1
def Tryz.lays317_ren : Go.Shelf.Ren := ⟨fun | 317 => 155 | n => n, fun | 3 => 3 | 46 => 87 | n => n, fun | n => n⟩
theorem Tryz.lays317 : Go.Proofs.Lays.n317 Tryz.prog Tryz.lays317_ren := {
  mixed := by kernel_rfl
  f317 := Tryz.func155.trans (congrArg some (by kernel_rfl))
  t3 := Tryz.underlying3
  a3 := Tryz.isAgg3
  z3 := Tryz.sizeOf3
  v3 := Tryz.zeroValue3
  t46 := Tryz.underlying87
  a46 := Tryz.isAgg87
  z46 := Tryz.sizeOf87
  v46 := Tryz.zeroValue87 }
open Go.Lib in
theorem Tryz.internal_strconv_log10Pow2 (x : Nat) (h : x ≤ 64) (w : World) :
    Calls Tryz.prog 155 #[.int .i64 x] w fun e w' => e = .returned (.int .i64 (Lib.l10 x)) ∧ w' = w := Any.internal_strconv_log10Pow2 Tryz.lays317 x h w
def Tryz.lays318_ren : Go.Shelf.Ren := ⟨fun | 318 => 137 | n => n, fun | 3 => 3 | 4 => 4 | n => n, fun | n => n⟩
theorem Tryz.lays318 : Go.Proofs.Lays.n318 Tryz.prog Tryz.lays318_ren := {
  mixed := by kernel_rfl
  f318 := Tryz.func137.trans (congrArg some (by kernel_rfl))
  t3 := Tryz.underlying3
  a3 := Tryz.isAgg3
  z3 := Tryz.sizeOf3
  v3 := Tryz.zeroValue3
  t4 := Tryz.underlying4
  a4 := Tryz.isAgg4
  z4 := Tryz.sizeOf4
  v4 := Tryz.zeroValue4 }
open Go.Lib in
theorem Tryz.internal_strconv_bool2_int (b : Bool) (w : World) :
    Calls Tryz.prog 137 #[.bool b] w fun e w' => e = .returned (.int .i64 (if b then 1 else 0)) ∧ w' = w := Any.internal_strconv_bool2_int Tryz.lays318 b w
def Tryz.lays283_ren : Go.Shelf.Ren := ⟨fun | 283 => 149 | n => n, fun | 3 => 3 | 9 => 9 | 4 => 4 | n => n, fun | n => n⟩
theorem Tryz.lays283 : Go.Proofs.Lays.n283 Tryz.prog Tryz.lays283_ren := {
  mixed := by kernel_rfl
  f283 := Tryz.func149.trans (congrArg some (by kernel_rfl))
  t3 := Tryz.underlying3
  a3 := Tryz.isAgg3
  z3 := Tryz.sizeOf3
  v3 := Tryz.zeroValue3
  t4 := Tryz.underlying4
  a4 := Tryz.isAgg4
  z4 := Tryz.sizeOf4
  v4 := Tryz.zeroValue4
  t9 := Tryz.underlying9
  a9 := Tryz.isAgg9
  z9 := Tryz.sizeOf9
  v9 := Tryz.zeroValue9 }
open Go.Lib in
theorem Tryz.internal_strconv_small (i : Nat) (h : i < 100) (w : World) :
    Calls Tryz.prog 149 #[.int .i64 i] w fun e w' => e = .returned (.string ⟨(Lib.decDigits i).toArray⟩) ∧ w' = w := Any.internal_strconv_small Tryz.lays283 i h w
def Tryz.laysM284_ren : Go.Shelf.Ren := ⟨fun | 284 => 150 | 129 => 133 | 317 => 155 | 318 => 137 | n => n, fun | 53 => 76 | 3 => 3 | 212 => 242 | 0 => 0 | 4 => 4 | 46 => 87 | 5 => 5 | 9 => 9 | n => n, fun | 17 => 16 | n => n⟩
theorem Tryz.laysM284 : Go.Proofs.LaysM.n284 Tryz.prog Tryz.laysM284_ren := {
  mixed := by kernel_rfl
  f129 := Tryz.func133.trans (congrArg some (by kernel_rfl))
  f284 := Tryz.func150.trans (congrArg some (by kernel_rfl))
  f317 := Tryz.func155.trans (congrArg some (by kernel_rfl))
  f318 := Tryz.func137.trans (congrArg some (by kernel_rfl))
  t0 := Tryz.underlying0
  a0 := Tryz.isAgg0
  z0 := Tryz.sizeOf0
  v0 := Tryz.zeroValue0
  t3 := Tryz.underlying3
  a3 := Tryz.isAgg3
  z3 := Tryz.sizeOf3
  v3 := Tryz.zeroValue3
  t4 := Tryz.underlying4
  a4 := Tryz.isAgg4
  z4 := Tryz.sizeOf4
  v4 := Tryz.zeroValue4
  t5 := Tryz.underlying5
  a5 := Tryz.isAgg5
  z5 := Tryz.sizeOf5
  v5 := Tryz.zeroValue5
  t9 := Tryz.underlying9
  a9 := Tryz.isAgg9
  z9 := Tryz.sizeOf9
  v9 := Tryz.zeroValue9
  t46 := Tryz.underlying87
  a46 := Tryz.isAgg87
  z46 := Tryz.sizeOf87
  v46 := Tryz.zeroValue87
  t53 := Tryz.underlying76
  a53 := Tryz.isAgg76
  z53 := Tryz.sizeOf76
  v53 := Tryz.zeroValue76
  t212 := Tryz.underlying242
  a212 := Tryz.isAgg242
  z212 := Tryz.sizeOf242
  v212 := Tryz.zeroValue242
  g17 := by kernel_rfl
  i0 := by kernel_rfl
  i3 := by kernel_rfl
  i4 := by kernel_rfl
  i5 := by kernel_rfl
  i9 := by kernel_rfl
  i46 := by kernel_rfl
  i53 := by kernel_rfl
  i212 := by kernel_rfl
  m17 := by kernel_rfl }
open Go.Lib in
theorem Tryz.internal_strconv_numDigits (u : Nat) (h1 : 1 ≤ u) (h2 : u < 18446744073709551616) (w : World) (htab : Lib.TabIs Tryz.prog w "internal/strconv.uint64pow10" .u64 Lib.pow10Tab) :
    Calls Tryz.prog 150 #[.int .u64 u] w fun e w' => e = .returned (.int .i64 (Lib.nDigits u)) ∧ w' = w := Any.internal_strconv_numDigits Tryz.laysM284 u h1 h2 w htab
def Tryz.lays285_ren : Go.Shelf.Ren := ⟨fun | 285 => 151 | n => n, fun | 37 => 81 | 53 => 76 | 3 => 3 | 4 => 4 | 51 => 186 | 9 => 9 | 5 => 5 | 0 => 0 | n => n, fun | n => n⟩
theorem Tryz.lays285 : Go.Proofs.Lays.n285 Tryz.prog Tryz.lays285_ren := {
  mixed := by kernel_rfl
  f285 := Tryz.func151.trans (congrArg some (by kernel_rfl))
  t0 := Tryz.underlying0
  a0 := Tryz.isAgg0
  z0 := Tryz.sizeOf0
  v0 := Tryz.zeroValue0
  t3 := Tryz.underlying3
  a3 := Tryz.isAgg3
  z3 := Tryz.sizeOf3
  v3 := Tryz.zeroValue3
  t4 := Tryz.underlying4
  a4 := Tryz.isAgg4
  z4 := Tryz.sizeOf4
  v4 := Tryz.zeroValue4
  t5 := Tryz.underlying5
  a5 := Tryz.isAgg5
  z5 := Tryz.sizeOf5
  v5 := Tryz.zeroValue5
  t9 := Tryz.underlying9
  a9 := Tryz.isAgg9
  z9 := Tryz.sizeOf9
  v9 := Tryz.zeroValue9
  t37 := Tryz.underlying81
  a37 := Tryz.isAgg81
  z37 := Tryz.sizeOf81
  v37 := Tryz.zeroValue81
  t51 := Tryz.underlying186
  a51 := Tryz.isAgg186
  z51 := Tryz.sizeOf186
  v51 := Tryz.zeroValue186
  t53 := Tryz.underlying76
  a53 := Tryz.isAgg76
  z53 := Tryz.sizeOf76
  v53 := Tryz.zeroValue76 }
open Go.RowKit Go.Sort Go.Lib in
theorem Tryz.internal_strconv_formatBase10 (blk off cap : Nat) (u : Nat) (d : Array UInt8) (w : World) (hH : Holds (fun (b : UInt8) => Value.int .u8 (b.toNat : Int)) w blk off d) (hu : u < 10 ^ d.size) (hu64 : u < 18446744073709551616) (hsz : d.size < 4611686018427387904) :
    Calls Tryz.prog 151 #[.slice (some ⟨blk, off, none⟩) d.size cap, .int .u64 u] w fun e w' =>
      e = .returned (.tuple #[]) ∧ ∃ (n v' : Nat) (dk : Array UInt8), w' = (putRow (fun (b : UInt8) => Value.int .u8 (b.toNat : Int)) w blk off dk).drewN n ∧ FmtInv d.size u 0 v' dk := Any.internal_strconv_formatBase10 Tryz.lays285 blk off cap u d w hH hu hu64 hsz
def Tryz.laysM246_ren : Go.Shelf.Ren := ⟨fun | 246 => 144 | 283 => 149 | 284 => 150 | 285 => 151 | 286 => 152 | 129 => 133 | 317 => 155 | 318 => 137 | 319 => 156 | 320 => 157 | 337 => 158 | 338 => 159 | n => n, fun | 2 => 2 | 3 => 3 | 9 => 9 | 4 => 4 | 171 => 233 | 0 => 0 | 53 => 76 | 37 => 81 | 5 => 5 | 173 => 235 | 212 => 242 | 51 => 186 | 20 => 20 | 213 => 243 | 46 => 87 | 232 => 246 | 233 => 247 | n => n, fun | 17 => 16 | 18 => 17 | 19 => 18 | n => n⟩
theorem Tryz.laysM246 : Go.Proofs.LaysM.n246 Tryz.prog Tryz.laysM246_ren := {
  mixed := by kernel_rfl
  f129 := Tryz.func133.trans (congrArg some (by kernel_rfl))
  f246 := Tryz.func144.trans (congrArg some (by kernel_rfl))
  f283 := Tryz.func149.trans (congrArg some (by kernel_rfl))
  f284 := Tryz.func150.trans (congrArg some (by kernel_rfl))
  f285 := Tryz.func151.trans (congrArg some (by kernel_rfl))
  f286 := Tryz.func152.trans (congrArg some (by kernel_rfl))
  f317 := Tryz.func155.trans (congrArg some (by kernel_rfl))
  f318 := Tryz.func137.trans (congrArg some (by kernel_rfl))
  f319 := Tryz.func156.trans (congrArg some (by kernel_rfl))
  f320 := Tryz.func157.trans (congrArg some (by kernel_rfl))
  f337 := Tryz.func158.trans (congrArg some (by kernel_rfl))
  f338 := Tryz.func159.trans (congrArg some (by kernel_rfl))
  t0 := Tryz.underlying0
  a0 := Tryz.isAgg0
  z0 := Tryz.sizeOf0
  v0 := Tryz.zeroValue0
  t2 := Tryz.underlying2
  a2 := Tryz.isAgg2
  z2 := Tryz.sizeOf2
  v2 := Tryz.zeroValue2
  t3 := Tryz.underlying3
  a3 := Tryz.isAgg3
  z3 := Tryz.sizeOf3
  v3 := Tryz.zeroValue3
  t4 := Tryz.underlying4
  a4 := Tryz.isAgg4
  z4 := Tryz.sizeOf4
  v4 := Tryz.zeroValue4
  t5 := Tryz.underlying5
  a5 := Tryz.isAgg5
  z5 := Tryz.sizeOf5
  v5 := Tryz.zeroValue5
  t9 := Tryz.underlying9
  a9 := Tryz.isAgg9
  z9 := Tryz.sizeOf9
  v9 := Tryz.zeroValue9
  t20 := Tryz.underlying20
  a20 := Tryz.isAgg20
  z20 := Tryz.sizeOf20
  v20 := Tryz.zeroValue20
  t37 := Tryz.underlying81
  a37 := Tryz.isAgg81
  z37 := Tryz.sizeOf81
  v37 := Tryz.zeroValue81
  t46 := Tryz.underlying87
  a46 := Tryz.isAgg87
  z46 := Tryz.sizeOf87
  v46 := Tryz.zeroValue87
  t51 := Tryz.underlying186
  a51 := Tryz.isAgg186
  z51 := Tryz.sizeOf186
  v51 := Tryz.zeroValue186
  t53 := Tryz.underlying76
  a53 := Tryz.isAgg76
  z53 := Tryz.sizeOf76
  v53 := Tryz.zeroValue76
  t171 := Tryz.underlying233
  a171 := Tryz.isAgg233
  z171 := Tryz.sizeOf233
  v171 := Tryz.zeroValue233
  t173 := Tryz.underlying235
  a173 := Tryz.isAgg235
  z173 := Tryz.sizeOf235
  v173 := Tryz.zeroValue235
  t212 := Tryz.underlying242
  a212 := Tryz.isAgg242
  z212 := Tryz.sizeOf242
  v212 := Tryz.zeroValue242
  t213 := Tryz.underlying243
  a213 := Tryz.isAgg243
  z213 := Tryz.sizeOf243
  t232 := Tryz.underlying246
  a232 := Tryz.isAgg246
  z232 := Tryz.sizeOf246
  v232 := Tryz.zeroValue246
  t233 := Tryz.underlying247
  a233 := Tryz.isAgg247
  z233 := Tryz.sizeOf247
  v233 := Tryz.zeroValue247
  g17 := by kernel_rfl
  g18 := by kernel_rfl
  g19 := by kernel_rfl
  i0 := by kernel_rfl
  i2 := by kernel_rfl
  i3 := by kernel_rfl
  i4 := by kernel_rfl
  i5 := by kernel_rfl
  i9 := by kernel_rfl
  i20 := by kernel_rfl
  i37 := by kernel_rfl
  i46 := by kernel_rfl
  i51 := by kernel_rfl
  i53 := by kernel_rfl
  i171 := by kernel_rfl
  i173 := by kernel_rfl
  i212 := by kernel_rfl
  i232 := by kernel_rfl
  i233 := by kernel_rfl
  m17 := by kernel_rfl
  m18 := by kernel_rfl
  m19 := by kernel_rfl }
open Go.RowKit Go.Sort Go.Lib in
theorem Tryz.internal_strconv_FormatInt_10 (n : Int) (h0 : -9223372036854775808 ≤ n) (h1 : n ≤ 9223372036854775807) (w : World) (htab : Lib.TabIs Tryz.prog w "internal/strconv.uint64pow10" .u64 Lib.pow10Tab) :
    Calls Tryz.prog 144 #[.int .i64 n, .int .i64 10] w fun e w' => e = .returned (.string ⟨(Lib.itoa n).toArray⟩) ∧ ∃ k os, w' = grow (w.drewN k) os := Any.internal_strconv_FormatInt_10 Tryz.laysM246 n h0 h1 w htab
def Tryz.lays246_ren : Go.Shelf.Ren := ⟨fun | 246 => 144 | 283 => 149 | 284 => 150 | 285 => 151 | 286 => 152 | 129 => 133 | 317 => 155 | 318 => 137 | 319 => 156 | 320 => 157 | 337 => 158 | 338 => 159 | n => n, fun | 2 => 2 | 3 => 3 | 9 => 9 | 4 => 4 | 171 => 233 | 0 => 0 | 53 => 76 | 37 => 81 | 5 => 5 | 173 => 235 | 212 => 242 | 51 => 186 | 20 => 20 | 213 => 243 | 46 => 87 | 232 => 246 | 233 => 247 | n => n, fun | 17 => 16 | 18 => 17 | 19 => 18 | n => n⟩
theorem Tryz.lays246 : Go.Proofs.Lays.n246 Tryz.prog Tryz.lays246_ren := {
  mixed := by kernel_rfl
  f129 := Tryz.func133.trans (congrArg some (by kernel_rfl))
  f246 := Tryz.func144.trans (congrArg some (by kernel_rfl))
  f283 := Tryz.func149.trans (congrArg some (by kernel_rfl))
  f284 := Tryz.func150.trans (congrArg some (by kernel_rfl))
  f285 := Tryz.func151.trans (congrArg some (by kernel_rfl))
  f286 := Tryz.func152.trans (congrArg some (by kernel_rfl))
  f317 := Tryz.func155.trans (congrArg some (by kernel_rfl))
  f318 := Tryz.func137.trans (congrArg some (by kernel_rfl))
  f319 := Tryz.func156.trans (congrArg some (by kernel_rfl))
  f320 := Tryz.func157.trans (congrArg some (by kernel_rfl))
  f337 := Tryz.func158.trans (congrArg some (by kernel_rfl))
  f338 := Tryz.func159.trans (congrArg some (by kernel_rfl))
  t0 := Tryz.underlying0
  a0 := Tryz.isAgg0
  z0 := Tryz.sizeOf0
  v0 := Tryz.zeroValue0
  t2 := Tryz.underlying2
  a2 := Tryz.isAgg2
  z2 := Tryz.sizeOf2
  v2 := Tryz.zeroValue2
  t3 := Tryz.underlying3
  a3 := Tryz.isAgg3
  z3 := Tryz.sizeOf3
  v3 := Tryz.zeroValue3
  t4 := Tryz.underlying4
  a4 := Tryz.isAgg4
  z4 := Tryz.sizeOf4
  v4 := Tryz.zeroValue4
  t5 := Tryz.underlying5
  a5 := Tryz.isAgg5
  z5 := Tryz.sizeOf5
  v5 := Tryz.zeroValue5
  t9 := Tryz.underlying9
  a9 := Tryz.isAgg9
  z9 := Tryz.sizeOf9
  v9 := Tryz.zeroValue9
  t20 := Tryz.underlying20
  a20 := Tryz.isAgg20
  z20 := Tryz.sizeOf20
  v20 := Tryz.zeroValue20
  t37 := Tryz.underlying81
  a37 := Tryz.isAgg81
  z37 := Tryz.sizeOf81
  v37 := Tryz.zeroValue81
  t46 := Tryz.underlying87
  a46 := Tryz.isAgg87
  z46 := Tryz.sizeOf87
  v46 := Tryz.zeroValue87
  t51 := Tryz.underlying186
  a51 := Tryz.isAgg186
  z51 := Tryz.sizeOf186
  v51 := Tryz.zeroValue186
  t53 := Tryz.underlying76
  a53 := Tryz.isAgg76
  z53 := Tryz.sizeOf76
  v53 := Tryz.zeroValue76
  t171 := Tryz.underlying233
  a171 := Tryz.isAgg233
  z171 := Tryz.sizeOf233
  v171 := Tryz.zeroValue233
  t173 := Tryz.underlying235
  a173 := Tryz.isAgg235
  z173 := Tryz.sizeOf235
  v173 := Tryz.zeroValue235
  t212 := Tryz.underlying242
  a212 := Tryz.isAgg242
  z212 := Tryz.sizeOf242
  v212 := Tryz.zeroValue242
  t213 := Tryz.underlying243
  a213 := Tryz.isAgg243
  z213 := Tryz.sizeOf243
  t232 := Tryz.underlying246
  a232 := Tryz.isAgg246
  z232 := Tryz.sizeOf246
  v232 := Tryz.zeroValue246
  t233 := Tryz.underlying247
  a233 := Tryz.isAgg247
  z233 := Tryz.sizeOf247
  v233 := Tryz.zeroValue247
  g17 := by kernel_rfl
  g18 := by kernel_rfl
  g19 := by kernel_rfl }
open Go.RowKit Go.Sort Go.Lib in
theorem Tryz.internal_strconv_FormatInt_10_small (i : Nat) (hi : i < 100) (w : World) :
    Calls Tryz.prog 144 #[.int .i64 i, .int .i64 10] w fun e w' => e = .returned (.string ⟨(Lib.decDigits i).toArray⟩) ∧ w' = w := Any.internal_strconv_FormatInt_10_small Tryz.lays246 i hi w
def Tryz.laysM243_ren : Go.Shelf.Ren := ⟨fun | 243 => 127 | 246 => 144 | 283 => 149 | 284 => 150 | 285 => 151 | 286 => 152 | 129 => 133 | 317 => 155 | 318 => 137 | 319 => 156 | 320 => 157 | 337 => 158 | 338 => 159 | n => n, fun | 3 => 3 | 9 => 9 | 2 => 2 | 4 => 4 | 171 => 233 | 0 => 0 | 53 => 76 | 37 => 81 | 5 => 5 | 173 => 235 | 212 => 242 | 51 => 186 | 20 => 20 | 213 => 243 | 46 => 87 | 232 => 246 | 233 => 247 | n => n, fun | 17 => 16 | 18 => 17 | 19 => 18 | n => n⟩
theorem Tryz.laysM243 : Go.Proofs.LaysM.n243 Tryz.prog Tryz.laysM243_ren := {
  mixed := by kernel_rfl
  f129 := Tryz.func133.trans (congrArg some (by kernel_rfl))
  f243 := Tryz.func127.trans (congrArg some (by kernel_rfl))
  f246 := Tryz.func144.trans (congrArg some (by kernel_rfl))
  f283 := Tryz.func149.trans (congrArg some (by kernel_rfl))
  f284 := Tryz.func150.trans (congrArg some (by kernel_rfl))
  f285 := Tryz.func151.trans (congrArg some (by kernel_rfl))
  f286 := Tryz.func152.trans (congrArg some (by kernel_rfl))
  f317 := Tryz.func155.trans (congrArg some (by kernel_rfl))
  f318 := Tryz.func137.trans (congrArg some (by kernel_rfl))
  f319 := Tryz.func156.trans (congrArg some (by kernel_rfl))
  f320 := Tryz.func157.trans (congrArg some (by kernel_rfl))
  f337 := Tryz.func158.trans (congrArg some (by kernel_rfl))
  f338 := Tryz.func159.trans (congrArg some (by kernel_rfl))
  t0 := Tryz.underlying0
  a0 := Tryz.isAgg0
  z0 := Tryz.sizeOf0
  v0 := Tryz.zeroValue0
  t2 := Tryz.underlying2
  a2 := Tryz.isAgg2
  z2 := Tryz.sizeOf2
  v2 := Tryz.zeroValue2
  t3 := Tryz.underlying3
  a3 := Tryz.isAgg3
  z3 := Tryz.sizeOf3
  v3 := Tryz.zeroValue3
  t4 := Tryz.underlying4
  a4 := Tryz.isAgg4
  z4 := Tryz.sizeOf4
  v4 := Tryz.zeroValue4
  t5 := Tryz.underlying5
  a5 := Tryz.isAgg5
  z5 := Tryz.sizeOf5
  v5 := Tryz.zeroValue5
  t9 := Tryz.underlying9
  a9 := Tryz.isAgg9
  z9 := Tryz.sizeOf9
  v9 := Tryz.zeroValue9
  t20 := Tryz.underlying20
  a20 := Tryz.isAgg20
  z20 := Tryz.sizeOf20
  v20 := Tryz.zeroValue20
  t37 := Tryz.underlying81
  a37 := Tryz.isAgg81
  z37 := Tryz.sizeOf81
  v37 := Tryz.zeroValue81
  t46 := Tryz.underlying87
  a46 := Tryz.isAgg87
  z46 := Tryz.sizeOf87
  v46 := Tryz.zeroValue87
  t51 := Tryz.underlying186
  a51 := Tryz.isAgg186
  z51 := Tryz.sizeOf186
  v51 := Tryz.zeroValue186
  t53 := Tryz.underlying76
  a53 := Tryz.isAgg76
  z53 := Tryz.sizeOf76
  v53 := Tryz.zeroValue76
  t171 := Tryz.underlying233
  a171 := Tryz.isAgg233
  z171 := Tryz.sizeOf233
  v171 := Tryz.zeroValue233
  t173 := Tryz.underlying235
  a173 := Tryz.isAgg235
  z173 := Tryz.sizeOf235
  v173 := Tryz.zeroValue235
  t212 := Tryz.underlying242
  a212 := Tryz.isAgg242
  z212 := Tryz.sizeOf242
  v212 := Tryz.zeroValue242
  t213 := Tryz.underlying243
  a213 := Tryz.isAgg243
  z213 := Tryz.sizeOf243
  t232 := Tryz.underlying246
  a232 := Tryz.isAgg246
  z232 := Tryz.sizeOf246
  v232 := Tryz.zeroValue246
  t233 := Tryz.underlying247
  a233 := Tryz.isAgg247
  z233 := Tryz.sizeOf247
  v233 := Tryz.zeroValue247
  g17 := by kernel_rfl
  g18 := by kernel_rfl
  g19 := by kernel_rfl
  i0 := by kernel_rfl
  i2 := by kernel_rfl
  i3 := by kernel_rfl
  i4 := by kernel_rfl
  i5 := by kernel_rfl
  i9 := by kernel_rfl
  i20 := by kernel_rfl
  i37 := by kernel_rfl
  i46 := by kernel_rfl
  i51 := by kernel_rfl
  i53 := by kernel_rfl
  i171 := by kernel_rfl
  i173 := by kernel_rfl
  i212 := by kernel_rfl
  i232 := by kernel_rfl
  i233 := by kernel_rfl
  m17 := by kernel_rfl
  m18 := by kernel_rfl
  m19 := by kernel_rfl }
open Go.RowKit Go.Sort Go.Lib in
theorem Tryz.internal_strconv_Itoa (n : Int) (h0 : -9223372036854775808 ≤ n) (h1 : n ≤ 9223372036854775807) (w : World) (htab : Lib.TabIs Tryz.prog w "internal/strconv.uint64pow10" .u64 Lib.pow10Tab) :
    Calls Tryz.prog 127 #[.int .i64 n] w fun e w' => e = .returned (.string ⟨(Lib.itoa n).toArray⟩) ∧ ∃ k os, w' = grow (w.drewN k) os := Any.internal_strconv_Itoa Tryz.laysM243 n h0 h1 w htab
def Tryz.lays243_ren : Go.Shelf.Ren := ⟨fun | 243 => 127 | 246 => 144 | 283 => 149 | 284 => 150 | 285 => 151 | 286 => 152 | 129 => 133 | 317 => 155 | 318 => 137 | 319 => 156 | 320 => 157 | 337 => 158 | 338 => 159 | n => n, fun | 3 => 3 | 9 => 9 | 2 => 2 | 4 => 4 | 171 => 233 | 0 => 0 | 53 => 76 | 37 => 81 | 5 => 5 | 173 => 235 | 212 => 242 | 51 => 186 | 20 => 20 | 213 => 243 | 46 => 87 | 232 => 246 | 233 => 247 | n => n, fun | 17 => 16 | 18 => 17 | 19 => 18 | n => n⟩
theorem Tryz.lays243 : Go.Proofs.Lays.n243 Tryz.prog Tryz.lays243_ren := {
  mixed := by kernel_rfl
  f129 := Tryz.func133.trans (congrArg some (by kernel_rfl))
  f243 := Tryz.func127.trans (congrArg some (by kernel_rfl))
  f246 := Tryz.func144.trans (congrArg some (by kernel_rfl))
  f283 := Tryz.func149.trans (congrArg some (by kernel_rfl))
  f284 := Tryz.func150.trans (congrArg some (by kernel_rfl))
  f285 := Tryz.func151.trans (congrArg some (by kernel_rfl))
  f286 := Tryz.func152.trans (congrArg some (by kernel_rfl))
  f317 := Tryz.func155.trans (congrArg some (by kernel_rfl))
  f318 := Tryz.func137.trans (congrArg some (by kernel_rfl))
  f319 := Tryz.func156.trans (congrArg some (by kernel_rfl))
  f320 := Tryz.func157.trans (congrArg some (by kernel_rfl))
  f337 := Tryz.func158.trans (congrArg some (by kernel_rfl))
  f338 := Tryz.func159.trans (congrArg some (by kernel_rfl))
  t0 := Tryz.underlying0
  a0 := Tryz.isAgg0
  z0 := Tryz.sizeOf0
  v0 := Tryz.zeroValue0
  t2 := Tryz.underlying2
  a2 := Tryz.isAgg2
  z2 := Tryz.sizeOf2
  v2 := Tryz.zeroValue2
  t3 := Tryz.underlying3
  a3 := Tryz.isAgg3
  z3 := Tryz.sizeOf3
  v3 := Tryz.zeroValue3
  t4 := Tryz.underlying4
  a4 := Tryz.isAgg4
  z4 := Tryz.sizeOf4
  v4 := Tryz.zeroValue4
  t5 := Tryz.underlying5
  a5 := Tryz.isAgg5
  z5 := Tryz.sizeOf5
  v5 := Tryz.zeroValue5
  t9 := Tryz.underlying9
  a9 := Tryz.isAgg9
  z9 := Tryz.sizeOf9
  v9 := Tryz.zeroValue9
  t20 := Tryz.underlying20
  a20 := Tryz.isAgg20
  z20 := Tryz.sizeOf20
  v20 := Tryz.zeroValue20
  t37 := Tryz.underlying81
  a37 := Tryz.isAgg81
  z37 := Tryz.sizeOf81
  v37 := Tryz.zeroValue81
  t46 := Tryz.underlying87
  a46 := Tryz.isAgg87
  z46 := Tryz.sizeOf87
  v46 := Tryz.zeroValue87
  t51 := Tryz.underlying186
  a51 := Tryz.isAgg186
  z51 := Tryz.sizeOf186
  v51 := Tryz.zeroValue186
  t53 := Tryz.underlying76
  a53 := Tryz.isAgg76
  z53 := Tryz.sizeOf76
  v53 := Tryz.zeroValue76
  t171 := Tryz.underlying233
  a171 := Tryz.isAgg233
  z171 := Tryz.sizeOf233
  v171 := Tryz.zeroValue233
  t173 := Tryz.underlying235
  a173 := Tryz.isAgg235
  z173 := Tryz.sizeOf235
  v173 := Tryz.zeroValue235
  t212 := Tryz.underlying242
  a212 := Tryz.isAgg242
  z212 := Tryz.sizeOf242
  v212 := Tryz.zeroValue242
  t213 := Tryz.underlying243
  a213 := Tryz.isAgg243
  z213 := Tryz.sizeOf243
  t232 := Tryz.underlying246
  a232 := Tryz.isAgg246
  z232 := Tryz.sizeOf246
  v232 := Tryz.zeroValue246
  t233 := Tryz.underlying247
  a233 := Tryz.isAgg247
  z233 := Tryz.sizeOf247
  v233 := Tryz.zeroValue247
  g17 := by kernel_rfl
  g18 := by kernel_rfl
  g19 := by kernel_rfl }
open Go.RowKit Go.Sort Go.Lib in
theorem Tryz.internal_strconv_Itoa_small (i : Nat) (hi : i < 100) (w : World) :
    Calls Tryz.prog 127 #[.int .i64 i] w fun e w' => e = .returned (.string ⟨(Lib.decDigits i).toArray⟩) ∧ w' = w := Any.internal_strconv_Itoa_small Tryz.lays243 i hi w
def Tryz.laysM171_ren : Go.Shelf.Ren := ⟨fun | 171 => 111 | 243 => 127 | 246 => 144 | 283 => 149 | 284 => 150 | 285 => 151 | 286 => 152 | 129 => 133 | 317 => 155 | 318 => 137 | 319 => 156 | 320 => 157 | 337 => 158 | 338 => 159 | n => n, fun | 3 => 3 | 9 => 9 | 2 => 2 | 4 => 4 | 171 => 233 | 0 => 0 | 53 => 76 | 37 => 81 | 5 => 5 | 173 => 235 | 212 => 242 | 51 => 186 | 20 => 20 | 213 => 243 | 46 => 87 | 232 => 246 | 233 => 247 | n => n, fun | 17 => 16 | 18 => 17 | 19 => 18 | n => n⟩
theorem Tryz.laysM171 : Go.Proofs.LaysM.n171 Tryz.prog Tryz.laysM171_ren := {
  mixed := by kernel_rfl
  f129 := Tryz.func133.trans (congrArg some (by kernel_rfl))
  f171 := Tryz.func111.trans (congrArg some (by kernel_rfl))
  f243 := Tryz.func127.trans (congrArg some (by kernel_rfl))
  f246 := Tryz.func144.trans (congrArg some (by kernel_rfl))
  f283 := Tryz.func149.trans (congrArg some (by kernel_rfl))
  f284 := Tryz.func150.trans (congrArg some (by kernel_rfl))
  f285 := Tryz.func151.trans (congrArg some (by kernel_rfl))
  f286 := Tryz.func152.trans (congrArg some (by kernel_rfl))
  f317 := Tryz.func155.trans (congrArg some (by kernel_rfl))
  f318 := Tryz.func137.trans (congrArg some (by kernel_rfl))
  f319 := Tryz.func156.trans (congrArg some (by kernel_rfl))
  f320 := Tryz.func157.trans (congrArg some (by kernel_rfl))
  f337 := Tryz.func158.trans (congrArg some (by kernel_rfl))
  f338 := Tryz.func159.trans (congrArg some (by kernel_rfl))
  t0 := Tryz.underlying0
  a0 := Tryz.isAgg0
  z0 := Tryz.sizeOf0
  v0 := Tryz.zeroValue0
  t2 := Tryz.underlying2
  a2 := Tryz.isAgg2
  z2 := Tryz.sizeOf2
  v2 := Tryz.zeroValue2
  t3 := Tryz.underlying3
  a3 := Tryz.isAgg3
  z3 := Tryz.sizeOf3
  v3 := Tryz.zeroValue3
  t4 := Tryz.underlying4
  a4 := Tryz.isAgg4
  z4 := Tryz.sizeOf4
  v4 := Tryz.zeroValue4
  t5 := Tryz.underlying5
  a5 := Tryz.isAgg5
  z5 := Tryz.sizeOf5
  v5 := Tryz.zeroValue5
  t9 := Tryz.underlying9
  a9 := Tryz.isAgg9
  z9 := Tryz.sizeOf9
  v9 := Tryz.zeroValue9
  t20 := Tryz.underlying20
  a20 := Tryz.isAgg20
  z20 := Tryz.sizeOf20
  v20 := Tryz.zeroValue20
  t37 := Tryz.underlying81
  a37 := Tryz.isAgg81
  z37 := Tryz.sizeOf81
  v37 := Tryz.zeroValue81
  t46 := Tryz.underlying87
  a46 := Tryz.isAgg87
  z46 := Tryz.sizeOf87
  v46 := Tryz.zeroValue87
  t51 := Tryz.underlying186
  a51 := Tryz.isAgg186
  z51 := Tryz.sizeOf186
  v51 := Tryz.zeroValue186
  t53 := Tryz.underlying76
  a53 := Tryz.isAgg76
  z53 := Tryz.sizeOf76
  v53 := Tryz.zeroValue76
  t171 := Tryz.underlying233
  a171 := Tryz.isAgg233
  z171 := Tryz.sizeOf233
  v171 := Tryz.zeroValue233
  t173 := Tryz.underlying235
  a173 := Tryz.isAgg235
  z173 := Tryz.sizeOf235
  v173 := Tryz.zeroValue235
  t212 := Tryz.underlying242
  a212 := Tryz.isAgg242
  z212 := Tryz.sizeOf242
  v212 := Tryz.zeroValue242
  t213 := Tryz.underlying243
  a213 := Tryz.isAgg243
  z213 := Tryz.sizeOf243
  t232 := Tryz.underlying246
  a232 := Tryz.isAgg246
  z232 := Tryz.sizeOf246
  v232 := Tryz.zeroValue246
  t233 := Tryz.underlying247
  a233 := Tryz.isAgg247
  z233 := Tryz.sizeOf247
  v233 := Tryz.zeroValue247
  g17 := by kernel_rfl
  g18 := by kernel_rfl
  g19 := by kernel_rfl
  i0 := by kernel_rfl
  i2 := by kernel_rfl
  i3 := by kernel_rfl
  i4 := by kernel_rfl
  i5 := by kernel_rfl
  i9 := by kernel_rfl
  i20 := by kernel_rfl
  i37 := by kernel_rfl
  i46 := by kernel_rfl
  i51 := by kernel_rfl
  i53 := by kernel_rfl
  i171 := by kernel_rfl
  i173 := by kernel_rfl
  i212 := by kernel_rfl
  i232 := by kernel_rfl
  i233 := by kernel_rfl
  m17 := by kernel_rfl
  m18 := by kernel_rfl
  m19 := by kernel_rfl }
open Go.RowKit Go.Sort Go.Lib in
theorem Tryz.strconv_Itoa (n : Int) (h0 : -9223372036854775808 ≤ n) (h1 : n ≤ 9223372036854775807) (w : World) (htab : Lib.TabIs Tryz.prog w "internal/strconv.uint64pow10" .u64 Lib.pow10Tab) :
    Calls Tryz.prog 111 #[.int .i64 n] w fun e w' => e = .returned (.string ⟨(Lib.itoa n).toArray⟩) ∧ ∃ k os, w' = grow (w.drewN k) os := Any.strconv_Itoa Tryz.laysM171 n h0 h1 w htab
def Tryz.lays171_ren : Go.Shelf.Ren := ⟨fun | 171 => 111 | 243 => 127 | 246 => 144 | 283 => 149 | 284 => 150 | 285 => 151 | 286 => 152 | 129 => 133 | 317 => 155 | 318 => 137 | 319 => 156 | 320 => 157 | 337 => 158 | 338 => 159 | n => n, fun | 3 => 3 | 9 => 9 | 2 => 2 | 4 => 4 | 171 => 233 | 0 => 0 | 53 => 76 | 37 => 81 | 5 => 5 | 173 => 235 | 212 => 242 | 51 => 186 | 20 => 20 | 213 => 243 | 46 => 87 | 232 => 246 | 233 => 247 | n => n, fun | 17 => 16 | 18 => 17 | 19 => 18 | n => n⟩
theorem Tryz.lays171 : Go.Proofs.Lays.n171 Tryz.prog Tryz.lays171_ren := {
  mixed := by kernel_rfl
  f129 := Tryz.func133.trans (congrArg some (by kernel_rfl))
  f171 := Tryz.func111.trans (congrArg some (by kernel_rfl))
  f243 := Tryz.func127.trans (congrArg some (by kernel_rfl))
  f246 := Tryz.func144.trans (congrArg some (by kernel_rfl))
  f283 := Tryz.func149.trans (congrArg some (by kernel_rfl))
  f284 := Tryz.func150.trans (congrArg some (by kernel_rfl))
  f285 := Tryz.func151.trans (congrArg some (by kernel_rfl))
  f286 := Tryz.func152.trans (congrArg some (by kernel_rfl))
  f317 := Tryz.func155.trans (congrArg some (by kernel_rfl))
  f318 := Tryz.func137.trans (congrArg some (by kernel_rfl))
  f319 := Tryz.func156.trans (congrArg some (by kernel_rfl))
  f320 := Tryz.func157.trans (congrArg some (by kernel_rfl))
  f337 := Tryz.func158.trans (congrArg some (by kernel_rfl))
  f338 := Tryz.func159.trans (congrArg some (by kernel_rfl))
  t0 := Tryz.underlying0
  a0 := Tryz.isAgg0
  z0 := Tryz.sizeOf0
  v0 := Tryz.zeroValue0
  t2 := Tryz.underlying2
  a2 := Tryz.isAgg2
  z2 := Tryz.sizeOf2
  v2 := Tryz.zeroValue2
  t3 := Tryz.underlying3
  a3 := Tryz.isAgg3
  z3 := Tryz.sizeOf3
  v3 := Tryz.zeroValue3
  t4 := Tryz.underlying4
  a4 := Tryz.isAgg4
  z4 := Tryz.sizeOf4
  v4 := Tryz.zeroValue4
  t5 := Tryz.underlying5
  a5 := Tryz.isAgg5
  z5 := Tryz.sizeOf5
  v5 := Tryz.zeroValue5
  t9 := Tryz.underlying9
  a9 := Tryz.isAgg9
  z9 := Tryz.sizeOf9
  v9 := Tryz.zeroValue9
  t20 := Tryz.underlying20
  a20 := Tryz.isAgg20
  z20 := Tryz.sizeOf20
  v20 := Tryz.zeroValue20
  t37 := Tryz.underlying81
  a37 := Tryz.isAgg81
  z37 := Tryz.sizeOf81
  v37 := Tryz.zeroValue81
  t46 := Tryz.underlying87
  a46 := Tryz.isAgg87
  z46 := Tryz.sizeOf87
  v46 := Tryz.zeroValue87
  t51 := Tryz.underlying186
  a51 := Tryz.isAgg186
  z51 := Tryz.sizeOf186
  v51 := Tryz.zeroValue186
  t53 := Tryz.underlying76
  a53 := Tryz.isAgg76
  z53 := Tryz.sizeOf76
  v53 := Tryz.zeroValue76
  t171 := Tryz.underlying233
  a171 := Tryz.isAgg233
  z171 := Tryz.sizeOf233
  v171 := Tryz.zeroValue233
  t173 := Tryz.underlying235
  a173 := Tryz.isAgg235
  z173 := Tryz.sizeOf235
  v173 := Tryz.zeroValue235
  t212 := Tryz.underlying242
  a212 := Tryz.isAgg242
  z212 := Tryz.sizeOf242
  v212 := Tryz.zeroValue242
  t213 := Tryz.underlying243
  a213 := Tryz.isAgg243
  z213 := Tryz.sizeOf243
  t232 := Tryz.underlying246
  a232 := Tryz.isAgg246
  z232 := Tryz.sizeOf246
  v232 := Tryz.zeroValue246
  t233 := Tryz.underlying247
  a233 := Tryz.isAgg247
  z233 := Tryz.sizeOf247
  v233 := Tryz.zeroValue247
  g17 := by kernel_rfl
  g18 := by kernel_rfl
  g19 := by kernel_rfl }
open Go.RowKit Go.Sort Go.Lib in
theorem Tryz.strconv_Itoa_small (i : Nat) (hi : i < 100) (w : World) :
    Calls Tryz.prog 111 #[.int .i64 i] w fun e w' => e = .returned (.string ⟨(Lib.decDigits i).toArray⟩) ∧ w' = w := Any.strconv_Itoa_small Tryz.lays171 i hi w
def Tryz.laysM181_ren : Go.Shelf.Ren := ⟨fun | 181 => 80 | n => n, fun | 130 => 152 | 3 => 3 | 0 => 0 | 93 => 85 | 37 => 81 | 91 => 83 | 5 => 5 | n => n, fun | n => n⟩
theorem Tryz.laysM181 : Go.Proofs.LaysM.n181 Tryz.prog Tryz.laysM181_ren := {
  mixed := by kernel_rfl
  f181 := Tryz.func80.trans (congrArg some (by kernel_rfl))
  t0 := Tryz.underlying0
  a0 := Tryz.isAgg0
  z0 := Tryz.sizeOf0
  v0 := Tryz.zeroValue0
  t3 := Tryz.underlying3
  a3 := Tryz.isAgg3
  z3 := Tryz.sizeOf3
  v3 := Tryz.zeroValue3
  t37 := Tryz.underlying81
  a37 := Tryz.isAgg81
  z37 := Tryz.sizeOf81
  v37 := Tryz.zeroValue81
  t93 := Tryz.underlying85
  a93 := Tryz.isAgg85
  z93 := Tryz.sizeOf85
  v93 := Tryz.zeroValue85
  t130 := Tryz.underlying152
  a130 := Tryz.isAgg152
  z130 := Tryz.sizeOf152
  v130 := Tryz.zeroValue152
  t5 := Tryz.underlying5
  a5 := Tryz.isAgg5
  z5 := Tryz.sizeOf5
  v5 := Tryz.zeroValue5
  t91 := Tryz.underlying83
  a91 := Tryz.isAgg83
  z91 := Tryz.sizeOf83
  v91 := Tryz.zeroValue83
  i0 := by kernel_rfl
  i3 := by kernel_rfl
  i5 := by kernel_rfl
  i37 := by kernel_rfl
  i91 := by kernel_rfl
  i93 := by kernel_rfl
  i130 := by kernel_rfl }
open Go.RowKit in
theorem Tryz.Buffer_Len (B b : Nat) (bs : List Value) (w : World) (h : Lib.IsBuffer 85 5 B b bs w) :
    Calls Tryz.prog 80 #[.pointer (some ⟨b, 0, none⟩)] w fun e w' => e = .returned (.int .i64 bs.length) ∧ ∃ n, w' = w.drewN n := Any.Buffer_Len Tryz.laysM181 B b bs w h
def Tryz.laysM251_ren : Go.Shelf.Ren := ⟨fun | 251 => 95 | n => n, fun | 130 => 152 | 3 => 3 | 4 => 4 | 0 => 0 | 93 => 85 | 37 => 81 | 91 => 83 | 5 => 5 | n => n, fun | n => n⟩
theorem Tryz.laysM251 : Go.Proofs.LaysM.n251 Tryz.prog Tryz.laysM251_ren := {
  mixed := by kernel_rfl
  f251 := Tryz.func95.trans (congrArg some (by kernel_rfl))
  t0 := Tryz.underlying0
  a0 := Tryz.isAgg0
  z0 := Tryz.sizeOf0
  v0 := Tryz.zeroValue0
  t3 := Tryz.underlying3
  a3 := Tryz.isAgg3
  z3 := Tryz.sizeOf3
  v3 := Tryz.zeroValue3
  t4 := Tryz.underlying4
  a4 := Tryz.isAgg4
  z4 := Tryz.sizeOf4
  v4 := Tryz.zeroValue4
  t37 := Tryz.underlying81
  a37 := Tryz.isAgg81
  z37 := Tryz.sizeOf81
  v37 := Tryz.zeroValue81
  t93 := Tryz.underlying85
  a93 := Tryz.isAgg85
  z93 := Tryz.sizeOf85
  v93 := Tryz.zeroValue85
  t130 := Tryz.underlying152
  a130 := Tryz.isAgg152
  z130 := Tryz.sizeOf152
  v130 := Tryz.zeroValue152
  t5 := Tryz.underlying5
  a5 := Tryz.isAgg5
  z5 := Tryz.sizeOf5
  v5 := Tryz.zeroValue5
  t91 := Tryz.underlying83
  a91 := Tryz.isAgg83
  z91 := Tryz.sizeOf83
  v91 := Tryz.zeroValue83
  i0 := by kernel_rfl
  i3 := by kernel_rfl
  i4 := by kernel_rfl
  i5 := by kernel_rfl
  i37 := by kernel_rfl
  i91 := by kernel_rfl
  i93 := by kernel_rfl
  i130 := by kernel_rfl }
open Go.RowKit in
theorem Tryz.Buffer_tryGrow_room (b : Nat) (ao : Option Addr) (l cap n : Nat) (w : World) (c0 : w.cell? ⟨b, 0, none⟩ = some (.slice ao l cap)) (f0 : w.frozen? ⟨b, 0, none⟩ = false) (hlc : l ≤ cap) (hcap : cap ≤ maxLen) (hn : n ≤ cap - l) :
    Calls Tryz.prog 95 #[.pointer (some ⟨b, 0, none⟩), .int .i64 n] w fun e w' => e = .returned (.tuple #[.int .i64 l, .bool true]) ∧ w' = w.setCell ⟨b, 0, none⟩ (.slice ao (l + n) cap) := Any.Buffer_tryGrow_room Tryz.laysM251 b ao l cap n w c0 f0 hlc hcap hn
open Go.RowKit in
theorem Tryz.Buffer_tryGrow_none (b : Nat) (ao : Option Addr) (l cap n : Nat) (w : World) (c0 : w.cell? ⟨b, 0, none⟩ = some (.slice ao l cap)) (hlc : l ≤ cap) (hcap : cap ≤ maxLen) (hn : cap - l < n) :
    Calls Tryz.prog 95 #[.pointer (some ⟨b, 0, none⟩), .int .i64 n] w fun e w' => e = .returned (.tuple #[.int .i64 0, .bool false]) ∧ w' = w := Any.Buffer_tryGrow_none Tryz.laysM251 b ao l cap n w c0 hlc hcap hn
def Tryz.laysM324_ren : Go.Shelf.Ren := ⟨fun | 324 => 113 | n => n, fun | 20 => 20 | 4 => 4 | 75 => 44 | 0 => 0 | 80 => 134 | 9 => 9 | n => n, fun | 14 => 5 | n => n⟩
theorem Tryz.laysM324 : Go.Proofs.LaysM.n324 Tryz.prog Tryz.laysM324_ren := {
  mixed := by kernel_rfl
  f324 := Tryz.func113.trans (congrArg some (by kernel_rfl))
  t0 := Tryz.underlying0
  a0 := Tryz.isAgg0
  z0 := Tryz.sizeOf0
  v0 := Tryz.zeroValue0
  t4 := Tryz.underlying4
  a4 := Tryz.isAgg4
  z4 := Tryz.sizeOf4
  v4 := Tryz.zeroValue4
  t20 := Tryz.underlying20
  a20 := Tryz.isAgg20
  z20 := Tryz.sizeOf20
  v20 := Tryz.zeroValue20
  t75 := Tryz.underlying44
  a75 := Tryz.isAgg44
  z75 := Tryz.sizeOf44
  v75 := Tryz.zeroValue44
  g14 := by kernel_rfl
  t9 := Tryz.underlying9
  a9 := Tryz.isAgg9
  z9 := Tryz.sizeOf9
  v9 := Tryz.zeroValue9
  t80 := Tryz.underlying134
  a80 := Tryz.isAgg134
  z80 := Tryz.sizeOf134
  v80 := Tryz.zeroValue134
  i0 := by kernel_rfl
  i4 := by kernel_rfl
  i9 := by kernel_rfl
  i20 := by kernel_rfl
  i75 := by kernel_rfl
  i80 := by kernel_rfl
  m14 := by kernel_rfl }
theorem Tryz.growSlice_catch_idle (w : World) :
    CallsD Tryz.prog 113 #[] .returning w fun e u' w' => e = .returned (.tuple #[]) ∧ u' = .returning ∧ w' = w := Any.growSlice_catch_idle Tryz.laysM324 w
def Tryz.laysM290_ren : Go.Shelf.Ren := ⟨fun | 290 => 106 | 324 => 113 | n => n, fun | 37 => 81 | 3 => 3 | 0 => 0 | 4 => 4 | 20 => 20 | 75 => 44 | 5 => 5 | 80 => 134 | 9 => 9 | n => n, fun | 14 => 5 | n => n⟩
theorem Tryz.laysM290 : Go.Proofs.LaysM.n290 Tryz.prog Tryz.laysM290_ren := {
  mixed := by kernel_rfl
  f290 := Tryz.func106.trans (congrArg some (by kernel_rfl))
  f324 := Tryz.func113.trans (congrArg some (by kernel_rfl))
  t0 := Tryz.underlying0
  a0 := Tryz.isAgg0
  z0 := Tryz.sizeOf0
  v0 := Tryz.zeroValue0
  t3 := Tryz.underlying3
  a3 := Tryz.isAgg3
  z3 := Tryz.sizeOf3
  v3 := Tryz.zeroValue3
  t4 := Tryz.underlying4
  a4 := Tryz.isAgg4
  z4 := Tryz.sizeOf4
  v4 := Tryz.zeroValue4
  t20 := Tryz.underlying20
  a20 := Tryz.isAgg20
  z20 := Tryz.sizeOf20
  v20 := Tryz.zeroValue20
  t37 := Tryz.underlying81
  a37 := Tryz.isAgg81
  z37 := Tryz.sizeOf81
  v37 := Tryz.zeroValue81
  t75 := Tryz.underlying44
  a75 := Tryz.isAgg44
  z75 := Tryz.sizeOf44
  v75 := Tryz.zeroValue44
  g14 := by kernel_rfl
  t5 := Tryz.underlying5
  a5 := Tryz.isAgg5
  z5 := Tryz.sizeOf5
  v5 := Tryz.zeroValue5
  t9 := Tryz.underlying9
  a9 := Tryz.isAgg9
  z9 := Tryz.sizeOf9
  v9 := Tryz.zeroValue9
  t80 := Tryz.underlying134
  a80 := Tryz.isAgg134
  z80 := Tryz.sizeOf134
  v80 := Tryz.zeroValue134
  i0 := by kernel_rfl
  i3 := by kernel_rfl
  i4 := by kernel_rfl
  i5 := by kernel_rfl
  i9 := by kernel_rfl
  i20 := by kernel_rfl
  i37 := by kernel_rfl
  i75 := by kernel_rfl
  i80 := by kernel_rfl
  m14 := by kernel_rfl }
open Go.RowKit in
theorem Tryz.bytes_growSlice_row (g l c n : Nat) (cur : Array Value) (w : World) (hg : w.heap[g]? = some (.cells cur 5 (0, 0))) (hcs : cur.size = c) (hlc : l ≤ c) (hn : 1 ≤ n) (hlim : l + n ≤ 140737488355328) (hc2 : c ≤ 140737488355328) (h1 : ∀ v ∈ cur.toList.take l, v.oneCell' = true) :
    Calls Tryz.prog 106 #[.slice (some ⟨g, 0, none⟩) l c, .int .i64 n] w fun e w' => ∃ cap2 cells, e = .returned (.slice (some ⟨w.heap.size, 0, none⟩) l cap2) ∧ w'.heap[w.heap.size]? = some (.cells cells 5 (0, 0)) ∧
      cells.size = cap2 ∧ cells.toList.take l = cur.toList.take l ∧ l + n ≤ cap2 ∧ cap2 ≤ maxLen ∧ Below w.heap.size w w' := Any.bytes_growSlice_row Tryz.laysM290 g l c n cur w hg hcs hlc hn hlim hc2 h1
open Go.RowKit in
theorem Tryz.bytes_growSlice_nil (n : Nat) (w : World) (hn : 1 ≤ n) (hlim : n ≤ 140737488355328) :
    Calls Tryz.prog 106 #[.slice none 0 0, .int .i64 n] w fun e w' => ∃ cap2 cells, e = .returned (.slice (some ⟨w.heap.size, 0, none⟩) 0 cap2) ∧ w'.heap[w.heap.size]? = some (.cells cells 5 (0, 0)) ∧
      cells.size = cap2 ∧ n ≤ cap2 ∧ cap2 ≤ maxLen ∧ Below w.heap.size w w' := Any.bytes_growSlice_nil Tryz.laysM290 n w hn hlim
def Tryz.laysM252_ren : Go.Shelf.Ren := ⟨fun | 252 => 96 | 181 => 80 | 184 => 71 | 251 => 95 | 290 => 106 | 324 => 113 | n => n, fun | 130 => 152 | 3 => 3 | 4 => 4 | 0 => 0 | 93 => 85 | 131 => 156 | 37 => 81 | 75 => 44 | 91 => 83 | 20 => 20 | 5 => 5 | 80 => 134 | 9 => 9 | n => n, fun | 14 => 5 | n => n⟩
theorem Tryz.laysM252 : Go.Proofs.LaysM.n252 Tryz.prog Tryz.laysM252_ren := {
  mixed := by kernel_rfl
  f181 := Tryz.func80.trans (congrArg some (by kernel_rfl))
  f184 := Tryz.func71.trans (congrArg some (by kernel_rfl))
  f251 := Tryz.func95.trans (congrArg some (by kernel_rfl))
  f252 := Tryz.func96.trans (congrArg some (by kernel_rfl))
  f290 := Tryz.func106.trans (congrArg some (by kernel_rfl))
  f324 := Tryz.func113.trans (congrArg some (by kernel_rfl))
  t0 := Tryz.underlying0
  a0 := Tryz.isAgg0
  z0 := Tryz.sizeOf0
  v0 := Tryz.zeroValue0
  t3 := Tryz.underlying3
  a3 := Tryz.isAgg3
  z3 := Tryz.sizeOf3
  v3 := Tryz.zeroValue3
  t4 := Tryz.underlying4
  a4 := Tryz.isAgg4
  z4 := Tryz.sizeOf4
  v4 := Tryz.zeroValue4
  t20 := Tryz.underlying20
  a20 := Tryz.isAgg20
  z20 := Tryz.sizeOf20
  v20 := Tryz.zeroValue20
  t37 := Tryz.underlying81
  a37 := Tryz.isAgg81
  z37 := Tryz.sizeOf81
  v37 := Tryz.zeroValue81
  t75 := Tryz.underlying44
  a75 := Tryz.isAgg44
  z75 := Tryz.sizeOf44
  v75 := Tryz.zeroValue44
  t91 := Tryz.underlying83
  a91 := Tryz.isAgg83
  z91 := Tryz.sizeOf83
  v91 := Tryz.zeroValue83
  t93 := Tryz.underlying85
  a93 := Tryz.isAgg85
  z93 := Tryz.sizeOf85
  v93 := Tryz.zeroValue85
  t130 := Tryz.underlying152
  a130 := Tryz.isAgg152
  z130 := Tryz.sizeOf152
  v130 := Tryz.zeroValue152
  t131 := Tryz.underlying156
  a131 := Tryz.isAgg156
  z131 := Tryz.sizeOf156
  v131 := Tryz.zeroValue156
  g14 := by kernel_rfl
  t5 := Tryz.underlying5
  a5 := Tryz.isAgg5
  z5 := Tryz.sizeOf5
  v5 := Tryz.zeroValue5
  t9 := Tryz.underlying9
  a9 := Tryz.isAgg9
  z9 := Tryz.sizeOf9
  v9 := Tryz.zeroValue9
  t80 := Tryz.underlying134
  a80 := Tryz.isAgg134
  z80 := Tryz.sizeOf134
  v80 := Tryz.zeroValue134
  i0 := by kernel_rfl
  i3 := by kernel_rfl
  i4 := by kernel_rfl
  i5 := by kernel_rfl
  i9 := by kernel_rfl
  i20 := by kernel_rfl
  i37 := by kernel_rfl
  i75 := by kernel_rfl
  i80 := by kernel_rfl
  i91 := by kernel_rfl
  i93 := by kernel_rfl
  i130 := by kernel_rfl
  i131 := by kernel_rfl
  m14 := by kernel_rfl }
open Go.RowKit in
theorem Tryz.Buffer_grow_row0 (B b g cap n : Nat) (lr : Int) (cur : Array Value) (bs : List Value) (w : World) (hB : B ≤ b) (hBw : B ≤ w.heap.size) (hbk : w.heap[b]? = some (.cells #[.slice (some ⟨g, 0, none⟩) 0 cap, .int .i64 0, .int .i8 lr] 85 (0, 0))) (hl : bs.length = 0) (hBg : B ≤ g) (hg : w.heap[g]? = some (.cells cur 5 (0, 0))) (hlc : 0 ≤ cap) (hcm : cap ≤ maxLen) (hcs : cur.size = cap) (htake : cur.toList.take 0 = bs) (hgb : g ≠ b) (h1 : ∀ v ∈ bs, v.oneCell' = true) (hn : 1 ≤ n) (hroom : cap - 0 < n) (hlim : 0 + n ≤ 140737488355328) :
    Calls Tryz.prog 96 #[.pointer (some ⟨b, 0, none⟩), .int .i64 n] w fun e w' => e = .returned (.int .i64 0) ∧ ∃ xs, xs.length = n ∧ Lib.IsBuffer 85 5 B b (bs ++ xs) w' ∧ Below B w w' := Any.Buffer_grow_row0 Tryz.laysM252 B b g cap n lr cur bs w hB hBw hbk hl hBg hg hlc hcm hcs htake hgb h1 hn hroom hlim
open Go.RowKit in
theorem Tryz.Buffer_grow_row (B b g l cap n : Nat) (lr : Int) (cur : Array Value) (bs : List Value) (w : World) (hB : B ≤ b) (hBw : B ≤ w.heap.size) (hbk : w.heap[b]? = some (.cells #[.slice (some ⟨g, 0, none⟩) l cap, .int .i64 0, .int .i8 lr] 85 (0, 0))) (hl : bs.length = l) (hBg : B ≤ g) (hg : w.heap[g]? = some (.cells cur 5 (0, 0))) (hlc : l ≤ cap) (hcm : cap ≤ maxLen) (hcs : cur.size = cap) (htake : cur.toList.take l = bs) (hgb : g ≠ b) (h1 : ∀ v ∈ bs, v.oneCell' = true) (hn : 1 ≤ n) (hroom : cap - l < n) (hlim : l + n ≤ 140737488355328) :
    Calls Tryz.prog 96 #[.pointer (some ⟨b, 0, none⟩), .int .i64 n] w fun e w' => e = .returned (.int .i64 l) ∧ ∃ xs, xs.length = n ∧ Lib.IsBuffer 85 5 B b (bs ++ xs) w' ∧ Below B w w' := Any.Buffer_grow_row Tryz.laysM252 B b g l cap n lr cur bs w hB hBw hbk hl hBg hg hlc hcm hcs htake hgb h1 hn hroom hlim
open Go.RowKit in
theorem Tryz.Buffer_grow_nil_small (B b n : Nat) (lr : Int) (w : World) (hB : B ≤ b) (hBw : B ≤ w.heap.size) (hbk : w.heap[b]? = some (.cells #[.slice none 0 0, .int .i64 0, .int .i8 lr] 85 (0, 0))) (hn : 1 ≤ n) (h64 : n ≤ 64) :
    Calls Tryz.prog 96 #[.pointer (some ⟨b, 0, none⟩), .int .i64 n] w fun e w' => e = .returned (.int .i64 0) ∧ ∃ xs, xs.length = n ∧ Lib.IsBuffer 85 5 B b xs w' ∧ Below B w w' := Any.Buffer_grow_nil_small Tryz.laysM252 B b n lr w hB hBw hbk hn h64
open Go.RowKit in
theorem Tryz.Buffer_grow_nil_big (B b n : Nat) (lr : Int) (w : World) (hB : B ≤ b) (hBw : B ≤ w.heap.size) (hbk : w.heap[b]? = some (.cells #[.slice none 0 0, .int .i64 0, .int .i8 lr] 85 (0, 0))) (h64 : 64 < n) (hlim : n ≤ 140737488355328) :
    Calls Tryz.prog 96 #[.pointer (some ⟨b, 0, none⟩), .int .i64 n] w fun e w' => e = .returned (.int .i64 0) ∧ ∃ xs, xs.length = n ∧ Lib.IsBuffer 85 5 B b xs w' ∧ Below B w w' := Any.Buffer_grow_nil_big Tryz.laysM252 B b n lr w hB hBw hbk h64 hlim
open Go.RowKit in
theorem Tryz.Buffer_tryGrow (B b n : Nat) (bs : List Value) (w : World) (h : Lib.IsBuffer 85 5 B b bs w) :
    Calls Tryz.prog 95 #[.pointer (some ⟨b, 0, none⟩), .int .i64 n] w fun e w' =>
      (e = .returned (.tuple #[.int .i64 bs.length, .bool true]) ∧ ∃ xs, xs.length = n ∧ Lib.IsBuffer 85 5 B b (bs ++ xs) w' ∧ Below B w w') ∨
      (e = .returned (.tuple #[.int .i64 0, .bool false]) ∧ w' = w ∧ Lib.NoRoom b n w) := Any.Buffer_tryGrow Tryz.laysM251 B b n bs w h
open Go.RowKit in
theorem Tryz.Buffer_grow (B b n : Nat) (bs : List Value) (w : World) (h : Lib.IsBuffer 85 5 B b bs w) (hnr : Lib.NoRoom b n w) (hBw : B ≤ w.heap.size) (h1 : ∀ v ∈ bs, v.oneCell' = true) (hlim : bs.length + n ≤ 140737488355328) :
    Calls Tryz.prog 96 #[.pointer (some ⟨b, 0, none⟩), .int .i64 n] w fun e w' => e = .returned (.int .i64 bs.length) ∧ ∃ xs, xs.length = n ∧ Lib.IsBuffer 85 5 B b (bs ++ xs) w' ∧ Below B w w' := Any.Buffer_grow Tryz.laysM252 B b n bs w h hnr hBw h1 hlim
def Tryz.laysM180_ren : Go.Shelf.Ren := ⟨fun | 180 => 81 | 251 => 95 | 252 => 96 | 181 => 80 | 184 => 71 | 290 => 106 | 324 => 113 | n => n, fun | 130 => 152 | 37 => 81 | 3 => 3 | 75 => 44 | 0 => 0 | 93 => 85 | 91 => 83 | 131 => 156 | 4 => 4 | 20 => 20 | 5 => 5 | 80 => 134 | 9 => 9 | n => n, fun | 14 => 5 | n => n⟩
theorem Tryz.laysM180 : Go.Proofs.LaysM.n180 Tryz.prog Tryz.laysM180_ren := {
  mixed := by kernel_rfl
  f180 := Tryz.func81.trans (congrArg some (by kernel_rfl))
  f181 := Tryz.func80.trans (congrArg some (by kernel_rfl))
  f184 := Tryz.func71.trans (congrArg some (by kernel_rfl))
  f251 := Tryz.func95.trans (congrArg some (by kernel_rfl))
  f252 := Tryz.func96.trans (congrArg some (by kernel_rfl))
  f290 := Tryz.func106.trans (congrArg some (by kernel_rfl))
  f324 := Tryz.func113.trans (congrArg some (by kernel_rfl))
  t0 := Tryz.underlying0
  a0 := Tryz.isAgg0
  z0 := Tryz.sizeOf0
  v0 := Tryz.zeroValue0
  t3 := Tryz.underlying3
  a3 := Tryz.isAgg3
  z3 := Tryz.sizeOf3
  v3 := Tryz.zeroValue3
  t4 := Tryz.underlying4
  a4 := Tryz.isAgg4
  z4 := Tryz.sizeOf4
  v4 := Tryz.zeroValue4
  t20 := Tryz.underlying20
  a20 := Tryz.isAgg20
  z20 := Tryz.sizeOf20
  v20 := Tryz.zeroValue20
  t37 := Tryz.underlying81
  a37 := Tryz.isAgg81
  z37 := Tryz.sizeOf81
  v37 := Tryz.zeroValue81
  t75 := Tryz.underlying44
  a75 := Tryz.isAgg44
  z75 := Tryz.sizeOf44
  v75 := Tryz.zeroValue44
  t91 := Tryz.underlying83
  a91 := Tryz.isAgg83
  z91 := Tryz.sizeOf83
  v91 := Tryz.zeroValue83
  t93 := Tryz.underlying85
  a93 := Tryz.isAgg85
  z93 := Tryz.sizeOf85
  v93 := Tryz.zeroValue85
  t130 := Tryz.underlying152
  a130 := Tryz.isAgg152
  z130 := Tryz.sizeOf152
  v130 := Tryz.zeroValue152
  t131 := Tryz.underlying156
  a131 := Tryz.isAgg156
  z131 := Tryz.sizeOf156
  v131 := Tryz.zeroValue156
  g14 := by kernel_rfl
  t5 := Tryz.underlying5
  a5 := Tryz.isAgg5
  z5 := Tryz.sizeOf5
  v5 := Tryz.zeroValue5
  t9 := Tryz.underlying9
  a9 := Tryz.isAgg9
  z9 := Tryz.sizeOf9
  v9 := Tryz.zeroValue9
  t80 := Tryz.underlying134
  a80 := Tryz.isAgg134
  z80 := Tryz.sizeOf134
  v80 := Tryz.zeroValue134
  i0 := by kernel_rfl
  i3 := by kernel_rfl
  i4 := by kernel_rfl
  i5 := by kernel_rfl
  i9 := by kernel_rfl
  i20 := by kernel_rfl
  i37 := by kernel_rfl
  i75 := by kernel_rfl
  i80 := by kernel_rfl
  i91 := by kernel_rfl
  i93 := by kernel_rfl
  i130 := by kernel_rfl
  i131 := by kernel_rfl
  m14 := by kernel_rfl }
open Go.RowKit in
theorem Tryz.Buffer_Write (B b : Nat) (bs cs : List Value) (a : Addr) (n c : Nat) (w : World) (h : Lib.IsBuffer 85 5 B b bs w) (hBw : B ≤ w.heap.size) (h1 : ∀ v ∈ bs, v.oneCell' = true) (hn : cs.length = n) (haB : a.block < B) (hsrc : ∀ j v, cs[j]? = some v → w.cell? (a.add j) = some v) (h1c : ∀ v ∈ cs, v.oneCell' = true) (hlim : bs.length + n ≤ 140737488355328) :
    Calls Tryz.prog 81 #[.pointer (some ⟨b, 0, none⟩), .slice (some a) n c] w fun e w' => e = .returned (.tuple #[.int .i64 n, .nilIface]) ∧ Lib.IsBuffer 85 5 B b (bs ++ cs) w' ∧ Below B w w' := Any.Buffer_Write Tryz.laysM180 B b bs cs a n c w h hBw h1 hn haB hsrc h1c hlim
def Tryz.laysM316_ren : Go.Shelf.Ren := ⟨fun | 316 => 109 | n => n, fun | 9 => 9 | 3 => 3 | 4 => 4 | 37 => 81 | 0 => 0 | 127 => 201 | 5 => 5 | n => n, fun | n => n⟩
theorem Tryz.laysM316 : Go.Proofs.LaysM.n316 Tryz.prog Tryz.laysM316_ren := {
  mixed := by kernel_rfl
  f316 := Tryz.func109.trans (congrArg some (by kernel_rfl))
  t0 := Tryz.underlying0
  a0 := Tryz.isAgg0
  z0 := Tryz.sizeOf0
  v0 := Tryz.zeroValue0
  t3 := Tryz.underlying3
  a3 := Tryz.isAgg3
  z3 := Tryz.sizeOf3
  v3 := Tryz.zeroValue3
  t4 := Tryz.underlying4
  a4 := Tryz.isAgg4
  z4 := Tryz.sizeOf4
  v4 := Tryz.zeroValue4
  t9 := Tryz.underlying9
  a9 := Tryz.isAgg9
  z9 := Tryz.sizeOf9
  v9 := Tryz.zeroValue9
  t37 := Tryz.underlying81
  a37 := Tryz.isAgg81
  z37 := Tryz.sizeOf81
  v37 := Tryz.zeroValue81
  t127 := Tryz.underlying201
  a127 := Tryz.isAgg201
  z127 := Tryz.sizeOf201
  v127 := Tryz.zeroValue201
  t5 := Tryz.underlying5
  a5 := Tryz.isAgg5
  z5 := Tryz.sizeOf5
  v5 := Tryz.zeroValue5
  i0 := by kernel_rfl
  i3 := by kernel_rfl
  i4 := by kernel_rfl
  i5 := by kernel_rfl
  i9 := by kernel_rfl
  i37 := by kernel_rfl
  i127 := by kernel_rfl }
open Go.RowKit in
theorem Tryz.stringslite_Clone (s : ByteArray) (w : World) (hlim : s.size ≤ 281474976710656) :
    Calls Tryz.prog 109 #[.string s] w fun e w' => e = .returned (.string s) ∧ Below w.heap.size w w' := Any.stringslite_Clone Tryz.laysM316 s w hlim
def Tryz.laysM279_ren : Go.Shelf.Ren := ⟨fun | 279 => 98 | 316 => 109 | n => n, fun | 9 => 9 | 168 => 161 | 75 => 44 | 210 => 176 | 3 => 3 | 4 => 4 | 37 => 81 | 0 => 0 | 127 => 201 | 80 => 134 | 5 => 5 | n => n, fun | 15 => 6 | n => n⟩
theorem Tryz.laysM279 : Go.Proofs.LaysM.n279 Tryz.prog Tryz.laysM279_ren := {
  mixed := by kernel_rfl
  f279 := Tryz.func98.trans (congrArg some (by kernel_rfl))
  f316 := Tryz.func109.trans (congrArg some (by kernel_rfl))
  t0 := Tryz.underlying0
  a0 := Tryz.isAgg0
  z0 := Tryz.sizeOf0
  v0 := Tryz.zeroValue0
  t3 := Tryz.underlying3
  a3 := Tryz.isAgg3
  z3 := Tryz.sizeOf3
  v3 := Tryz.zeroValue3
  t4 := Tryz.underlying4
  a4 := Tryz.isAgg4
  z4 := Tryz.sizeOf4
  v4 := Tryz.zeroValue4
  t9 := Tryz.underlying9
  a9 := Tryz.isAgg9
  z9 := Tryz.sizeOf9
  v9 := Tryz.zeroValue9
  t37 := Tryz.underlying81
  a37 := Tryz.isAgg81
  z37 := Tryz.sizeOf81
  v37 := Tryz.zeroValue81
  t75 := Tryz.underlying44
  a75 := Tryz.isAgg44
  z75 := Tryz.sizeOf44
  v75 := Tryz.zeroValue44
  t127 := Tryz.underlying201
  a127 := Tryz.isAgg201
  z127 := Tryz.sizeOf201
  v127 := Tryz.zeroValue201
  t168 := Tryz.underlying161
  a168 := Tryz.isAgg161
  z168 := Tryz.sizeOf161
  v168 := Tryz.zeroValue161
  t210 := Tryz.underlying176
  a210 := Tryz.isAgg176
  z210 := Tryz.sizeOf176
  v210 := Tryz.zeroValue176
  g15 := by kernel_rfl
  t5 := Tryz.underlying5
  a5 := Tryz.isAgg5
  z5 := Tryz.sizeOf5
  v5 := Tryz.zeroValue5
  t80 := Tryz.underlying134
  a80 := Tryz.isAgg134
  z80 := Tryz.sizeOf134
  v80 := Tryz.zeroValue134
  i0 := by kernel_rfl
  i3 := by kernel_rfl
  i4 := by kernel_rfl
  i5 := by kernel_rfl
  i9 := by kernel_rfl
  i37 := by kernel_rfl
  i75 := by kernel_rfl
  i80 := by kernel_rfl
  i127 := by kernel_rfl
  i168 := by kernel_rfl
  i210 := by kernel_rfl
  m15 := by kernel_rfl }
open Go.RowKit in
theorem Tryz.strconv_syntaxError (fn s : ByteArray) (ev : Value) (w : World) (hlim : s.size ≤ 281474976710656) (hv : w.cell? ⟨6, 0, none⟩ = some ev) (hev : ev = .nilIface ∨ ∃ te pe, ev = .iface te pe) :
    Calls Tryz.prog 98 #[.string fn, .string s] w fun e w' => ∃ N, e = .returned (.pointer (some ⟨N, 0, none⟩)) ∧ w.heap.size ≤ N ∧ w'.heap[N]? = some (.cells #[.string fn, .string s, ev] 176 (0, 0)) ∧ Below w.heap.size w w' := Any.strconv_syntaxError Tryz.laysM279 fn s ev w hlim hv hev
def Tryz.laysC245_ren : Go.Shelf.Ren := ⟨fun | 245 => 84 | 279 => 98 | 280 => 99 | 281 => 100 | 282 => 101 | 316 => 109 | 171 => 111 | 205 => 110 | 243 => 127 | 246 => 144 | 283 => 149 | 284 => 150 | 285 => 151 | 286 => 152 | 129 => 133 | 317 => 155 | 318 => 137 | 319 => 156 | 320 => 157 | 337 => 158 | 338 => 159 | n => n, fun | 9 => 9 | 3 => 3 | 75 => 44 | 167 => 160 | 4 => 4 | 168 => 161 | 210 => 176 | 37 => 81 | 0 => 0 | 127 => 201 | 145 => 204 | 143 => 202 | 2 => 2 | 171 => 233 | 53 => 76 | 5 => 5 | 173 => 235 | 212 => 242 | 51 => 186 | 20 => 20 | 213 => 243 | 46 => 87 | 232 => 246 | 233 => 247 | 80 => 134 | n => n, fun | 15 => 6 | 16 => 7 | 17 => 16 | 18 => 17 | 19 => 18 | n => n⟩
theorem Tryz.laysC245 : Go.Proofs.LaysC.n245 Tryz.prog Tryz.laysC245_ren := {
  mixed := by kernel_rfl
  f129 := Tryz.func133.trans (congrArg some (by kernel_rfl))
  f171 := Tryz.func111.trans (congrArg some (by kernel_rfl))
  f205 := Tryz.func110.trans (congrArg some (by kernel_rfl))
  f243 := Tryz.func127.trans (congrArg some (by kernel_rfl))
  f245 := Tryz.func84.trans (congrArg some (by kernel_rfl))
  f246 := Tryz.func144.trans (congrArg some (by kernel_rfl))
  f279 := Tryz.func98.trans (congrArg some (by kernel_rfl))
  f280 := Tryz.func99.trans (congrArg some (by kernel_rfl))
  f281 := Tryz.func100.trans (congrArg some (by kernel_rfl))
  f282 := Tryz.func101.trans (congrArg some (by kernel_rfl))
  f283 := Tryz.func149.trans (congrArg some (by kernel_rfl))
  f284 := Tryz.func150.trans (congrArg some (by kernel_rfl))
  f285 := Tryz.func151.trans (congrArg some (by kernel_rfl))
  f286 := Tryz.func152.trans (congrArg some (by kernel_rfl))
  f316 := Tryz.func109.trans (congrArg some (by kernel_rfl))
  f317 := Tryz.func155.trans (congrArg some (by kernel_rfl))
  f318 := Tryz.func137.trans (congrArg some (by kernel_rfl))
  f319 := Tryz.func156.trans (congrArg some (by kernel_rfl))
  f320 := Tryz.func157.trans (congrArg some (by kernel_rfl))
  f337 := Tryz.func158.trans (congrArg some (by kernel_rfl))
  f338 := Tryz.func159.trans (congrArg some (by kernel_rfl))
  t0 := Tryz.underlying0
  a0 := Tryz.isAgg0
  z0 := Tryz.sizeOf0
  v0 := Tryz.zeroValue0
  t2 := Tryz.underlying2
  a2 := Tryz.isAgg2
  z2 := Tryz.sizeOf2
  v2 := Tryz.zeroValue2
  t3 := Tryz.underlying3
  a3 := Tryz.isAgg3
  z3 := Tryz.sizeOf3
  v3 := Tryz.zeroValue3
  t4 := Tryz.underlying4
  a4 := Tryz.isAgg4
  z4 := Tryz.sizeOf4
  v4 := Tryz.zeroValue4
  t5 := Tryz.underlying5
  a5 := Tryz.isAgg5
  z5 := Tryz.sizeOf5
  v5 := Tryz.zeroValue5
  t9 := Tryz.underlying9
  a9 := Tryz.isAgg9
  z9 := Tryz.sizeOf9
  v9 := Tryz.zeroValue9
  t20 := Tryz.underlying20
  a20 := Tryz.isAgg20
  z20 := Tryz.sizeOf20
  v20 := Tryz.zeroValue20
  t37 := Tryz.underlying81
  a37 := Tryz.isAgg81
  z37 := Tryz.sizeOf81
  v37 := Tryz.zeroValue81
  t46 := Tryz.underlying87
  a46 := Tryz.isAgg87
  z46 := Tryz.sizeOf87
  v46 := Tryz.zeroValue87
  t51 := Tryz.underlying186
  a51 := Tryz.isAgg186
  z51 := Tryz.sizeOf186
  v51 := Tryz.zeroValue186
  t53 := Tryz.underlying76
  a53 := Tryz.isAgg76
  z53 := Tryz.sizeOf76
  v53 := Tryz.zeroValue76
  t75 := Tryz.underlying44
  a75 := Tryz.isAgg44
  z75 := Tryz.sizeOf44
  v75 := Tryz.zeroValue44
  t127 := Tryz.underlying201
  a127 := Tryz.isAgg201
  z127 := Tryz.sizeOf201
  v127 := Tryz.zeroValue201
  t143 := Tryz.underlying202
  a143 := Tryz.isAgg202
  z143 := Tryz.sizeOf202
  v143 := Tryz.zeroValue202
  t145 := Tryz.underlying204
  a145 := Tryz.isAgg204
  z145 := Tryz.sizeOf204
  v145 := Tryz.zeroValue204
  t167 := Tryz.underlying160
  a167 := Tryz.isAgg160
  z167 := Tryz.sizeOf160
  v167 := Tryz.zeroValue160
  t168 := Tryz.underlying161
  a168 := Tryz.isAgg161
  z168 := Tryz.sizeOf161
  v168 := Tryz.zeroValue161
  t171 := Tryz.underlying233
  a171 := Tryz.isAgg233
  z171 := Tryz.sizeOf233
  v171 := Tryz.zeroValue233
  t173 := Tryz.underlying235
  a173 := Tryz.isAgg235
  z173 := Tryz.sizeOf235
  v173 := Tryz.zeroValue235
  t210 := Tryz.underlying176
  a210 := Tryz.isAgg176
  z210 := Tryz.sizeOf176
  v210 := Tryz.zeroValue176
  t212 := Tryz.underlying242
  a212 := Tryz.isAgg242
  z212 := Tryz.sizeOf242
  v212 := Tryz.zeroValue242
  t213 := Tryz.underlying243
  a213 := Tryz.isAgg243
  z213 := Tryz.sizeOf243
  t232 := Tryz.underlying246
  a232 := Tryz.isAgg246
  z232 := Tryz.sizeOf246
  v232 := Tryz.zeroValue246
  t233 := Tryz.underlying247
  a233 := Tryz.isAgg247
  z233 := Tryz.sizeOf247
  v233 := Tryz.zeroValue247
  g15 := by kernel_rfl
  g16 := by kernel_rfl
  g17 := by kernel_rfl
  g18 := by kernel_rfl
  g19 := by kernel_rfl
  t80 := Tryz.underlying134
  a80 := Tryz.isAgg134
  z80 := Tryz.sizeOf134
  v80 := Tryz.zeroValue134
  i0 := by kernel_rfl
  i2 := by kernel_rfl
  i3 := by kernel_rfl
  i4 := by kernel_rfl
  i5 := by kernel_rfl
  i9 := by kernel_rfl
  i20 := by kernel_rfl
  i37 := by kernel_rfl
  i46 := by kernel_rfl
  i51 := by kernel_rfl
  i53 := by kernel_rfl
  i75 := by kernel_rfl
  i80 := by kernel_rfl
  i127 := by kernel_rfl
  i143 := by kernel_rfl
  i145 := by kernel_rfl
  i167 := by kernel_rfl
  i168 := by kernel_rfl
  i171 := by kernel_rfl
  i173 := by kernel_rfl
  i210 := by kernel_rfl
  i212 := by kernel_rfl
  i232 := by kernel_rfl
  i233 := by kernel_rfl
  m15 := by kernel_rfl
  m16 := by kernel_rfl
  m17 := by kernel_rfl
  m18 := by kernel_rfl
  m19 := by kernel_rfl
  c0 := by kernel_rfl
  c2 := by kernel_rfl
  c3 := by kernel_rfl
  c4 := by kernel_rfl
  c5 := by kernel_rfl
  c9 := by kernel_rfl
  c20 := by kernel_rfl
  c37 := by kernel_rfl
  c46 := by kernel_rfl
  c51 := by kernel_rfl
  c53 := by kernel_rfl
  c75 := by kernel_rfl
  c80 := by kernel_rfl
  c127 := by kernel_rfl
  c143 := by kernel_rfl
  c145 := by kernel_rfl
  c167 := by kernel_rfl
  c168 := by kernel_rfl
  c171 := by kernel_rfl
  c173 := by kernel_rfl
  c210 := by kernel_rfl
  c212 := by kernel_rfl
  c213 := by kernel_rfl
  c232 := by kernel_rfl
  c233 := by kernel_rfl }
open Go.RowKit in
theorem Tryz.strconv_toError_syntax (fn s : ByteArray) (base bits : Int) (ev : Value) (w : World) (hlim : s.size ≤ 281474976710656) (hv : w.cell? ⟨6, 0, none⟩ = some ev) (hev : ev = .nilIface ∨ ∃ te pe, ev = .iface te pe) :
    Calls Tryz.prog 84 #[.string fn, .string s, .int .i64 base, .int .i64 bits, .iface 160 (.int .i64 2)] w fun e w' => ∃ N, e = .returned (.iface 161 (.pointer (some ⟨N, 0, none⟩))) ∧ w.heap.size ≤ N ∧ w'.heap[N]? = some (.cells #[.string fn, .string s, ev] 176 (0, 0)) ∧ Below w.heap.size w w' := Any.strconv_toError_syntax Tryz.laysC245 fn s base bits ev w hlim hv hev
def Tryz.lays321_ren : Go.Shelf.Ren := ⟨fun | 321 => 131 | n => n, fun | 5 => 5 | n => n, fun | n => n⟩
theorem Tryz.lays321 : Go.Proofs.Lays.n321 Tryz.prog Tryz.lays321_ren := {
  mixed := by kernel_rfl
  f321 := Tryz.func131.trans (congrArg some (by kernel_rfl))
  t5 := Tryz.underlying5
  a5 := Tryz.isAgg5
  z5 := Tryz.sizeOf5
  v5 := Tryz.zeroValue5 }
open Go.RowKit in
theorem Tryz.internal_strconv_lower (c : Int) (w : World) :
    Calls Tryz.prog 131 #[.int .u8 c] w fun e w' => e = .returned (.int .u8 (bits .or .u8 c 32)) ∧ w' = w := Any.internal_strconv_lower Tryz.lays321 c w
def Tryz.laysM280_ren : Go.Shelf.Ren := ⟨fun | 280 => 99 | 316 => 109 | n => n, fun | 9 => 9 | 168 => 161 | 75 => 44 | 210 => 176 | 3 => 3 | 4 => 4 | 37 => 81 | 0 => 0 | 127 => 201 | 80 => 134 | 5 => 5 | n => n, fun | 16 => 7 | n => n⟩
theorem Tryz.laysM280 : Go.Proofs.LaysM.n280 Tryz.prog Tryz.laysM280_ren := {
  mixed := by kernel_rfl
  f280 := Tryz.func99.trans (congrArg some (by kernel_rfl))
  f316 := Tryz.func109.trans (congrArg some (by kernel_rfl))
  t0 := Tryz.underlying0
  a0 := Tryz.isAgg0
  z0 := Tryz.sizeOf0
  v0 := Tryz.zeroValue0
  t3 := Tryz.underlying3
  a3 := Tryz.isAgg3
  z3 := Tryz.sizeOf3
  v3 := Tryz.zeroValue3
  t4 := Tryz.underlying4
  a4 := Tryz.isAgg4
  z4 := Tryz.sizeOf4
  v4 := Tryz.zeroValue4
  t9 := Tryz.underlying9
  a9 := Tryz.isAgg9
  z9 := Tryz.sizeOf9
  v9 := Tryz.zeroValue9
  t37 := Tryz.underlying81
  a37 := Tryz.isAgg81
  z37 := Tryz.sizeOf81
  v37 := Tryz.zeroValue81
  t75 := Tryz.underlying44
  a75 := Tryz.isAgg44
  z75 := Tryz.sizeOf44
  v75 := Tryz.zeroValue44
  t127 := Tryz.underlying201
  a127 := Tryz.isAgg201
  z127 := Tryz.sizeOf201
  v127 := Tryz.zeroValue201
  t168 := Tryz.underlying161
  a168 := Tryz.isAgg161
  z168 := Tryz.sizeOf161
  v168 := Tryz.zeroValue161
  t210 := Tryz.underlying176
  a210 := Tryz.isAgg176
  z210 := Tryz.sizeOf176
  v210 := Tryz.zeroValue176
  g16 := by kernel_rfl
  t5 := Tryz.underlying5
  a5 := Tryz.isAgg5
  z5 := Tryz.sizeOf5
  v5 := Tryz.zeroValue5
  t80 := Tryz.underlying134
  a80 := Tryz.isAgg134
  z80 := Tryz.sizeOf134
  v80 := Tryz.zeroValue134
  i0 := by kernel_rfl
  i3 := by kernel_rfl
  i4 := by kernel_rfl
  i5 := by kernel_rfl
  i9 := by kernel_rfl
  i37 := by kernel_rfl
  i75 := by kernel_rfl
  i80 := by kernel_rfl
  i127 := by kernel_rfl
  i168 := by kernel_rfl
  i210 := by kernel_rfl
  m16 := by kernel_rfl }
open Go.RowKit in
theorem Tryz.strconv_rangeError (fn s : ByteArray) (ev : Value) (w : World) (hlim : s.size ≤ 281474976710656) (hv : w.cell? ⟨7, 0, none⟩ = some ev) (hev : ev = .nilIface ∨ ∃ te pe, ev = .iface te pe) :
    Calls Tryz.prog 99 #[.string fn, .string s] w fun e w' => ∃ N, e = .returned (.pointer (some ⟨N, 0, none⟩)) ∧ w.heap.size ≤ N ∧ w'.heap[N]? = some (.cells #[.string fn, .string s, ev] 176 (0, 0)) ∧ Below w.heap.size w w' := Any.strconv_rangeError Tryz.laysM280 fn s ev w hlim hv hev
open Go.RowKit in
theorem Tryz.strconv_toError_range (fn s : ByteArray) (base bits : Int) (ev : Value) (w : World) (hlim : s.size ≤ 281474976710656) (hv : w.cell? ⟨7, 0, none⟩ = some ev) (hev : ev = .nilIface ∨ ∃ te pe, ev = .iface te pe) :
    Calls Tryz.prog 84 #[.string fn, .string s, .int .i64 base, .int .i64 bits, .iface 160 (.int .i64 1)] w fun e w' => ∃ N, e = .returned (.iface 161 (.pointer (some ⟨N, 0, none⟩))) ∧ w.heap.size ≤ N ∧ w'.heap[N]? = some (.cells #[.string fn, .string s, ev] 176 (0, 0)) ∧ Below w.heap.size w w' := Any.strconv_toError_range Tryz.laysC245 fn s base bits ev w hlim hv hev
open Go.RowKit in
theorem Tryz.Buffer_grow_row0_kept (B b g cap n : Nat) (lr : Int) (cur : Array Value) (bs : List Value) (w : World) (hB : B ≤ b) (hBw : B ≤ w.heap.size) (hbk : w.heap[b]? = some (.cells #[.slice (some ⟨g, 0, none⟩) 0 cap, .int .i64 0, .int .i8 lr] 85 (0, 0))) (hl : bs.length = 0) (hBg : B ≤ g) (hg : w.heap[g]? = some (.cells cur 5 (0, 0))) (hlc : 0 ≤ cap) (hcm : cap ≤ maxLen) (hcs : cur.size = cap) (htake : cur.toList.take 0 = bs) (hgb : g ≠ b) (h1 : ∀ v ∈ bs, v.oneCell' = true) (hn : 1 ≤ n) (hroom : cap - 0 < n) (hlim : 0 + n ≤ 140737488355328) :
    Calls Tryz.prog 96 #[.pointer (some ⟨b, 0, none⟩), .int .i64 n] w fun e w' => e = .returned (.int .i64 0) ∧ ∃ xs, xs.length = n ∧ Lib.IsBuffer 85 5 B b (bs ++ xs) w' ∧ Below B w w' ∧ Lib.OthersKept 5 (some b) w w' := Any.Buffer_grow_row0_kept Tryz.laysM252 B b g cap n lr cur bs w hB hBw hbk hl hBg hg hlc hcm hcs htake hgb h1 hn hroom hlim
open Go.RowKit in
theorem Tryz.Buffer_grow_row_kept (B b g l cap n : Nat) (lr : Int) (cur : Array Value) (bs : List Value) (w : World) (hB : B ≤ b) (hBw : B ≤ w.heap.size) (hbk : w.heap[b]? = some (.cells #[.slice (some ⟨g, 0, none⟩) l cap, .int .i64 0, .int .i8 lr] 85 (0, 0))) (hl : bs.length = l) (hBg : B ≤ g) (hg : w.heap[g]? = some (.cells cur 5 (0, 0))) (hlc : l ≤ cap) (hcm : cap ≤ maxLen) (hcs : cur.size = cap) (htake : cur.toList.take l = bs) (hgb : g ≠ b) (h1 : ∀ v ∈ bs, v.oneCell' = true) (hn : 1 ≤ n) (hroom : cap - l < n) (hlim : l + n ≤ 140737488355328) :
    Calls Tryz.prog 96 #[.pointer (some ⟨b, 0, none⟩), .int .i64 n] w fun e w' => e = .returned (.int .i64 l) ∧ ∃ xs, xs.length = n ∧ Lib.IsBuffer 85 5 B b (bs ++ xs) w' ∧ Below B w w' ∧ Lib.OthersKept 5 (some b) w w' := Any.Buffer_grow_row_kept Tryz.laysM252 B b g l cap n lr cur bs w hB hBw hbk hl hBg hg hlc hcm hcs htake hgb h1 hn hroom hlim
open Go.RowKit in
theorem Tryz.Buffer_grow_nil_small_kept (B b n : Nat) (lr : Int) (w : World) (hB : B ≤ b) (hBw : B ≤ w.heap.size) (hbk : w.heap[b]? = some (.cells #[.slice none 0 0, .int .i64 0, .int .i8 lr] 85 (0, 0))) (hn : 1 ≤ n) (h64 : n ≤ 64) :
    Calls Tryz.prog 96 #[.pointer (some ⟨b, 0, none⟩), .int .i64 n] w fun e w' => e = .returned (.int .i64 0) ∧ ∃ xs, xs.length = n ∧ Lib.IsBuffer 85 5 B b xs w' ∧ Below B w w' ∧ Lib.OthersKept 5 (some b) w w' := Any.Buffer_grow_nil_small_kept Tryz.laysM252 B b n lr w hB hBw hbk hn h64
open Go.RowKit in
theorem Tryz.Buffer_grow_nil_big_kept (B b n : Nat) (lr : Int) (w : World) (hB : B ≤ b) (hBw : B ≤ w.heap.size) (hbk : w.heap[b]? = some (.cells #[.slice none 0 0, .int .i64 0, .int .i8 lr] 85 (0, 0))) (h64 : 64 < n) (hlim : n ≤ 140737488355328) :
    Calls Tryz.prog 96 #[.pointer (some ⟨b, 0, none⟩), .int .i64 n] w fun e w' => e = .returned (.int .i64 0) ∧ ∃ xs, xs.length = n ∧ Lib.IsBuffer 85 5 B b xs w' ∧ Below B w w' ∧ Lib.OthersKept 5 (some b) w w' := Any.Buffer_grow_nil_big_kept Tryz.laysM252 B b n lr w hB hBw hbk h64 hlim
open Go.RowKit in
theorem Tryz.Buffer_tryGrow_kept (B b n : Nat) (bs : List Value) (w : World) (h : Lib.IsBuffer 85 5 B b bs w) :
    Calls Tryz.prog 95 #[.pointer (some ⟨b, 0, none⟩), .int .i64 n] w fun e w' =>
      (e = .returned (.tuple #[.int .i64 bs.length, .bool true]) ∧ ∃ xs, xs.length = n ∧ Lib.IsBuffer 85 5 B b (bs ++ xs) w' ∧ Below B w w' ∧ Lib.OthersKept 5 (some b) w w') ∨
      (e = .returned (.tuple #[.int .i64 0, .bool false]) ∧ w' = w ∧ Lib.NoRoom b n w) := Any.Buffer_tryGrow_kept Tryz.laysM251 B b n bs w h
open Go.RowKit in
theorem Tryz.Buffer_grow_kept (B b n : Nat) (bs : List Value) (w : World) (h : Lib.IsBuffer 85 5 B b bs w) (hnr : Lib.NoRoom b n w) (hBw : B ≤ w.heap.size) (h1 : ∀ v ∈ bs, v.oneCell' = true) (hlim : bs.length + n ≤ 140737488355328) :
    Calls Tryz.prog 96 #[.pointer (some ⟨b, 0, none⟩), .int .i64 n] w fun e w' => e = .returned (.int .i64 bs.length) ∧ ∃ xs, xs.length = n ∧ Lib.IsBuffer 85 5 B b (bs ++ xs) w' ∧ Below B w w' ∧ Lib.OthersKept 5 (some b) w w' := Any.Buffer_grow_kept Tryz.laysM252 B b n bs w h hnr hBw h1 hlim
def Tryz.laysM184_ren : Go.Shelf.Ren := ⟨fun | 184 => 71 | n => n, fun | 130 => 152 | 0 => 0 | 93 => 85 | 37 => 81 | 3 => 3 | 91 => 83 | 5 => 5 | n => n, fun | n => n⟩
theorem Tryz.laysM184 : Go.Proofs.LaysM.n184 Tryz.prog Tryz.laysM184_ren := {
  mixed := by kernel_rfl
  f184 := Tryz.func71.trans (congrArg some (by kernel_rfl))
  t0 := Tryz.underlying0
  a0 := Tryz.isAgg0
  z0 := Tryz.sizeOf0
  v0 := Tryz.zeroValue0
  t3 := Tryz.underlying3
  a3 := Tryz.isAgg3
  z3 := Tryz.sizeOf3
  v3 := Tryz.zeroValue3
  t37 := Tryz.underlying81
  a37 := Tryz.isAgg81
  z37 := Tryz.sizeOf81
  v37 := Tryz.zeroValue81
  t91 := Tryz.underlying83
  a91 := Tryz.isAgg83
  z91 := Tryz.sizeOf83
  v91 := Tryz.zeroValue83
  t93 := Tryz.underlying85
  a93 := Tryz.isAgg85
  z93 := Tryz.sizeOf85
  v93 := Tryz.zeroValue85
  t130 := Tryz.underlying152
  a130 := Tryz.isAgg152
  z130 := Tryz.sizeOf152
  v130 := Tryz.zeroValue152
  t5 := Tryz.underlying5
  a5 := Tryz.isAgg5
  z5 := Tryz.sizeOf5
  v5 := Tryz.zeroValue5
  i0 := by kernel_rfl
  i3 := by kernel_rfl
  i5 := by kernel_rfl
  i37 := by kernel_rfl
  i91 := by kernel_rfl
  i93 := by kernel_rfl
  i130 := by kernel_rfl }
open Go.RowKit in
theorem Tryz.Buffer_Reset_kept (B b : Nat) (bs : List Value) (w : World) (h : Lib.IsBuffer 85 5 B b bs w) :
    Calls Tryz.prog 71 #[.pointer (some ⟨b, 0, none⟩)] w fun e w' => e = .returned (.tuple #[]) ∧ Lib.IsBuffer 85 5 B b [] w' ∧ Below B w w' ∧ Lib.OthersKept 5 (some b) w w' := Any.Buffer_Reset_kept Tryz.laysM184 B b bs w h
open Go.RowKit in
theorem Tryz.Buffer_Write_kept (B b : Nat) (bs cs : List Value) (a : Addr) (n c : Nat) (w : World) (h : Lib.IsBuffer 85 5 B b bs w) (hBw : B ≤ w.heap.size) (h1 : ∀ v ∈ bs, v.oneCell' = true) (hn : cs.length = n) (haB : a.block < B) (hsrc : ∀ j v, cs[j]? = some v → w.cell? (a.add j) = some v) (h1c : ∀ v ∈ cs, v.oneCell' = true) (hlim : bs.length + n ≤ 140737488355328) :
    Calls Tryz.prog 81 #[.pointer (some ⟨b, 0, none⟩), .slice (some a) n c] w fun e w' => e = .returned (.tuple #[.int .i64 n, .nilIface]) ∧ Lib.IsBuffer 85 5 B b (bs ++ cs) w' ∧ Below B w w' ∧ Lib.OthersKept 5 (some b) w w' := Any.Buffer_Write_kept Tryz.laysM180 B b bs cs a n c w h hBw h1 hn haB hsrc h1c hlim
open Go.RowKit in
theorem Tryz.Buffer_Write_k (B b : Nat) (bs cs : List Value) (a : Addr) (n c : Nat) (w : World) (h : Lib.IsBuffer 85 5 B b bs w) (hBw : B ≤ w.heap.size) (h1 : ∀ v ∈ bs, v.oneCell' = true) (hn : cs.length = n) (haB : a.block < B) (hsrc : ∀ j v, cs[j]? = some v → w.cell? (a.add j) = some v) (h1c : ∀ v ∈ cs, v.oneCell' = true) (hlim : bs.length + n ≤ 140737488355328) :
    Calls Tryz.prog 81 #[.pointer (some ⟨b, 0, none⟩), .slice (some a) n c] w fun e w' => e = .returned (.tuple #[.int .i64 n, .nilIface]) ∧ Lib.IsBuffer 85 5 B b (bs ++ cs) w' ∧ Below B w w' ∧ Lib.OthersKept 5 (some b) w w' := Any.Buffer_Write_k Tryz.laysM180 B b bs cs a n c w h hBw h1 hn haB hsrc h1c hlim
open Go.RowKit in
theorem Tryz.Buffer_Reset_k (B b : Nat) (bs : List Value) (w : World) (h : Lib.IsBuffer 85 5 B b bs w) :
    Calls Tryz.prog 71 #[.pointer (some ⟨b, 0, none⟩)] w fun e w' => e = .returned (.tuple #[]) ∧ Lib.IsBuffer 85 5 B b [] w' ∧ Below B w w' ∧ Lib.OthersKept 5 (some b) w w' := Any.Buffer_Reset_k Tryz.laysM184 B b bs w h
open Go.RowKit in
theorem Tryz.Buffer_grow_row0_own (B b g cap n : Nat) (lr : Int) (cur : Array Value) (bs : List Value) (w : World) (hB : B ≤ b) (hBw : B ≤ w.heap.size) (hbk : w.heap[b]? = some (.cells #[.slice (some ⟨g, 0, none⟩) 0 cap, .int .i64 0, .int .i8 lr] 85 (0, 0))) (hl : bs.length = 0) (hBg : B ≤ g) (hg : w.heap[g]? = some (.cells cur 5 (0, 0))) (hlc : 0 ≤ cap) (hcm : cap ≤ maxLen) (hcs : cur.size = cap) (htake : cur.toList.take 0 = bs) (hgb : g ≠ b) (h1 : ∀ v ∈ bs, v.oneCell' = true) (hn : 1 ≤ n) (hroom : cap - 0 < n) (hlim : 0 + n ≤ 140737488355328) :
    Calls Tryz.prog 96 #[.pointer (some ⟨b, 0, none⟩), .int .i64 n] w fun e w' => e = .returned (.int .i64 0) ∧ ∃ xs, xs.length = n ∧ Lib.IsBuffer 85 5 B b (bs ++ xs) w' ∧ Below B w w' ∧ Lib.OthersKept 5 (some b) w w' ∧ w.grownBy w' (some b) := Any.Buffer_grow_row0_own Tryz.laysM252 B b g cap n lr cur bs w hB hBw hbk hl hBg hg hlc hcm hcs htake hgb h1 hn hroom hlim
open Go.RowKit in
theorem Tryz.Buffer_grow_row_own (B b g l cap n : Nat) (lr : Int) (cur : Array Value) (bs : List Value) (w : World) (hB : B ≤ b) (hBw : B ≤ w.heap.size) (hbk : w.heap[b]? = some (.cells #[.slice (some ⟨g, 0, none⟩) l cap, .int .i64 0, .int .i8 lr] 85 (0, 0))) (hl : bs.length = l) (hBg : B ≤ g) (hg : w.heap[g]? = some (.cells cur 5 (0, 0))) (hlc : l ≤ cap) (hcm : cap ≤ maxLen) (hcs : cur.size = cap) (htake : cur.toList.take l = bs) (hgb : g ≠ b) (h1 : ∀ v ∈ bs, v.oneCell' = true) (hn : 1 ≤ n) (hroom : cap - l < n) (hlim : l + n ≤ 140737488355328) :
    Calls Tryz.prog 96 #[.pointer (some ⟨b, 0, none⟩), .int .i64 n] w fun e w' => e = .returned (.int .i64 l) ∧ ∃ xs, xs.length = n ∧ Lib.IsBuffer 85 5 B b (bs ++ xs) w' ∧ Below B w w' ∧ Lib.OthersKept 5 (some b) w w' ∧ w.grownBy w' (some b) := Any.Buffer_grow_row_own Tryz.laysM252 B b g l cap n lr cur bs w hB hBw hbk hl hBg hg hlc hcm hcs htake hgb h1 hn hroom hlim
open Go.RowKit in
theorem Tryz.Buffer_grow_nil_small_own (B b n : Nat) (lr : Int) (w : World) (hB : B ≤ b) (hBw : B ≤ w.heap.size) (hbk : w.heap[b]? = some (.cells #[.slice none 0 0, .int .i64 0, .int .i8 lr] 85 (0, 0))) (hn : 1 ≤ n) (h64 : n ≤ 64) :
    Calls Tryz.prog 96 #[.pointer (some ⟨b, 0, none⟩), .int .i64 n] w fun e w' => e = .returned (.int .i64 0) ∧ ∃ xs, xs.length = n ∧ Lib.IsBuffer 85 5 B b xs w' ∧ Below B w w' ∧ Lib.OthersKept 5 (some b) w w' ∧ w.grownBy w' (some b) := Any.Buffer_grow_nil_small_own Tryz.laysM252 B b n lr w hB hBw hbk hn h64
open Go.RowKit in
theorem Tryz.Buffer_grow_nil_big_own (B b n : Nat) (lr : Int) (w : World) (hB : B ≤ b) (hBw : B ≤ w.heap.size) (hbk : w.heap[b]? = some (.cells #[.slice none 0 0, .int .i64 0, .int .i8 lr] 85 (0, 0))) (h64 : 64 < n) (hlim : n ≤ 140737488355328) :
    Calls Tryz.prog 96 #[.pointer (some ⟨b, 0, none⟩), .int .i64 n] w fun e w' => e = .returned (.int .i64 0) ∧ ∃ xs, xs.length = n ∧ Lib.IsBuffer 85 5 B b xs w' ∧ Below B w w' ∧ Lib.OthersKept 5 (some b) w w' ∧ w.grownBy w' (some b) := Any.Buffer_grow_nil_big_own Tryz.laysM252 B b n lr w hB hBw hbk h64 hlim
open Go.RowKit in
theorem Tryz.Buffer_tryGrow_own (B b n : Nat) (bs : List Value) (w : World) (h : Lib.IsBuffer 85 5 B b bs w) :
    Calls Tryz.prog 95 #[.pointer (some ⟨b, 0, none⟩), .int .i64 n] w fun e w' =>
      (e = .returned (.tuple #[.int .i64 bs.length, .bool true]) ∧ ∃ xs, xs.length = n ∧ Lib.IsBuffer 85 5 B b (bs ++ xs) w' ∧ Below B w w' ∧ Lib.OthersKept 5 (some b) w w' ∧ w.grownBy w' (some b)) ∨
      (e = .returned (.tuple #[.int .i64 0, .bool false]) ∧ w' = w ∧ Lib.NoRoom b n w) := Any.Buffer_tryGrow_own Tryz.laysM251 B b n bs w h
open Go.RowKit in
theorem Tryz.Buffer_grow_own (B b n : Nat) (bs : List Value) (w : World) (h : Lib.IsBuffer 85 5 B b bs w) (hnr : Lib.NoRoom b n w) (hBw : B ≤ w.heap.size) (h1 : ∀ v ∈ bs, v.oneCell' = true) (hlim : bs.length + n ≤ 140737488355328) :
    Calls Tryz.prog 96 #[.pointer (some ⟨b, 0, none⟩), .int .i64 n] w fun e w' => e = .returned (.int .i64 bs.length) ∧ ∃ xs, xs.length = n ∧ Lib.IsBuffer 85 5 B b (bs ++ xs) w' ∧ Below B w w' ∧ Lib.OthersKept 5 (some b) w w' ∧ w.grownBy w' (some b) := Any.Buffer_grow_own Tryz.laysM252 B b n bs w h hnr hBw h1 hlim
open Go.RowKit in
theorem Tryz.Buffer_Write_any (B b : Nat) (bs cs : List Value) (a : Addr) (n c : Nat) (w : World) (h : Lib.IsBuffer 85 5 B b bs w) (hBw : B ≤ w.heap.size) (h1 : ∀ v ∈ bs, v.oneCell' = true) (hn : cs.length = n) (hab : a.block ≠ b) (hsrc : ∀ j v, cs[j]? = some v → w.cell? (a.add j) = some v) (h1c : ∀ v ∈ cs, v.oneCell' = true) (hlim : bs.length + n ≤ 140737488355328) :
    Calls Tryz.prog 81 #[.pointer (some ⟨b, 0, none⟩), .slice (some a) n c] w fun e w' => e = .returned (.tuple #[.int .i64 n, .nilIface]) ∧ Lib.IsBuffer 85 5 B b (bs ++ cs) w' ∧ Below B w w' ∧ Lib.OthersKept 5 (some b) w w' := Any.Buffer_Write_any Tryz.laysM180 B b bs cs a n c w h hBw h1 hn hab hsrc h1c hlim
open Go.RowKit in
theorem Tryz.Buffer_Len_at (T : TypeId) (R : Nat → Option Value) (B b q : Nat) (bs : List Value) (w : World) (h : LibA.IsBuffer T R 5 B b q bs w) :
    Calls Tryz.prog 80 #[.pointer (some ⟨b, q, none⟩)] w fun e w' => e = .returned (.int .i64 bs.length) ∧ ∃ n, w' = w.drewN n := Any.Buffer_Len_at Tryz.laysM181 T R B b q bs w h
def Tryz.laysM182_ren : Go.Shelf.Ren := ⟨fun | 182 => 82 | n => n, fun | 130 => 152 | 9 => 9 | 4 => 4 | 0 => 0 | 93 => 85 | 37 => 81 | 3 => 3 | 91 => 83 | 5 => 5 | n => n, fun | n => n⟩
theorem Tryz.laysM182 : Go.Proofs.LaysM.n182 Tryz.prog Tryz.laysM182_ren := {
  mixed := by kernel_rfl
  f182 := Tryz.func82.trans (congrArg some (by kernel_rfl))
  t0 := Tryz.underlying0
  a0 := Tryz.isAgg0
  z0 := Tryz.sizeOf0
  v0 := Tryz.zeroValue0
  t3 := Tryz.underlying3
  a3 := Tryz.isAgg3
  z3 := Tryz.sizeOf3
  v3 := Tryz.zeroValue3
  t4 := Tryz.underlying4
  a4 := Tryz.isAgg4
  z4 := Tryz.sizeOf4
  v4 := Tryz.zeroValue4
  t9 := Tryz.underlying9
  a9 := Tryz.isAgg9
  z9 := Tryz.sizeOf9
  v9 := Tryz.zeroValue9
  t37 := Tryz.underlying81
  a37 := Tryz.isAgg81
  z37 := Tryz.sizeOf81
  v37 := Tryz.zeroValue81
  t93 := Tryz.underlying85
  a93 := Tryz.isAgg85
  z93 := Tryz.sizeOf85
  v93 := Tryz.zeroValue85
  t130 := Tryz.underlying152
  a130 := Tryz.isAgg152
  z130 := Tryz.sizeOf152
  v130 := Tryz.zeroValue152
  t5 := Tryz.underlying5
  a5 := Tryz.isAgg5
  z5 := Tryz.sizeOf5
  v5 := Tryz.zeroValue5
  t91 := Tryz.underlying83
  a91 := Tryz.isAgg83
  z91 := Tryz.sizeOf83
  v91 := Tryz.zeroValue83
  i0 := by kernel_rfl
  i3 := by kernel_rfl
  i4 := by kernel_rfl
  i5 := by kernel_rfl
  i9 := by kernel_rfl
  i37 := by kernel_rfl
  i91 := by kernel_rfl
  i93 := by kernel_rfl
  i130 := by kernel_rfl }
open Go.RowKit in
theorem Tryz.Buffer_String_at (T : TypeId) (R : Nat → Option Value) (B b q : Nat) (l : List UInt8) (w : World) (h : LibA.IsBuffer T R 5 B b q (Lib.byteCells l) w) :
    Calls Tryz.prog 82 #[.pointer (some ⟨b, q, none⟩)] w fun e w' => e = .returned (.string ⟨l.toArray⟩) ∧ ∃ n, w' = w.drewN n := Any.Buffer_String_at Tryz.laysM182 T R B b q l w h
open Go.RowKit in
theorem Tryz.Buffer_tryGrow_room_at (b q : Nat) (ao : Option Addr) (l cap n : Nat) (w : World) (c0 : w.cell? ⟨b, q, none⟩ = some (.slice ao l cap)) (f0 : w.frozen? ⟨b, q, none⟩ = false) (hlc : l ≤ cap) (hcap : cap ≤ maxLen) (hn : n ≤ cap - l) :
    Calls Tryz.prog 95 #[.pointer (some ⟨b, q, none⟩), .int .i64 n] w fun e w' => e = .returned (.tuple #[.int .i64 l, .bool true]) ∧ w' = w.setCell ⟨b, q, none⟩ (.slice ao (l + n) cap) := Any.Buffer_tryGrow_room_at Tryz.laysM251 b q ao l cap n w c0 f0 hlc hcap hn
open Go.RowKit in
theorem Tryz.Buffer_tryGrow_none_at (b q : Nat) (ao : Option Addr) (l cap n : Nat) (w : World) (c0 : w.cell? ⟨b, q, none⟩ = some (.slice ao l cap)) (hlc : l ≤ cap) (hcap : cap ≤ maxLen) (hn : cap - l < n) :
    Calls Tryz.prog 95 #[.pointer (some ⟨b, q, none⟩), .int .i64 n] w fun e w' => e = .returned (.tuple #[.int .i64 0, .bool false]) ∧ w' = w := Any.Buffer_tryGrow_none_at Tryz.laysM251 b q ao l cap n w c0 hlc hcap hn
open Go.RowKit in
theorem Tryz.Buffer_grow_row0_at (T : TypeId) (R : Nat → Option Value) (B b q g cap n : Nat) (lr : Int) (cur : Array Value) (bs : List Value) (w : World) (hB : B ≤ b) (hBw : B ≤ w.heap.size) (hbk : LibA.Three w b q T R (.slice (some ⟨g, 0, none⟩) 0 cap) (.int .i64 0) (.int .i8 lr)) (hl : bs.length = 0) (hBg : B ≤ g) (hg : w.heap[g]? = some (.cells cur 5 (0, 0))) (hlc : 0 ≤ cap) (hcm : cap ≤ maxLen) (hcs : cur.size = cap) (htake : cur.toList.take 0 = bs) (hgb : g ≠ b) (h1 : ∀ v ∈ bs, v.oneCell' = true) (hn : 1 ≤ n) (hroom : cap - 0 < n) (hlim : 0 + n ≤ 140737488355328) :
    Calls Tryz.prog 96 #[.pointer (some ⟨b, q, none⟩), .int .i64 n] w fun e w' => e = .returned (.int .i64 0) ∧ ∃ xs, xs.length = n ∧ LibA.IsBuffer T R 5 B b q (bs ++ xs) w' ∧ Below B w w' ∧ Lib.OthersKept 5 (some b) w w' ∧ w.grownBy w' (some b) := Any.Buffer_grow_row0_at Tryz.laysM252 T R B b q g cap n lr cur bs w hB hBw hbk hl hBg hg hlc hcm hcs htake hgb h1 hn hroom hlim
open Go.RowKit in
theorem Tryz.Buffer_grow_row_at (T : TypeId) (R : Nat → Option Value) (B b q g l cap n : Nat) (lr : Int) (cur : Array Value) (bs : List Value) (w : World) (hB : B ≤ b) (hBw : B ≤ w.heap.size) (hbk : LibA.Three w b q T R (.slice (some ⟨g, 0, none⟩) l cap) (.int .i64 0) (.int .i8 lr)) (hl : bs.length = l) (hBg : B ≤ g) (hg : w.heap[g]? = some (.cells cur 5 (0, 0))) (hlc : l ≤ cap) (hcm : cap ≤ maxLen) (hcs : cur.size = cap) (htake : cur.toList.take l = bs) (hgb : g ≠ b) (h1 : ∀ v ∈ bs, v.oneCell' = true) (hn : 1 ≤ n) (hroom : cap - l < n) (hlim : l + n ≤ 140737488355328) :
    Calls Tryz.prog 96 #[.pointer (some ⟨b, q, none⟩), .int .i64 n] w fun e w' => e = .returned (.int .i64 l) ∧ ∃ xs, xs.length = n ∧ LibA.IsBuffer T R 5 B b q (bs ++ xs) w' ∧ Below B w w' ∧ Lib.OthersKept 5 (some b) w w' ∧ w.grownBy w' (some b) := Any.Buffer_grow_row_at Tryz.laysM252 T R B b q g l cap n lr cur bs w hB hBw hbk hl hBg hg hlc hcm hcs htake hgb h1 hn hroom hlim
open Go.RowKit in
theorem Tryz.Buffer_grow_nil_small_at (T : TypeId) (R : Nat → Option Value) (B b q n : Nat) (lr : Int) (w : World) (hB : B ≤ b) (hBw : B ≤ w.heap.size) (hbk : LibA.Three w b q T R (.slice none 0 0) (.int .i64 0) (.int .i8 lr)) (hn : 1 ≤ n) (h64 : n ≤ 64) :
    Calls Tryz.prog 96 #[.pointer (some ⟨b, q, none⟩), .int .i64 n] w fun e w' => e = .returned (.int .i64 0) ∧ ∃ xs, xs.length = n ∧ LibA.IsBuffer T R 5 B b q xs w' ∧ Below B w w' ∧ Lib.OthersKept 5 (some b) w w' ∧ w.grownBy w' (some b) := Any.Buffer_grow_nil_small_at Tryz.laysM252 T R B b q n lr w hB hBw hbk hn h64
open Go.RowKit in
theorem Tryz.Buffer_grow_nil_big_at (T : TypeId) (R : Nat → Option Value) (B b q n : Nat) (lr : Int) (w : World) (hB : B ≤ b) (hBw : B ≤ w.heap.size) (hbk : LibA.Three w b q T R (.slice none 0 0) (.int .i64 0) (.int .i8 lr)) (h64 : 64 < n) (hlim : n ≤ 140737488355328) :
    Calls Tryz.prog 96 #[.pointer (some ⟨b, q, none⟩), .int .i64 n] w fun e w' => e = .returned (.int .i64 0) ∧ ∃ xs, xs.length = n ∧ LibA.IsBuffer T R 5 B b q xs w' ∧ Below B w w' ∧ Lib.OthersKept 5 (some b) w w' ∧ w.grownBy w' (some b) := Any.Buffer_grow_nil_big_at Tryz.laysM252 T R B b q n lr w hB hBw hbk h64 hlim
open Go.RowKit in
theorem Tryz.Buffer_tryGrow_at (T : TypeId) (R : Nat → Option Value) (B b q n : Nat) (bs : List Value) (w : World) (h : LibA.IsBuffer T R 5 B b q bs w) :
    Calls Tryz.prog 95 #[.pointer (some ⟨b, q, none⟩), .int .i64 n] w fun e w' =>
      (e = .returned (.tuple #[.int .i64 bs.length, .bool true]) ∧ ∃ xs, xs.length = n ∧ LibA.IsBuffer T R 5 B b q (bs ++ xs) w' ∧ Below B w w' ∧ Lib.OthersKept 5 (some b) w w' ∧ w.grownBy w' (some b)) ∨
      (e = .returned (.tuple #[.int .i64 0, .bool false]) ∧ w' = w ∧ LibA.NoRoom b q n w) := Any.Buffer_tryGrow_at Tryz.laysM251 T R B b q n bs w h
open Go.RowKit in
theorem Tryz.Buffer_grow_at (T : TypeId) (R : Nat → Option Value) (B b q n : Nat) (bs : List Value) (w : World) (h : LibA.IsBuffer T R 5 B b q bs w) (hnr : LibA.NoRoom b q n w) (hBw : B ≤ w.heap.size) (h1 : ∀ v ∈ bs, v.oneCell' = true) (hlim : bs.length + n ≤ 140737488355328) :
    Calls Tryz.prog 96 #[.pointer (some ⟨b, q, none⟩), .int .i64 n] w fun e w' => e = .returned (.int .i64 bs.length) ∧ ∃ xs, xs.length = n ∧ LibA.IsBuffer T R 5 B b q (bs ++ xs) w' ∧ Below B w w' ∧ Lib.OthersKept 5 (some b) w w' ∧ w.grownBy w' (some b) := Any.Buffer_grow_at Tryz.laysM252 T R B b q n bs w h hnr hBw h1 hlim
open Go.RowKit in
theorem Tryz.Buffer_Write_at (T : TypeId) (R : Nat → Option Value) (B b q : Nat) (bs cs : List Value) (a : Addr) (n c : Nat) (w : World) (h : LibA.IsBuffer T R 5 B b q bs w) (hBw : B ≤ w.heap.size) (h1 : ∀ v ∈ bs, v.oneCell' = true) (hn : cs.length = n) (hab : a.block ≠ b) (hsrc : ∀ j v, cs[j]? = some v → w.cell? (a.add j) = some v) (h1c : ∀ v ∈ cs, v.oneCell' = true) (hlim : bs.length + n ≤ 140737488355328) :
    Calls Tryz.prog 81 #[.pointer (some ⟨b, q, none⟩), .slice (some a) n c] w fun e w' => e = .returned (.tuple #[.int .i64 n, .nilIface]) ∧ LibA.IsBuffer T R 5 B b q (bs ++ cs) w' ∧ Below B w w' ∧ Lib.OthersKept 5 (some b) w w' := Any.Buffer_Write_at Tryz.laysM180 T R B b q bs cs a n c w h hBw h1 hn hab hsrc h1c hlim
def Tryz.lays197_ren : Go.Shelf.Ren := ⟨fun | 197 => 191 | 260 => 193 | n => n, fun | 9 => 9 | 21 => 21 | 3 => 3 | 4 => 4 | 5 => 5 | 105 => 150 | 119 => 165 | 0 => 0 | 46 => 87 | 139 => 168 | 138 => 167 | n => n, fun | 3 => 3 | 4 => 4 | n => n⟩
theorem Tryz.lays197 : Go.Proofs.Lays.n197 Tryz.prog Tryz.lays197_ren := {
  mixed := by kernel_rfl
  f197 := Tryz.func191.trans (congrArg some (by kernel_rfl))
  f260 := Tryz.func193.trans (congrArg some (by kernel_rfl))
  t0 := Tryz.underlying0
  a0 := Tryz.isAgg0
  z0 := Tryz.sizeOf0
  v0 := Tryz.zeroValue0
  t3 := Tryz.underlying3
  a3 := Tryz.isAgg3
  z3 := Tryz.sizeOf3
  v3 := Tryz.zeroValue3
  t4 := Tryz.underlying4
  a4 := Tryz.isAgg4
  z4 := Tryz.sizeOf4
  v4 := Tryz.zeroValue4
  t5 := Tryz.underlying5
  a5 := Tryz.isAgg5
  z5 := Tryz.sizeOf5
  v5 := Tryz.zeroValue5
  t9 := Tryz.underlying9
  a9 := Tryz.isAgg9
  z9 := Tryz.sizeOf9
  v9 := Tryz.zeroValue9
  t21 := Tryz.underlying21
  a21 := Tryz.isAgg21
  z21 := Tryz.sizeOf21
  v21 := Tryz.zeroValue21
  t46 := Tryz.underlying87
  a46 := Tryz.isAgg87
  z46 := Tryz.sizeOf87
  v46 := Tryz.zeroValue87
  t105 := Tryz.underlying150
  a105 := Tryz.isAgg150
  z105 := Tryz.sizeOf150
  v105 := Tryz.zeroValue150
  t119 := Tryz.underlying165
  a119 := Tryz.isAgg165
  z119 := Tryz.sizeOf165
  t138 := Tryz.underlying167
  a138 := Tryz.isAgg167
  z138 := Tryz.sizeOf167
  v138 := Tryz.zeroValue167
  t139 := Tryz.underlying168
  a139 := Tryz.isAgg168
  z139 := Tryz.sizeOf168
  v139 := Tryz.zeroValue168
  g3 := by kernel_rfl
  g4 := by kernel_rfl }
open Go.RowKit Go.Lib in
theorem Tryz.utf8_DecodeRuneInString_ascii (s : ByteArray) (x : UInt8) (w : World) (h0 : s.data.toList[0]? = some x) (hx : x.toNat < 128) :
    Calls Tryz.prog 191 #[.string s] w fun e w' => e = .returned (.tuple #[.int .i32 x.toNat, .int .i64 1]) ∧ w' = w := Any.utf8_DecodeRuneInString_ascii Tryz.lays197 s x w h0 hx
def Tryz.lays264_ren : Go.Shelf.Ren := ⟨fun | 264 => 145 | n => n, fun | 53 => 76 | 46 => 87 | n => n, fun | n => n⟩
theorem Tryz.lays264 : Go.Proofs.Lays.n264 Tryz.prog Tryz.lays264_ren := {
  mixed := by kernel_rfl
  f264 := Tryz.func145.trans (congrArg some (by kernel_rfl))
  t46 := Tryz.underlying87
  a46 := Tryz.isAgg87
  z46 := Tryz.sizeOf87
  v46 := Tryz.zeroValue87
  t53 := Tryz.underlying76
  a53 := Tryz.isAgg76
  z53 := Tryz.sizeOf76
  v53 := Tryz.zeroValue76 }
open Go.RowKit Go.Lib in
theorem Tryz.bits_Mul64 (x y : Nat) (hx : x < 18446744073709551616) (hy : y < 18446744073709551616) (w : World) :
    Calls Tryz.prog 145 #[.int .u64 x, .int .u64 y] w fun e w' => e = .returned (.tuple #[.int .u64 ((x * y / 18446744073709551616 : Nat) : Int), .int .u64 ((x * y % 18446744073709551616 : Nat) : Int)]) ∧ w' = w := Any.bits_Mul64 Tryz.lays264 x y hx hy w
def Tryz.lays260_ren : Go.Shelf.Ren := ⟨fun | 260 => 193 | n => n, fun | 9 => 9 | 21 => 21 | 3 => 3 | 4 => 4 | 5 => 5 | 119 => 165 | 0 => 0 | 46 => 87 | 139 => 168 | 138 => 167 | n => n, fun | 3 => 3 | 4 => 4 | n => n⟩
theorem Tryz.lays260 : Go.Proofs.Lays.n260 Tryz.prog Tryz.lays260_ren := {
  mixed := by kernel_rfl
  f260 := Tryz.func193.trans (congrArg some (by kernel_rfl))
  t0 := Tryz.underlying0
  a0 := Tryz.isAgg0
  z0 := Tryz.sizeOf0
  v0 := Tryz.zeroValue0
  t3 := Tryz.underlying3
  a3 := Tryz.isAgg3
  z3 := Tryz.sizeOf3
  v3 := Tryz.zeroValue3
  t4 := Tryz.underlying4
  a4 := Tryz.isAgg4
  z4 := Tryz.sizeOf4
  v4 := Tryz.zeroValue4
  t5 := Tryz.underlying5
  a5 := Tryz.isAgg5
  z5 := Tryz.sizeOf5
  v5 := Tryz.zeroValue5
  t9 := Tryz.underlying9
  a9 := Tryz.isAgg9
  z9 := Tryz.sizeOf9
  v9 := Tryz.zeroValue9
  t21 := Tryz.underlying21
  a21 := Tryz.isAgg21
  z21 := Tryz.sizeOf21
  v21 := Tryz.zeroValue21
  t46 := Tryz.underlying87
  a46 := Tryz.isAgg87
  z46 := Tryz.sizeOf87
  v46 := Tryz.zeroValue87
  t119 := Tryz.underlying165
  a119 := Tryz.isAgg165
  z119 := Tryz.sizeOf165
  t138 := Tryz.underlying167
  a138 := Tryz.isAgg167
  z138 := Tryz.sizeOf167
  v138 := Tryz.zeroValue167
  t139 := Tryz.underlying168
  a139 := Tryz.isAgg168
  z139 := Tryz.sizeOf168
  v139 := Tryz.zeroValue168
  g3 := by kernel_rfl
  g4 := by kernel_rfl }
open Go.RowKit Go.Lib in
theorem Tryz.utf8_decodeRuneInStringSlow (s : ByteArray) (w : World) (hT : Lib.Utf8Tabs 3 4 w) :
    Calls Tryz.prog 193 #[.string s] w fun e w' => e = .returned (.tuple #[.int .i32 (Lib.decodeGo s).1, .int .i64 (Lib.decodeGo s).2]) ∧ Below w.heap.size w w' := Any.utf8_decodeRuneInStringSlow Tryz.lays260 s w hT
open Go.RowKit Go.Lib in
theorem Tryz.utf8_DecodeRuneInString (s : ByteArray) (w : World) (hT : Lib.Utf8Tabs 3 4 w) :
    Calls Tryz.prog 191 #[.string s] w fun e w' => e = .returned (.tuple #[.int .i32 (Lib.decodeGo s).1, .int .i64 (Lib.decodeGo s).2]) ∧ Below w.heap.size w w' := Any.utf8_DecodeRuneInString Tryz.lays197 s w hT
end Go.Proofs
