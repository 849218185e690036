/-
  DERIVED: THE SHELF's CONTRACTS AT THIS DUMP, IN PLAIN WORDS (tools/lay-plain.mjs out of 'Qxb6614942aDoorShelf.lean', which tools/lay-shelf.mjs wrote): THE SAME DECLARATIONS UNDER THE SAME NAMES: 'import', 'namespace', 'open', 'def', 'theorem' AND NOTHING ELSE: no command of the shelf's: FOR A HAND-IN. Each laying: the table of numbers ('.._ren') and one theorem, a field a fact of the dump's own or the kernel's comparison; each contract: ONE APPLICATION.
-/
import Derived.Shelf.Small.Utf8
import Derived.Shelf.Utf8.AppendRune
import Derived.Shelf.Strconv.Bsearch
import Derived.Shelf.Strconv.IsPrint
import Derived.Shelf.Strconv.IsPrint16
import Derived.Shelf.Strconv.IsPrint32
import Derived.Shelf.Strconv.Escaped
import Derived.Shelf.Strconv.Quoted
import Derived.Shelf.Strconv.Quote
import Derived.Shelf.LaysM
import Derived.Shelf.Bytes.Len
import Derived.Shelf.Bytes.TryGrow
import Derived.Shelf.Bytes.GrowSliceCatch
import Derived.Shelf.Bytes.GrowSlice
import Derived.Shelf.Bytes.GrowRow0
import Derived.Shelf.Bytes.GrowNil
import Derived.Shelf.Unicode.DecodeSlow
import Derived.Shelf.Unicode.DecodeAny
import Derived.Test.Qxb6614942aDoorProg
namespace Go.Proofs
open Go.Shelf
def Tryd.lays119_ren : Go.Shelf.Ren := ⟨fun | 119 => 37 | n => n, fun | 21 => 21 | 4 => 4 | n => n, fun | n => n⟩
theorem Tryd.lays119 : Go.Proofs.Lays.n119 Tryd.prog Tryd.lays119_ren := {
  mixed := by kernel_rfl
  f119 := Tryd.func37.trans (congrArg some (by kernel_rfl))
  t4 := Tryd.underlying4
  a4 := Tryd.isAgg4
  z4 := Tryd.sizeOf4
  v4 := Tryd.zeroValue4
  t21 := Tryd.underlying21
  a21 := Tryd.isAgg21
  z21 := Tryd.sizeOf21
  v21 := Tryd.zeroValue21 }
theorem Tryd.utf8_ValidRune (r : Int) (w : World) :
    Calls Tryd.prog 37 #[.int .i32 r] w fun e w' => e = .returned (.bool (Lib.validRune r)) ∧ w' = w := Any.utf8_ValidRune Tryd.lays119 r w
def Tryd.lays278_ren : Go.Shelf.Ren := ⟨fun | 278 => 40 | n => n, fun | 37 => 22 | 21 => 21 | 51 => 80 | 4 => 4 | 46 => 68 | 5 => 5 | n => n, fun | n => n⟩
theorem Tryd.lays278 : Go.Proofs.Lays.n278 Tryd.prog Tryd.lays278_ren := {
  mixed := by kernel_rfl
  f278 := Tryd.func40.trans (congrArg some (by kernel_rfl))
  t4 := Tryd.underlying4
  a4 := Tryd.isAgg4
  z4 := Tryd.sizeOf4
  v4 := Tryd.zeroValue4
  t5 := Tryd.underlying5
  a5 := Tryd.isAgg5
  z5 := Tryd.sizeOf5
  v5 := Tryd.zeroValue5
  t21 := Tryd.underlying21
  a21 := Tryd.isAgg21
  z21 := Tryd.sizeOf21
  v21 := Tryd.zeroValue21
  t37 := Tryd.underlying22
  a37 := Tryd.isAgg22
  z37 := Tryd.sizeOf22
  v37 := Tryd.zeroValue22
  t46 := Tryd.underlying68
  a46 := Tryd.isAgg68
  z46 := Tryd.sizeOf68
  v46 := Tryd.zeroValue68
  t51 := Tryd.underlying80
  a51 := Tryd.isAgg80
  z51 := Tryd.sizeOf80
  v51 := Tryd.zeroValue80 }
open Go.RowKit in
theorem Tryd.utf8_appendRuneNonASCII_row (B : Nat) (v : Value) (n : Nat) (xs : List Value) (r : Int) (hr0 : -2147483648 ≤ r) (hr1 : r ≤ 2147483647) (hna : r < 0 ∨ 128 ≤ r) (w : World) (hown : w.ownsRowF B 5 1 v n xs) (hlen : n + 4 ≤ 140737488355328) (hBw : B ≤ w.heap.size) :
    Calls Tryd.prog 40 #[v, .int .i32 r] w fun e w' => ∃ v', e = .returned v' ∧ w'.ownsRowF B 5 1 v' (n + (Lib.runeCells r).length) (xs ++ Lib.runeCells r) ∧ ∃ o, (w.alloc o).grownBy w' v.ownBlock := Any.utf8_appendRuneNonASCII_row Tryd.lays278 (by kernel_rfl) B v n xs r hr0 hr1 hna w hown hlen hBw
def Tryd.lays242_ren : Go.Shelf.Ren := ⟨fun | 242 => 36 | 278 => 40 | n => n, fun | 37 => 22 | 21 => 21 | 51 => 80 | 4 => 4 | 5 => 5 | 46 => 68 | n => n, fun | n => n⟩
theorem Tryd.lays242 : Go.Proofs.Lays.n242 Tryd.prog Tryd.lays242_ren := {
  mixed := by kernel_rfl
  f242 := Tryd.func36.trans (congrArg some (by kernel_rfl))
  f278 := Tryd.func40.trans (congrArg some (by kernel_rfl))
  t4 := Tryd.underlying4
  a4 := Tryd.isAgg4
  z4 := Tryd.sizeOf4
  v4 := Tryd.zeroValue4
  t5 := Tryd.underlying5
  a5 := Tryd.isAgg5
  z5 := Tryd.sizeOf5
  v5 := Tryd.zeroValue5
  t21 := Tryd.underlying21
  a21 := Tryd.isAgg21
  z21 := Tryd.sizeOf21
  v21 := Tryd.zeroValue21
  t37 := Tryd.underlying22
  a37 := Tryd.isAgg22
  z37 := Tryd.sizeOf22
  v37 := Tryd.zeroValue22
  t46 := Tryd.underlying68
  a46 := Tryd.isAgg68
  z46 := Tryd.sizeOf68
  v46 := Tryd.zeroValue68
  t51 := Tryd.underlying80
  a51 := Tryd.isAgg80
  z51 := Tryd.sizeOf80
  v51 := Tryd.zeroValue80 }
open Go.RowKit in
theorem Tryd.utf8_AppendRune_row (B : Nat) (v : Value) (n : Nat) (xs : List Value) (r : Int) (hr0 : -2147483648 ≤ r) (hr1 : r ≤ 2147483647) (w : World) (hown : w.ownsRowF B 5 1 v n xs) (hlen : n + 4 ≤ 140737488355328) (hBw : B ≤ w.heap.size) :
    Calls Tryd.prog 36 #[v, .int .i32 r] w fun e w' => ∃ v', e = .returned v' ∧ w'.ownsRowF B 5 1 v' (n + (Lib.runeCells r).length) (xs ++ Lib.runeCells r) ∧ ∃ o, (w.alloc o).grownBy w' v.ownBlock := Any.utf8_AppendRune_row Tryd.lays242 (by kernel_rfl) B v n xs r hr0 hr1 w hown hlen hBw
def Tryd.lays345_ren : Go.Shelf.Ren := ⟨fun | 345 => 38 | n => n, fun | 234 => 77 | 49 => 76 | 3 => 3 | 4 => 4 | 46 => 68 | 0 => 0 | n => n, fun | n => n⟩
theorem Tryd.lays345 : Go.Proofs.Lays.n345 Tryd.prog Tryd.lays345_ren := {
  mixed := by kernel_rfl
  f345 := Tryd.func38.trans (congrArg some (by kernel_rfl))
  t0 := Tryd.underlying0
  a0 := Tryd.isAgg0
  z0 := Tryd.sizeOf0
  v0 := Tryd.zeroValue0
  t3 := Tryd.underlying3
  a3 := Tryd.isAgg3
  z3 := Tryd.sizeOf3
  v3 := Tryd.zeroValue3
  t4 := Tryd.underlying4
  a4 := Tryd.isAgg4
  z4 := Tryd.sizeOf4
  v4 := Tryd.zeroValue4
  t46 := Tryd.underlying68
  a46 := Tryd.isAgg68
  z46 := Tryd.sizeOf68
  v46 := Tryd.zeroValue68
  t49 := Tryd.underlying76
  a49 := Tryd.isAgg76
  z49 := Tryd.sizeOf76
  v49 := Tryd.zeroValue76
  t234 := Tryd.underlying77
  a234 := Tryd.isAgg77
  z234 := Tryd.sizeOf77
  v234 := Tryd.zeroValue77 }
open Go.RowKit in
theorem Tryd.strconv_bsearch16 (R o c : Nat) (t : List Nat) (v : Nat) (w : World) (h0 : 0 < t.length) (hn : t.length ≤ 4611686018427387904) (hc : ∀ j, j < t.length → w.cell? ⟨R, o + j, none⟩ = some (.int .u16 (t.getD j 0))) :
    Calls Tryd.prog 38 #[.slice (some ⟨R, o, none⟩) t.length c, .int .u16 v] w fun e w' => e = .returned (.tuple #[.int .i64 (Lib.bsearchI t v), .bool (Lib.bsearchFound t v)]) ∧ ∃ q, w' = w.drewN q := Any.strconv_bsearch16 Tryd.lays345 R o c t v w h0 hn hc
def Tryd.lays346_ren : Go.Shelf.Ren := ⟨fun | 346 => 39 | n => n, fun | 236 => 81 | 51 => 80 | 3 => 3 | 4 => 4 | 46 => 68 | 0 => 0 | n => n, fun | n => n⟩
theorem Tryd.lays346 : Go.Proofs.Lays.n346 Tryd.prog Tryd.lays346_ren := {
  mixed := by kernel_rfl
  f346 := Tryd.func39.trans (congrArg some (by kernel_rfl))
  t0 := Tryd.underlying0
  a0 := Tryd.isAgg0
  z0 := Tryd.sizeOf0
  v0 := Tryd.zeroValue0
  t3 := Tryd.underlying3
  a3 := Tryd.isAgg3
  z3 := Tryd.sizeOf3
  v3 := Tryd.zeroValue3
  t4 := Tryd.underlying4
  a4 := Tryd.isAgg4
  z4 := Tryd.sizeOf4
  v4 := Tryd.zeroValue4
  t46 := Tryd.underlying68
  a46 := Tryd.isAgg68
  z46 := Tryd.sizeOf68
  v46 := Tryd.zeroValue68
  t51 := Tryd.underlying80
  a51 := Tryd.isAgg80
  z51 := Tryd.sizeOf80
  v51 := Tryd.zeroValue80
  t236 := Tryd.underlying81
  a236 := Tryd.isAgg81
  z236 := Tryd.sizeOf81
  v236 := Tryd.zeroValue81 }
open Go.RowKit in
theorem Tryd.strconv_bsearch32 (R o c : Nat) (t : List Nat) (v : Nat) (w : World) (h0 : 0 < t.length) (hn : t.length ≤ 4611686018427387904) (hc : ∀ j, j < t.length → w.cell? ⟨R, o + j, none⟩ = some (.int .u32 (t.getD j 0))) :
    Calls Tryd.prog 39 #[.slice (some ⟨R, o, none⟩) t.length c, .int .u32 v] w fun e w' => e = .returned (.tuple #[.int .i64 (Lib.bsearchI t v), .bool (Lib.bsearchFound t v)]) ∧ ∃ q, w' = w.drewN q := Any.strconv_bsearch32 Tryd.lays346 R o c t v w h0 hn hc
def Tryd.lays339_ren : Go.Shelf.Ren := ⟨fun | 339 => 34 | 345 => 38 | 346 => 39 | n => n, fun | 21 => 21 | 4 => 4 | 49 => 76 | 234 => 77 | 131 => 78 | 3 => 3 | 0 => 0 | 51 => 80 | 236 => 81 | 46 => 68 | n => n, fun | 20 => 4 | 21 => 5 | 22 => 6 | 23 => 7 | n => n⟩
theorem Tryd.lays339 : Go.Proofs.Lays.n339 Tryd.prog Tryd.lays339_ren := {
  mixed := by kernel_rfl
  f339 := Tryd.func34.trans (congrArg some (by kernel_rfl))
  f345 := Tryd.func38.trans (congrArg some (by kernel_rfl))
  f346 := Tryd.func39.trans (congrArg some (by kernel_rfl))
  t0 := Tryd.underlying0
  a0 := Tryd.isAgg0
  z0 := Tryd.sizeOf0
  v0 := Tryd.zeroValue0
  t3 := Tryd.underlying3
  a3 := Tryd.isAgg3
  z3 := Tryd.sizeOf3
  v3 := Tryd.zeroValue3
  t4 := Tryd.underlying4
  a4 := Tryd.isAgg4
  z4 := Tryd.sizeOf4
  v4 := Tryd.zeroValue4
  t21 := Tryd.underlying21
  a21 := Tryd.isAgg21
  z21 := Tryd.sizeOf21
  v21 := Tryd.zeroValue21
  t46 := Tryd.underlying68
  a46 := Tryd.isAgg68
  z46 := Tryd.sizeOf68
  v46 := Tryd.zeroValue68
  t49 := Tryd.underlying76
  a49 := Tryd.isAgg76
  z49 := Tryd.sizeOf76
  v49 := Tryd.zeroValue76
  t51 := Tryd.underlying80
  a51 := Tryd.isAgg80
  z51 := Tryd.sizeOf80
  v51 := Tryd.zeroValue80
  t131 := Tryd.underlying78
  a131 := Tryd.isAgg78
  z131 := Tryd.sizeOf78
  v131 := Tryd.zeroValue78
  t234 := Tryd.underlying77
  a234 := Tryd.isAgg77
  z234 := Tryd.sizeOf77
  v234 := Tryd.zeroValue77
  t236 := Tryd.underlying81
  a236 := Tryd.isAgg81
  z236 := Tryd.sizeOf81
  v236 := Tryd.zeroValue81
  g20 := by kernel_rfl
  g21 := by kernel_rfl
  g22 := by kernel_rfl
  g23 := by kernel_rfl }
open Go.RowKit in
theorem Tryd.strconv_IsPrint_latin (r : Int) (w : World) (hr : r ≤ 255) :
    Calls Tryd.prog 34 #[.int .i32 r] w fun e w' => e = .returned (.bool (Lib.isPrintLatin r)) ∧ w' = w := Any.strconv_IsPrint_latin Tryd.lays339 r w hr
open Go.RowKit in
theorem Tryd.strconv_IsPrint_16 (T : Lib.PrintTabs) (r : Nat) (w : World) (h1 : 255 < r) (h2 : r < 65536) (hT : Lib.PrintTabsAt 4 5 6 7 T w) :
    Calls Tryd.prog 34 #[.int .i32 r] w fun e w' => e = .returned (.bool (Lib.isPrintR T r)) ∧ ∃ q, w' = w.drewN q := Any.strconv_IsPrint_16 Tryd.lays339 T r w h1 h2 hT
open Go.RowKit in
theorem Tryd.strconv_IsPrint_32 (T : Lib.PrintTabs) (r : Nat) (w : World) (h1 : 65535 < r) (h2 : r < 2147483648) (hT : Lib.PrintTabsAt 4 5 6 7 T w) :
    Calls Tryd.prog 34 #[.int .i32 r] w fun e w' => e = .returned (.bool (Lib.isPrintR T r)) ∧ ∃ q, w' = w.drewN q := Any.strconv_IsPrint_32 Tryd.lays339 T r w h1 h2 hT
open Go.RowKit in
theorem Tryd.strconv_IsPrint (T : Lib.PrintTabs) (r : Int) (w : World) (hlo : -2147483648 ≤ r) (hhi : r ≤ 2147483647) (hT : Lib.PrintTabsAt 4 5 6 7 T w) :
    Calls Tryd.prog 34 #[.int .i32 r] w fun e w' => e = .returned (.bool (Lib.isPrintR T r)) ∧ ∃ q, w' = w.drewN q := Any.strconv_IsPrint Tryd.lays339 T r w hlo hhi hT
def Tryd.lays323_ren : Go.Shelf.Ren := ⟨fun | 323 => 32 | 339 => 34 | 340 => 35 | 242 => 36 | 119 => 37 | 345 => 38 | 346 => 39 | 278 => 40 | n => n, fun | 37 => 22 | 21 => 21 | 5 => 5 | 4 => 4 | 9 => 9 | 46 => 68 | 3 => 3 | 49 => 76 | 234 => 77 | 131 => 78 | 0 => 0 | 51 => 80 | 236 => 81 | n => n, fun | 20 => 4 | 21 => 5 | 22 => 6 | 23 => 7 | 24 => 8 | n => n⟩
theorem Tryd.lays323 : Go.Proofs.Lays.n323 Tryd.prog Tryd.lays323_ren := {
  mixed := by kernel_rfl
  f119 := Tryd.func37.trans (congrArg some (by kernel_rfl))
  f242 := Tryd.func36.trans (congrArg some (by kernel_rfl))
  f278 := Tryd.func40.trans (congrArg some (by kernel_rfl))
  f323 := Tryd.func32.trans (congrArg some (by kernel_rfl))
  f339 := Tryd.func34.trans (congrArg some (by kernel_rfl))
  f340 := Tryd.func35.trans (congrArg some (by kernel_rfl))
  f345 := Tryd.func38.trans (congrArg some (by kernel_rfl))
  f346 := Tryd.func39.trans (congrArg some (by kernel_rfl))
  t0 := Tryd.underlying0
  a0 := Tryd.isAgg0
  z0 := Tryd.sizeOf0
  v0 := Tryd.zeroValue0
  t3 := Tryd.underlying3
  a3 := Tryd.isAgg3
  z3 := Tryd.sizeOf3
  v3 := Tryd.zeroValue3
  t4 := Tryd.underlying4
  a4 := Tryd.isAgg4
  z4 := Tryd.sizeOf4
  v4 := Tryd.zeroValue4
  t5 := Tryd.underlying5
  a5 := Tryd.isAgg5
  z5 := Tryd.sizeOf5
  v5 := Tryd.zeroValue5
  t9 := Tryd.underlying9
  a9 := Tryd.isAgg9
  z9 := Tryd.sizeOf9
  v9 := Tryd.zeroValue9
  t21 := Tryd.underlying21
  a21 := Tryd.isAgg21
  z21 := Tryd.sizeOf21
  v21 := Tryd.zeroValue21
  t37 := Tryd.underlying22
  a37 := Tryd.isAgg22
  z37 := Tryd.sizeOf22
  v37 := Tryd.zeroValue22
  t46 := Tryd.underlying68
  a46 := Tryd.isAgg68
  z46 := Tryd.sizeOf68
  v46 := Tryd.zeroValue68
  t49 := Tryd.underlying76
  a49 := Tryd.isAgg76
  z49 := Tryd.sizeOf76
  v49 := Tryd.zeroValue76
  t51 := Tryd.underlying80
  a51 := Tryd.isAgg80
  z51 := Tryd.sizeOf80
  v51 := Tryd.zeroValue80
  t131 := Tryd.underlying78
  a131 := Tryd.isAgg78
  z131 := Tryd.sizeOf78
  v131 := Tryd.zeroValue78
  t234 := Tryd.underlying77
  a234 := Tryd.isAgg77
  z234 := Tryd.sizeOf77
  v234 := Tryd.zeroValue77
  t236 := Tryd.underlying81
  a236 := Tryd.isAgg81
  z236 := Tryd.sizeOf81
  v236 := Tryd.zeroValue81
  g20 := by kernel_rfl
  g21 := by kernel_rfl
  g22 := by kernel_rfl
  g23 := by kernel_rfl
  g24 := by kernel_rfl }
open Go.RowKit in
theorem Tryd.strconv_appendEscapedRune_quoted (T : Lib.PrintTabs) (B : Nat) (v : Value) (n : Nat) (xs : List Value) (r : Int) (W0 w : World) (hb : Lib.OwnBuf B 5 v n xs W0 w) (hlen : n + 10 ≤ 140737488355328) (hT : Lib.PrintTabsAt 4 5 6 7 T w) (hr0 : 0 ≤ r) (hr1 : r ≤ 2147483647) (hq : r = 34 ∨ r = 92) :
    Calls Tryd.prog 32 #[v, .int .i32 r, .int .u8 34, .bool false, .bool false] w fun e w' => ∃ v', e = .returned v' ∧ Lib.OwnBuf B 5 v' (n + (Lib.escRune T r).length) (xs ++ Lib.intCells (Lib.escRune T r)) W0 w' := Any.strconv_appendEscapedRune_quoted Tryd.lays323 (by kernel_rfl) T B v n xs r W0 w hb hlen hT hr0 hr1 hq
open Go.RowKit in
theorem Tryd.strconv_appendEscapedRune_printable (T : Lib.PrintTabs) (B : Nat) (v : Value) (n : Nat) (xs : List Value) (r : Int) (W0 w : World) (hb : Lib.OwnBuf B 5 v n xs W0 w) (hlen : n + 10 ≤ 140737488355328) (hT : Lib.PrintTabsAt 4 5 6 7 T w) (hr0 : 0 ≤ r) (hr1 : r ≤ 2147483647) (hq1 : r ≠ 34) (hq2 : r ≠ 92) (hp : Lib.isPrintR T r = true) :
    Calls Tryd.prog 32 #[v, .int .i32 r, .int .u8 34, .bool false, .bool false] w fun e w' => ∃ v', e = .returned v' ∧ Lib.OwnBuf B 5 v' (n + (Lib.escRune T r).length) (xs ++ Lib.intCells (Lib.escRune T r)) W0 w' := Any.strconv_appendEscapedRune_printable Tryd.lays323 (by kernel_rfl) T B v n xs r W0 w hb hlen hT hr0 hr1 hq1 hq2 hp
open Go.RowKit in
theorem Tryd.strconv_appendEscapedRune_named (T : Lib.PrintTabs) (B : Nat) (v : Value) (n : Nat) (xs : List Value) (r : Int) (W0 w : World) (hb : Lib.OwnBuf B 5 v n xs W0 w) (hlen : n + 10 ≤ 140737488355328) (hT : Lib.PrintTabsAt 4 5 6 7 T w) (hr0 : 0 ≤ r) (hr1 : r ≤ 2147483647) (hn : r = 7 ∨ r = 8 ∨ r = 12 ∨ r = 10 ∨ r = 13 ∨ r = 9 ∨ r = 11) :
    Calls Tryd.prog 32 #[v, .int .i32 r, .int .u8 34, .bool false, .bool false] w fun e w' => ∃ v', e = .returned v' ∧ Lib.OwnBuf B 5 v' (n + (Lib.escRune T r).length) (xs ++ Lib.intCells (Lib.escRune T r)) W0 w' := Any.strconv_appendEscapedRune_named Tryd.lays323 (by kernel_rfl) T B v n xs r W0 w hb hlen hT hr0 hr1 hn
open Go.RowKit in
theorem Tryd.strconv_appendEscapedRune_hex2 (T : Lib.PrintTabs) (B : Nat) (v : Value) (n : Nat) (xs : List Value) (r : Int) (W0 w : World) (hb : Lib.OwnBuf B 5 v n xs W0 w) (hlen : n + 10 ≤ 140737488355328) (hT : Lib.PrintTabsAt 4 5 6 7 T w) (hr0 : 0 ≤ r) (hr1 : r ≤ 2147483647) (hx : r < 32 ∨ r = 127) (hn : ¬ (r = 7 ∨ r = 8 ∨ r = 12 ∨ r = 10 ∨ r = 13 ∨ r = 9 ∨ r = 11)) :
    Calls Tryd.prog 32 #[v, .int .i32 r, .int .u8 34, .bool false, .bool false] w fun e w' => ∃ v', e = .returned v' ∧ Lib.OwnBuf B 5 v' (n + (Lib.escRune T r).length) (xs ++ Lib.intCells (Lib.escRune T r)) W0 w' := Any.strconv_appendEscapedRune_hex2 Tryd.lays323 (by kernel_rfl) T B v n xs r W0 w hb hlen hT hr0 hr1 hx hn
open Go.RowKit in
theorem Tryd.strconv_appendEscapedRune_u4 (T : Lib.PrintTabs) (B : Nat) (v : Value) (n : Nat) (xs : List Value) (r : Int) (W0 w : World) (hb : Lib.OwnBuf B 5 v n xs W0 w) (hlen : n + 10 ≤ 140737488355328) (hT : Lib.PrintTabsAt 4 5 6 7 T w) (hr0 : 0 ≤ r) (hr1 : r ≤ 2147483647) (h80 : 128 ≤ r) (hlt : r < 65536) (hv : Lib.validRune r = true) (hp : Lib.isPrintR T r = false) :
    Calls Tryd.prog 32 #[v, .int .i32 r, .int .u8 34, .bool false, .bool false] w fun e w' => ∃ v', e = .returned v' ∧ Lib.OwnBuf B 5 v' (n + (Lib.escRune T r).length) (xs ++ Lib.intCells (Lib.escRune T r)) W0 w' := Any.strconv_appendEscapedRune_u4 Tryd.lays323 (by kernel_rfl) T B v n xs r W0 w hb hlen hT hr0 hr1 h80 hlt hv hp
open Go.RowKit in
theorem Tryd.strconv_appendEscapedRune_u8 (T : Lib.PrintTabs) (B : Nat) (v : Value) (n : Nat) (xs : List Value) (r : Int) (W0 w : World) (hb : Lib.OwnBuf B 5 v n xs W0 w) (hlen : n + 10 ≤ 140737488355328) (hT : Lib.PrintTabsAt 4 5 6 7 T w) (hr0 : 0 ≤ r) (hr1 : r ≤ 2147483647) (h80 : 65536 ≤ r) (hv : Lib.validRune r = true) (hp : Lib.isPrintR T r = false) :
    Calls Tryd.prog 32 #[v, .int .i32 r, .int .u8 34, .bool false, .bool false] w fun e w' => ∃ v', e = .returned v' ∧ Lib.OwnBuf B 5 v' (n + (Lib.escRune T r).length) (xs ++ Lib.intCells (Lib.escRune T r)) W0 w' := Any.strconv_appendEscapedRune_u8 Tryd.lays323 (by kernel_rfl) T B v n xs r W0 w hb hlen hT hr0 hr1 h80 hv hp
open Go.RowKit in
theorem Tryd.strconv_appendEscapedRune (T : Lib.PrintTabs) (B : Nat) (v : Value) (n : Nat) (xs : List Value) (r : Int) (W0 w : World) (hb : Lib.OwnBuf B 5 v n xs W0 w) (hlen : n + 10 ≤ 140737488355328) (hT : Lib.PrintTabsAt 4 5 6 7 T w) (hv : Lib.validRune r = true) :
    Calls Tryd.prog 32 #[v, .int .i32 r, .int .u8 34, .bool false, .bool false] w fun e w' => ∃ v', e = .returned v' ∧ Lib.OwnBuf B 5 v' (n + (Lib.escRune T r).length) (xs ++ Lib.intCells (Lib.escRune T r)) W0 w' := Any.strconv_appendEscapedRune Tryd.lays323 (by kernel_rfl) T B v n xs r W0 w hb hlen hT hv
def Tryd.lays289_ren : Go.Shelf.Ren := ⟨fun | 289 => 30 | 197 => 31 | 323 => 32 | 260 => 33 | 339 => 34 | 340 => 35 | 242 => 36 | 119 => 37 | 345 => 38 | 346 => 39 | 278 => 40 | n => n, fun | 37 => 22 | 9 => 9 | 5 => 5 | 4 => 4 | 3 => 3 | 21 => 21 | 105 => 66 | 46 => 68 | 119 => 72 | 0 => 0 | 139 => 75 | 138 => 74 | 49 => 76 | 234 => 77 | 131 => 78 | 51 => 80 | 236 => 81 | n => n, fun | 3 => 2 | 4 => 3 | 20 => 4 | 21 => 5 | 22 => 6 | 23 => 7 | 24 => 8 | n => n⟩
theorem Tryd.lays289 : Go.Proofs.Lays.n289 Tryd.prog Tryd.lays289_ren := {
  mixed := by kernel_rfl
  f119 := Tryd.func37.trans (congrArg some (by kernel_rfl))
  f197 := Tryd.func31.trans (congrArg some (by kernel_rfl))
  f242 := Tryd.func36.trans (congrArg some (by kernel_rfl))
  f260 := Tryd.func33.trans (congrArg some (by kernel_rfl))
  f278 := Tryd.func40.trans (congrArg some (by kernel_rfl))
  f289 := Tryd.func30.trans (congrArg some (by kernel_rfl))
  f323 := Tryd.func32.trans (congrArg some (by kernel_rfl))
  f339 := Tryd.func34.trans (congrArg some (by kernel_rfl))
  f340 := Tryd.func35.trans (congrArg some (by kernel_rfl))
  f345 := Tryd.func38.trans (congrArg some (by kernel_rfl))
  f346 := Tryd.func39.trans (congrArg some (by kernel_rfl))
  t0 := Tryd.underlying0
  a0 := Tryd.isAgg0
  z0 := Tryd.sizeOf0
  v0 := Tryd.zeroValue0
  t3 := Tryd.underlying3
  a3 := Tryd.isAgg3
  z3 := Tryd.sizeOf3
  v3 := Tryd.zeroValue3
  t4 := Tryd.underlying4
  a4 := Tryd.isAgg4
  z4 := Tryd.sizeOf4
  v4 := Tryd.zeroValue4
  t5 := Tryd.underlying5
  a5 := Tryd.isAgg5
  z5 := Tryd.sizeOf5
  v5 := Tryd.zeroValue5
  t9 := Tryd.underlying9
  a9 := Tryd.isAgg9
  z9 := Tryd.sizeOf9
  v9 := Tryd.zeroValue9
  t21 := Tryd.underlying21
  a21 := Tryd.isAgg21
  z21 := Tryd.sizeOf21
  v21 := Tryd.zeroValue21
  t37 := Tryd.underlying22
  a37 := Tryd.isAgg22
  z37 := Tryd.sizeOf22
  v37 := Tryd.zeroValue22
  t46 := Tryd.underlying68
  a46 := Tryd.isAgg68
  z46 := Tryd.sizeOf68
  v46 := Tryd.zeroValue68
  t49 := Tryd.underlying76
  a49 := Tryd.isAgg76
  z49 := Tryd.sizeOf76
  v49 := Tryd.zeroValue76
  t51 := Tryd.underlying80
  a51 := Tryd.isAgg80
  z51 := Tryd.sizeOf80
  v51 := Tryd.zeroValue80
  t105 := Tryd.underlying66
  a105 := Tryd.isAgg66
  z105 := Tryd.sizeOf66
  v105 := Tryd.zeroValue66
  t119 := Tryd.underlying72
  a119 := Tryd.isAgg72
  z119 := Tryd.sizeOf72
  t131 := Tryd.underlying78
  a131 := Tryd.isAgg78
  z131 := Tryd.sizeOf78
  v131 := Tryd.zeroValue78
  t138 := Tryd.underlying74
  a138 := Tryd.isAgg74
  z138 := Tryd.sizeOf74
  v138 := Tryd.zeroValue74
  t139 := Tryd.underlying75
  a139 := Tryd.isAgg75
  z139 := Tryd.sizeOf75
  v139 := Tryd.zeroValue75
  t234 := Tryd.underlying77
  a234 := Tryd.isAgg77
  z234 := Tryd.sizeOf77
  v234 := Tryd.zeroValue77
  t236 := Tryd.underlying81
  a236 := Tryd.isAgg81
  z236 := Tryd.sizeOf81
  v236 := Tryd.zeroValue81
  g3 := by kernel_rfl
  g4 := by kernel_rfl
  g20 := by kernel_rfl
  g21 := by kernel_rfl
  g22 := by kernel_rfl
  g23 := by kernel_rfl
  g24 := by kernel_rfl }
open Go.RowKit in
theorem Tryd.strconv_appendQuotedWith (T : Lib.PrintTabs) (a : Option Addr) (n c : Nat) (xs : List Value) (s : ByteArray) (W0 w : World) (hb : Lib.OwnBuf W0.heap.size 5 (.slice a n c) n xs W0 w) (hroom : n + s.size ≤ c) (hc : c ≤ 9223372036854775807) (hlen : n + 10 * s.size + 12 ≤ 140737488355328) (hT : Lib.PrintTabsAt 4 5 6 7 T W0) (hU : Lib.Utf8Tabs 2 3 W0) :
    Calls Tryd.prog 30 #[.slice a n c, .string s, .int .u8 34, .bool false, .bool false] w fun e w' => ∃ v', e = .returned v' ∧ Lib.OwnBuf W0.heap.size 5 v' (n + (Lib.quoteZ T s).length) (xs ++ Lib.intCells (Lib.quoteZ T s)) W0 w' := Any.strconv_appendQuotedWith Tryd.lays289 (by kernel_rfl) T a n c xs s W0 w hb hroom hc hlen hT hU
def Tryd.lays250_ren : Go.Shelf.Ren := ⟨fun | 250 => 29 | 289 => 30 | 197 => 31 | 323 => 32 | 260 => 33 | 339 => 34 | 340 => 35 | 242 => 36 | 119 => 37 | 345 => 38 | 346 => 39 | 278 => 40 | n => n, fun | 9 => 9 | 5 => 5 | 4 => 4 | 3 => 3 | 37 => 22 | 21 => 21 | 105 => 66 | 46 => 68 | 119 => 72 | 0 => 0 | 139 => 75 | 138 => 74 | 49 => 76 | 234 => 77 | 131 => 78 | 51 => 80 | 236 => 81 | n => n, fun | 3 => 2 | 4 => 3 | 20 => 4 | 21 => 5 | 22 => 6 | 23 => 7 | 24 => 8 | n => n⟩
theorem Tryd.lays250 : Go.Proofs.Lays.n250 Tryd.prog Tryd.lays250_ren := {
  mixed := by kernel_rfl
  f119 := Tryd.func37.trans (congrArg some (by kernel_rfl))
  f197 := Tryd.func31.trans (congrArg some (by kernel_rfl))
  f242 := Tryd.func36.trans (congrArg some (by kernel_rfl))
  f250 := Tryd.func29.trans (congrArg some (by kernel_rfl))
  f260 := Tryd.func33.trans (congrArg some (by kernel_rfl))
  f278 := Tryd.func40.trans (congrArg some (by kernel_rfl))
  f289 := Tryd.func30.trans (congrArg some (by kernel_rfl))
  f323 := Tryd.func32.trans (congrArg some (by kernel_rfl))
  f339 := Tryd.func34.trans (congrArg some (by kernel_rfl))
  f340 := Tryd.func35.trans (congrArg some (by kernel_rfl))
  f345 := Tryd.func38.trans (congrArg some (by kernel_rfl))
  f346 := Tryd.func39.trans (congrArg some (by kernel_rfl))
  t0 := Tryd.underlying0
  a0 := Tryd.isAgg0
  z0 := Tryd.sizeOf0
  v0 := Tryd.zeroValue0
  t3 := Tryd.underlying3
  a3 := Tryd.isAgg3
  z3 := Tryd.sizeOf3
  v3 := Tryd.zeroValue3
  t4 := Tryd.underlying4
  a4 := Tryd.isAgg4
  z4 := Tryd.sizeOf4
  v4 := Tryd.zeroValue4
  t5 := Tryd.underlying5
  a5 := Tryd.isAgg5
  z5 := Tryd.sizeOf5
  v5 := Tryd.zeroValue5
  t9 := Tryd.underlying9
  a9 := Tryd.isAgg9
  z9 := Tryd.sizeOf9
  v9 := Tryd.zeroValue9
  t21 := Tryd.underlying21
  a21 := Tryd.isAgg21
  z21 := Tryd.sizeOf21
  v21 := Tryd.zeroValue21
  t37 := Tryd.underlying22
  a37 := Tryd.isAgg22
  z37 := Tryd.sizeOf22
  v37 := Tryd.zeroValue22
  t46 := Tryd.underlying68
  a46 := Tryd.isAgg68
  z46 := Tryd.sizeOf68
  v46 := Tryd.zeroValue68
  t49 := Tryd.underlying76
  a49 := Tryd.isAgg76
  z49 := Tryd.sizeOf76
  v49 := Tryd.zeroValue76
  t51 := Tryd.underlying80
  a51 := Tryd.isAgg80
  z51 := Tryd.sizeOf80
  v51 := Tryd.zeroValue80
  t105 := Tryd.underlying66
  a105 := Tryd.isAgg66
  z105 := Tryd.sizeOf66
  v105 := Tryd.zeroValue66
  t119 := Tryd.underlying72
  a119 := Tryd.isAgg72
  z119 := Tryd.sizeOf72
  t131 := Tryd.underlying78
  a131 := Tryd.isAgg78
  z131 := Tryd.sizeOf78
  v131 := Tryd.zeroValue78
  t138 := Tryd.underlying74
  a138 := Tryd.isAgg74
  z138 := Tryd.sizeOf74
  v138 := Tryd.zeroValue74
  t139 := Tryd.underlying75
  a139 := Tryd.isAgg75
  z139 := Tryd.sizeOf75
  v139 := Tryd.zeroValue75
  t234 := Tryd.underlying77
  a234 := Tryd.isAgg77
  z234 := Tryd.sizeOf77
  v234 := Tryd.zeroValue77
  t236 := Tryd.underlying81
  a236 := Tryd.isAgg81
  z236 := Tryd.sizeOf81
  v236 := Tryd.zeroValue81
  g3 := by kernel_rfl
  g4 := by kernel_rfl
  g20 := by kernel_rfl
  g21 := by kernel_rfl
  g22 := by kernel_rfl
  g23 := by kernel_rfl
  g24 := by kernel_rfl }
open Go.RowKit in
theorem Tryd.strconv_quoteWith (T : Lib.PrintTabs) (s : ByteArray) (w : World) (hlen : 10 * s.size + 12 ≤ 140737488355328) (hT : Lib.PrintTabsAt 4 5 6 7 T w) (hU : Lib.Utf8Tabs 2 3 w) :
    Calls Tryd.prog 29 #[.string s, .int .u8 34, .bool false, .bool false] w fun e w' => e = .returned (.string (strOfNums (Lib.quoteZ T s))) ∧ Below w.heap.size w w' := Any.strconv_quoteWith Tryd.lays250 (by kernel_rfl) T s w hlen hT hU
def Tryd.lays177_ren : Go.Shelf.Ren := ⟨fun | 177 => 20 | 250 => 29 | 289 => 30 | 197 => 31 | 323 => 32 | 260 => 33 | 339 => 34 | 340 => 35 | 242 => 36 | 119 => 37 | 345 => 38 | 346 => 39 | 278 => 40 | n => n, fun | 9 => 9 | 5 => 5 | 4 => 4 | 3 => 3 | 37 => 22 | 21 => 21 | 105 => 66 | 46 => 68 | 119 => 72 | 0 => 0 | 139 => 75 | 138 => 74 | 49 => 76 | 234 => 77 | 131 => 78 | 51 => 80 | 236 => 81 | n => n, fun | 3 => 2 | 4 => 3 | 20 => 4 | 21 => 5 | 22 => 6 | 23 => 7 | 24 => 8 | n => n⟩
theorem Tryd.lays177 : Go.Proofs.Lays.n177 Tryd.prog Tryd.lays177_ren := {
  mixed := by kernel_rfl
  f119 := Tryd.func37.trans (congrArg some (by kernel_rfl))
  f177 := Tryd.func20.trans (congrArg some (by kernel_rfl))
  f197 := Tryd.func31.trans (congrArg some (by kernel_rfl))
  f242 := Tryd.func36.trans (congrArg some (by kernel_rfl))
  f250 := Tryd.func29.trans (congrArg some (by kernel_rfl))
  f260 := Tryd.func33.trans (congrArg some (by kernel_rfl))
  f278 := Tryd.func40.trans (congrArg some (by kernel_rfl))
  f289 := Tryd.func30.trans (congrArg some (by kernel_rfl))
  f323 := Tryd.func32.trans (congrArg some (by kernel_rfl))
  f339 := Tryd.func34.trans (congrArg some (by kernel_rfl))
  f340 := Tryd.func35.trans (congrArg some (by kernel_rfl))
  f345 := Tryd.func38.trans (congrArg some (by kernel_rfl))
  f346 := Tryd.func39.trans (congrArg some (by kernel_rfl))
  t0 := Tryd.underlying0
  a0 := Tryd.isAgg0
  z0 := Tryd.sizeOf0
  v0 := Tryd.zeroValue0
  t3 := Tryd.underlying3
  a3 := Tryd.isAgg3
  z3 := Tryd.sizeOf3
  v3 := Tryd.zeroValue3
  t4 := Tryd.underlying4
  a4 := Tryd.isAgg4
  z4 := Tryd.sizeOf4
  v4 := Tryd.zeroValue4
  t5 := Tryd.underlying5
  a5 := Tryd.isAgg5
  z5 := Tryd.sizeOf5
  v5 := Tryd.zeroValue5
  t9 := Tryd.underlying9
  a9 := Tryd.isAgg9
  z9 := Tryd.sizeOf9
  v9 := Tryd.zeroValue9
  t21 := Tryd.underlying21
  a21 := Tryd.isAgg21
  z21 := Tryd.sizeOf21
  v21 := Tryd.zeroValue21
  t37 := Tryd.underlying22
  a37 := Tryd.isAgg22
  z37 := Tryd.sizeOf22
  v37 := Tryd.zeroValue22
  t46 := Tryd.underlying68
  a46 := Tryd.isAgg68
  z46 := Tryd.sizeOf68
  v46 := Tryd.zeroValue68
  t49 := Tryd.underlying76
  a49 := Tryd.isAgg76
  z49 := Tryd.sizeOf76
  v49 := Tryd.zeroValue76
  t51 := Tryd.underlying80
  a51 := Tryd.isAgg80
  z51 := Tryd.sizeOf80
  v51 := Tryd.zeroValue80
  t105 := Tryd.underlying66
  a105 := Tryd.isAgg66
  z105 := Tryd.sizeOf66
  v105 := Tryd.zeroValue66
  t119 := Tryd.underlying72
  a119 := Tryd.isAgg72
  z119 := Tryd.sizeOf72
  t131 := Tryd.underlying78
  a131 := Tryd.isAgg78
  z131 := Tryd.sizeOf78
  v131 := Tryd.zeroValue78
  t138 := Tryd.underlying74
  a138 := Tryd.isAgg74
  z138 := Tryd.sizeOf74
  v138 := Tryd.zeroValue74
  t139 := Tryd.underlying75
  a139 := Tryd.isAgg75
  z139 := Tryd.sizeOf75
  v139 := Tryd.zeroValue75
  t234 := Tryd.underlying77
  a234 := Tryd.isAgg77
  z234 := Tryd.sizeOf77
  v234 := Tryd.zeroValue77
  t236 := Tryd.underlying81
  a236 := Tryd.isAgg81
  z236 := Tryd.sizeOf81
  v236 := Tryd.zeroValue81
  g3 := by kernel_rfl
  g4 := by kernel_rfl
  g20 := by kernel_rfl
  g21 := by kernel_rfl
  g22 := by kernel_rfl
  g23 := by kernel_rfl
  g24 := by kernel_rfl }
open Go.RowKit in
theorem Tryd.strconv_Quote (T : Lib.PrintTabs) (s : ByteArray) (w : World) (hlen : 10 * s.size + 12 ≤ 140737488355328) (hT : Lib.PrintTabsAt 4 5 6 7 T w) (hU : Lib.Utf8Tabs 2 3 w) :
    Calls Tryd.prog 20 #[.string s] w fun e w' => e = .returned (.string (strOfNums (Lib.quoteZ T s))) ∧ Below w.heap.size w w' := Any.strconv_Quote Tryd.lays177 (by kernel_rfl) T s w hlen hT hU
def Tryd.laysM181_ren : Go.Shelf.Ren := ⟨fun | 181 => 62 | n => n, fun | 130 => 29 | 3 => 3 | 0 => 0 | 93 => 53 | 37 => 22 | 91 => 51 | 5 => 5 | n => n, fun | n => n⟩
theorem Tryd.laysM181 : Go.Proofs.LaysM.n181 Tryd.prog Tryd.laysM181_ren := {
  mixed := by kernel_rfl
  f181 := Tryd.func62.trans (congrArg some (by kernel_rfl))
  t0 := Tryd.underlying0
  a0 := Tryd.isAgg0
  z0 := Tryd.sizeOf0
  v0 := Tryd.zeroValue0
  t3 := Tryd.underlying3
  a3 := Tryd.isAgg3
  z3 := Tryd.sizeOf3
  v3 := Tryd.zeroValue3
  t37 := Tryd.underlying22
  a37 := Tryd.isAgg22
  z37 := Tryd.sizeOf22
  v37 := Tryd.zeroValue22
  t93 := Tryd.underlying53
  a93 := Tryd.isAgg53
  z93 := Tryd.sizeOf53
  v93 := Tryd.zeroValue53
  t130 := Tryd.underlying29
  a130 := Tryd.isAgg29
  z130 := Tryd.sizeOf29
  v130 := Tryd.zeroValue29
  t5 := Tryd.underlying5
  a5 := Tryd.isAgg5
  z5 := Tryd.sizeOf5
  v5 := Tryd.zeroValue5
  t91 := Tryd.underlying51
  a91 := Tryd.isAgg51
  z91 := Tryd.sizeOf51
  v91 := Tryd.zeroValue51
  i0 := by kernel_rfl
  i3 := by kernel_rfl
  i5 := by kernel_rfl
  i37 := by kernel_rfl
  i91 := by kernel_rfl
  i93 := by kernel_rfl
  i130 := by kernel_rfl }
open Go.RowKit in
theorem Tryd.Buffer_Len (B b : Nat) (bs : List Value) (w : World) (h : Lib.IsBuffer 53 5 B b bs w) :
    Calls Tryd.prog 62 #[.pointer (some ⟨b, 0, none⟩)] w fun e w' => e = .returned (.int .i64 bs.length) ∧ ∃ n, w' = w.drewN n := Any.Buffer_Len Tryd.laysM181 B b bs w h
def Tryd.laysM251_ren : Go.Shelf.Ren := ⟨fun | 251 => 60 | n => n, fun | 130 => 29 | 3 => 3 | 4 => 4 | 0 => 0 | 93 => 53 | 37 => 22 | 91 => 51 | 5 => 5 | n => n, fun | n => n⟩
theorem Tryd.laysM251 : Go.Proofs.LaysM.n251 Tryd.prog Tryd.laysM251_ren := {
  mixed := by kernel_rfl
  f251 := Tryd.func60.trans (congrArg some (by kernel_rfl))
  t0 := Tryd.underlying0
  a0 := Tryd.isAgg0
  z0 := Tryd.sizeOf0
  v0 := Tryd.zeroValue0
  t3 := Tryd.underlying3
  a3 := Tryd.isAgg3
  z3 := Tryd.sizeOf3
  v3 := Tryd.zeroValue3
  t4 := Tryd.underlying4
  a4 := Tryd.isAgg4
  z4 := Tryd.sizeOf4
  v4 := Tryd.zeroValue4
  t37 := Tryd.underlying22
  a37 := Tryd.isAgg22
  z37 := Tryd.sizeOf22
  v37 := Tryd.zeroValue22
  t93 := Tryd.underlying53
  a93 := Tryd.isAgg53
  z93 := Tryd.sizeOf53
  v93 := Tryd.zeroValue53
  t130 := Tryd.underlying29
  a130 := Tryd.isAgg29
  z130 := Tryd.sizeOf29
  v130 := Tryd.zeroValue29
  t5 := Tryd.underlying5
  a5 := Tryd.isAgg5
  z5 := Tryd.sizeOf5
  v5 := Tryd.zeroValue5
  t91 := Tryd.underlying51
  a91 := Tryd.isAgg51
  z91 := Tryd.sizeOf51
  v91 := Tryd.zeroValue51
  i0 := by kernel_rfl
  i3 := by kernel_rfl
  i4 := by kernel_rfl
  i5 := by kernel_rfl
  i37 := by kernel_rfl
  i91 := by kernel_rfl
  i93 := by kernel_rfl
  i130 := by kernel_rfl }
open Go.RowKit in
theorem Tryd.Buffer_tryGrow_room (b : Nat) (ao : Option Addr) (l cap n : Nat) (w : World) (c0 : w.cell? ⟨b, 0, none⟩ = some (.slice ao l cap)) (f0 : w.frozen? ⟨b, 0, none⟩ = false) (hlc : l ≤ cap) (hcap : cap ≤ maxLen) (hn : n ≤ cap - l) :
    Calls Tryd.prog 60 #[.pointer (some ⟨b, 0, none⟩), .int .i64 n] w fun e w' => e = .returned (.tuple #[.int .i64 l, .bool true]) ∧ w' = w.setCell ⟨b, 0, none⟩ (.slice ao (l + n) cap) := Any.Buffer_tryGrow_room Tryd.laysM251 b ao l cap n w c0 f0 hlc hcap hn
open Go.RowKit in
theorem Tryd.Buffer_tryGrow_none (b : Nat) (ao : Option Addr) (l cap n : Nat) (w : World) (c0 : w.cell? ⟨b, 0, none⟩ = some (.slice ao l cap)) (hlc : l ≤ cap) (hcap : cap ≤ maxLen) (hn : cap - l < n) :
    Calls Tryd.prog 60 #[.pointer (some ⟨b, 0, none⟩), .int .i64 n] w fun e w' => e = .returned (.tuple #[.int .i64 0, .bool false]) ∧ w' = w := Any.Buffer_tryGrow_none Tryd.laysM251 b ao l cap n w c0 hlc hcap hn
def Tryd.laysM324_ren : Go.Shelf.Ren := ⟨fun | 324 => 64 | n => n, fun | 20 => 20 | 4 => 4 | 75 => 33 | 0 => 0 | 80 => 86 | 9 => 9 | n => n, fun | 14 => 9 | n => n⟩
theorem Tryd.laysM324 : Go.Proofs.LaysM.n324 Tryd.prog Tryd.laysM324_ren := {
  mixed := by kernel_rfl
  f324 := Tryd.func64.trans (congrArg some (by kernel_rfl))
  t0 := Tryd.underlying0
  a0 := Tryd.isAgg0
  z0 := Tryd.sizeOf0
  v0 := Tryd.zeroValue0
  t4 := Tryd.underlying4
  a4 := Tryd.isAgg4
  z4 := Tryd.sizeOf4
  v4 := Tryd.zeroValue4
  t20 := Tryd.underlying20
  a20 := Tryd.isAgg20
  z20 := Tryd.sizeOf20
  v20 := Tryd.zeroValue20
  t75 := Tryd.underlying33
  a75 := Tryd.isAgg33
  z75 := Tryd.sizeOf33
  v75 := Tryd.zeroValue33
  g14 := by kernel_rfl
  t9 := Tryd.underlying9
  a9 := Tryd.isAgg9
  z9 := Tryd.sizeOf9
  v9 := Tryd.zeroValue9
  t80 := Tryd.underlying86
  a80 := Tryd.isAgg86
  z80 := Tryd.sizeOf86
  v80 := Tryd.zeroValue86
  i0 := by kernel_rfl
  i4 := by kernel_rfl
  i9 := by kernel_rfl
  i20 := by kernel_rfl
  i75 := by kernel_rfl
  i80 := by kernel_rfl
  m14 := by kernel_rfl }
theorem Tryd.growSlice_catch_idle (w : World) :
    CallsD Tryd.prog 64 #[] .returning w fun e u' w' => e = .returned (.tuple #[]) ∧ u' = .returning ∧ w' = w := Any.growSlice_catch_idle Tryd.laysM324 w
def Tryd.laysM290_ren : Go.Shelf.Ren := ⟨fun | 290 => 63 | 324 => 64 | n => n, fun | 37 => 22 | 3 => 3 | 0 => 0 | 4 => 4 | 20 => 20 | 75 => 33 | 5 => 5 | 80 => 86 | 9 => 9 | n => n, fun | 14 => 9 | n => n⟩
theorem Tryd.laysM290 : Go.Proofs.LaysM.n290 Tryd.prog Tryd.laysM290_ren := {
  mixed := by kernel_rfl
  f290 := Tryd.func63.trans (congrArg some (by kernel_rfl))
  f324 := Tryd.func64.trans (congrArg some (by kernel_rfl))
  t0 := Tryd.underlying0
  a0 := Tryd.isAgg0
  z0 := Tryd.sizeOf0
  v0 := Tryd.zeroValue0
  t3 := Tryd.underlying3
  a3 := Tryd.isAgg3
  z3 := Tryd.sizeOf3
  v3 := Tryd.zeroValue3
  t4 := Tryd.underlying4
  a4 := Tryd.isAgg4
  z4 := Tryd.sizeOf4
  v4 := Tryd.zeroValue4
  t20 := Tryd.underlying20
  a20 := Tryd.isAgg20
  z20 := Tryd.sizeOf20
  v20 := Tryd.zeroValue20
  t37 := Tryd.underlying22
  a37 := Tryd.isAgg22
  z37 := Tryd.sizeOf22
  v37 := Tryd.zeroValue22
  t75 := Tryd.underlying33
  a75 := Tryd.isAgg33
  z75 := Tryd.sizeOf33
  v75 := Tryd.zeroValue33
  g14 := by kernel_rfl
  t5 := Tryd.underlying5
  a5 := Tryd.isAgg5
  z5 := Tryd.sizeOf5
  v5 := Tryd.zeroValue5
  t9 := Tryd.underlying9
  a9 := Tryd.isAgg9
  z9 := Tryd.sizeOf9
  v9 := Tryd.zeroValue9
  t80 := Tryd.underlying86
  a80 := Tryd.isAgg86
  z80 := Tryd.sizeOf86
  v80 := Tryd.zeroValue86
  i0 := by kernel_rfl
  i3 := by kernel_rfl
  i4 := by kernel_rfl
  i5 := by kernel_rfl
  i9 := by kernel_rfl
  i20 := by kernel_rfl
  i37 := by kernel_rfl
  i75 := by kernel_rfl
  i80 := by kernel_rfl
  m14 := by kernel_rfl }
open Go.RowKit in
theorem Tryd.bytes_growSlice_row (g l c n : Nat) (cur : Array Value) (w : World) (hg : w.heap[g]? = some (.cells cur 5 (0, 0))) (hcs : cur.size = c) (hlc : l ≤ c) (hn : 1 ≤ n) (hlim : l + n ≤ 140737488355328) (hc2 : c ≤ 140737488355328) (h1 : ∀ v ∈ cur.toList.take l, v.oneCell' = true) :
    Calls Tryd.prog 63 #[.slice (some ⟨g, 0, none⟩) l c, .int .i64 n] w fun e w' => ∃ cap2 cells, e = .returned (.slice (some ⟨w.heap.size, 0, none⟩) l cap2) ∧ w'.heap[w.heap.size]? = some (.cells cells 5 (0, 0)) ∧
      cells.size = cap2 ∧ cells.toList.take l = cur.toList.take l ∧ l + n ≤ cap2 ∧ cap2 ≤ maxLen ∧ Below w.heap.size w w' := Any.bytes_growSlice_row Tryd.laysM290 g l c n cur w hg hcs hlc hn hlim hc2 h1
open Go.RowKit in
theorem Tryd.bytes_growSlice_nil (n : Nat) (w : World) (hn : 1 ≤ n) (hlim : n ≤ 140737488355328) :
    Calls Tryd.prog 63 #[.slice none 0 0, .int .i64 n] w fun e w' => ∃ cap2 cells, e = .returned (.slice (some ⟨w.heap.size, 0, none⟩) 0 cap2) ∧ w'.heap[w.heap.size]? = some (.cells cells 5 (0, 0)) ∧
      cells.size = cap2 ∧ n ≤ cap2 ∧ cap2 ≤ maxLen ∧ Below w.heap.size w w' := Any.bytes_growSlice_nil Tryd.laysM290 n w hn hlim
def Tryd.laysM252_ren : Go.Shelf.Ren := ⟨fun | 252 => 61 | 181 => 62 | 184 => 56 | 251 => 60 | 290 => 63 | 324 => 64 | n => n, fun | 130 => 29 | 3 => 3 | 4 => 4 | 0 => 0 | 93 => 53 | 131 => 78 | 37 => 22 | 75 => 33 | 91 => 51 | 20 => 20 | 5 => 5 | 80 => 86 | 9 => 9 | n => n, fun | 14 => 9 | n => n⟩
theorem Tryd.laysM252 : Go.Proofs.LaysM.n252 Tryd.prog Tryd.laysM252_ren := {
  mixed := by kernel_rfl
  f181 := Tryd.func62.trans (congrArg some (by kernel_rfl))
  f184 := Tryd.func56.trans (congrArg some (by kernel_rfl))
  f251 := Tryd.func60.trans (congrArg some (by kernel_rfl))
  f252 := Tryd.func61.trans (congrArg some (by kernel_rfl))
  f290 := Tryd.func63.trans (congrArg some (by kernel_rfl))
  f324 := Tryd.func64.trans (congrArg some (by kernel_rfl))
  t0 := Tryd.underlying0
  a0 := Tryd.isAgg0
  z0 := Tryd.sizeOf0
  v0 := Tryd.zeroValue0
  t3 := Tryd.underlying3
  a3 := Tryd.isAgg3
  z3 := Tryd.sizeOf3
  v3 := Tryd.zeroValue3
  t4 := Tryd.underlying4
  a4 := Tryd.isAgg4
  z4 := Tryd.sizeOf4
  v4 := Tryd.zeroValue4
  t20 := Tryd.underlying20
  a20 := Tryd.isAgg20
  z20 := Tryd.sizeOf20
  v20 := Tryd.zeroValue20
  t37 := Tryd.underlying22
  a37 := Tryd.isAgg22
  z37 := Tryd.sizeOf22
  v37 := Tryd.zeroValue22
  t75 := Tryd.underlying33
  a75 := Tryd.isAgg33
  z75 := Tryd.sizeOf33
  v75 := Tryd.zeroValue33
  t91 := Tryd.underlying51
  a91 := Tryd.isAgg51
  z91 := Tryd.sizeOf51
  v91 := Tryd.zeroValue51
  t93 := Tryd.underlying53
  a93 := Tryd.isAgg53
  z93 := Tryd.sizeOf53
  v93 := Tryd.zeroValue53
  t130 := Tryd.underlying29
  a130 := Tryd.isAgg29
  z130 := Tryd.sizeOf29
  v130 := Tryd.zeroValue29
  t131 := Tryd.underlying78
  a131 := Tryd.isAgg78
  z131 := Tryd.sizeOf78
  v131 := Tryd.zeroValue78
  g14 := by kernel_rfl
  t5 := Tryd.underlying5
  a5 := Tryd.isAgg5
  z5 := Tryd.sizeOf5
  v5 := Tryd.zeroValue5
  t9 := Tryd.underlying9
  a9 := Tryd.isAgg9
  z9 := Tryd.sizeOf9
  v9 := Tryd.zeroValue9
  t80 := Tryd.underlying86
  a80 := Tryd.isAgg86
  z80 := Tryd.sizeOf86
  v80 := Tryd.zeroValue86
  i0 := by kernel_rfl
  i3 := by kernel_rfl
  i4 := by kernel_rfl
  i5 := by kernel_rfl
  i9 := by kernel_rfl
  i20 := by kernel_rfl
  i37 := by kernel_rfl
  i75 := by kernel_rfl
  i80 := by kernel_rfl
  i91 := by kernel_rfl
  i93 := by kernel_rfl
  i130 := by kernel_rfl
  i131 := by kernel_rfl
  m14 := by kernel_rfl }
open Go.RowKit in
theorem Tryd.Buffer_grow_row0 (B b g cap n : Nat) (lr : Int) (cur : Array Value) (bs : List Value) (w : World) (hB : B ≤ b) (hBw : B ≤ w.heap.size) (hbk : w.heap[b]? = some (.cells #[.slice (some ⟨g, 0, none⟩) 0 cap, .int .i64 0, .int .i8 lr] 53 (0, 0))) (hl : bs.length = 0) (hBg : B ≤ g) (hg : w.heap[g]? = some (.cells cur 5 (0, 0))) (hlc : 0 ≤ cap) (hcm : cap ≤ maxLen) (hcs : cur.size = cap) (htake : cur.toList.take 0 = bs) (hgb : g ≠ b) (h1 : ∀ v ∈ bs, v.oneCell' = true) (hn : 1 ≤ n) (hroom : cap - 0 < n) (hlim : 0 + n ≤ 140737488355328) :
    Calls Tryd.prog 61 #[.pointer (some ⟨b, 0, none⟩), .int .i64 n] w fun e w' => e = .returned (.int .i64 0) ∧ ∃ xs, xs.length = n ∧ Lib.IsBuffer 53 5 B b (bs ++ xs) w' ∧ Below B w w' := Any.Buffer_grow_row0 Tryd.laysM252 B b g cap n lr cur bs w hB hBw hbk hl hBg hg hlc hcm hcs htake hgb h1 hn hroom hlim
open Go.RowKit in
theorem Tryd.Buffer_grow_nil_small (B b n : Nat) (lr : Int) (w : World) (hB : B ≤ b) (hBw : B ≤ w.heap.size) (hbk : w.heap[b]? = some (.cells #[.slice none 0 0, .int .i64 0, .int .i8 lr] 53 (0, 0))) (hn : 1 ≤ n) (h64 : n ≤ 64) :
    Calls Tryd.prog 61 #[.pointer (some ⟨b, 0, none⟩), .int .i64 n] w fun e w' => e = .returned (.int .i64 0) ∧ ∃ xs, xs.length = n ∧ Lib.IsBuffer 53 5 B b xs w' ∧ Below B w w' := Any.Buffer_grow_nil_small Tryd.laysM252 B b n lr w hB hBw hbk hn h64
open Go.RowKit in
theorem Tryd.Buffer_grow_nil_big (B b n : Nat) (lr : Int) (w : World) (hB : B ≤ b) (hBw : B ≤ w.heap.size) (hbk : w.heap[b]? = some (.cells #[.slice none 0 0, .int .i64 0, .int .i8 lr] 53 (0, 0))) (h64 : 64 < n) (hlim : n ≤ 140737488355328) :
    Calls Tryd.prog 61 #[.pointer (some ⟨b, 0, none⟩), .int .i64 n] w fun e w' => e = .returned (.int .i64 0) ∧ ∃ xs, xs.length = n ∧ Lib.IsBuffer 53 5 B b xs w' ∧ Below B w w' := Any.Buffer_grow_nil_big Tryd.laysM252 B b n lr w hB hBw hbk h64 hlim
def Tryd.lays260_ren : Go.Shelf.Ren := ⟨fun | 260 => 33 | n => n, fun | 9 => 9 | 21 => 21 | 3 => 3 | 4 => 4 | 5 => 5 | 119 => 72 | 0 => 0 | 46 => 68 | 139 => 75 | 138 => 74 | n => n, fun | 3 => 2 | 4 => 3 | n => n⟩
theorem Tryd.lays260 : Go.Proofs.Lays.n260 Tryd.prog Tryd.lays260_ren := {
  mixed := by kernel_rfl
  f260 := Tryd.func33.trans (congrArg some (by kernel_rfl))
  t0 := Tryd.underlying0
  a0 := Tryd.isAgg0
  z0 := Tryd.sizeOf0
  v0 := Tryd.zeroValue0
  t3 := Tryd.underlying3
  a3 := Tryd.isAgg3
  z3 := Tryd.sizeOf3
  v3 := Tryd.zeroValue3
  t4 := Tryd.underlying4
  a4 := Tryd.isAgg4
  z4 := Tryd.sizeOf4
  v4 := Tryd.zeroValue4
  t5 := Tryd.underlying5
  a5 := Tryd.isAgg5
  z5 := Tryd.sizeOf5
  v5 := Tryd.zeroValue5
  t9 := Tryd.underlying9
  a9 := Tryd.isAgg9
  z9 := Tryd.sizeOf9
  v9 := Tryd.zeroValue9
  t21 := Tryd.underlying21
  a21 := Tryd.isAgg21
  z21 := Tryd.sizeOf21
  v21 := Tryd.zeroValue21
  t46 := Tryd.underlying68
  a46 := Tryd.isAgg68
  z46 := Tryd.sizeOf68
  v46 := Tryd.zeroValue68
  t119 := Tryd.underlying72
  a119 := Tryd.isAgg72
  z119 := Tryd.sizeOf72
  t138 := Tryd.underlying74
  a138 := Tryd.isAgg74
  z138 := Tryd.sizeOf74
  v138 := Tryd.zeroValue74
  t139 := Tryd.underlying75
  a139 := Tryd.isAgg75
  z139 := Tryd.sizeOf75
  v139 := Tryd.zeroValue75
  g3 := by kernel_rfl
  g4 := by kernel_rfl }
open Go.RowKit Go.Lib in
theorem Tryd.utf8_decodeRuneInStringSlow (s : ByteArray) (w : World) (hT : Lib.Utf8Tabs 2 3 w) :
    Calls Tryd.prog 33 #[.string s] w fun e w' => e = .returned (.tuple #[.int .i32 (Lib.decodeGo s).1, .int .i64 (Lib.decodeGo s).2]) ∧ Below w.heap.size w w' := Any.utf8_decodeRuneInStringSlow Tryd.lays260 s w hT
def Tryd.lays197_ren : Go.Shelf.Ren := ⟨fun | 197 => 31 | 260 => 33 | n => n, fun | 9 => 9 | 21 => 21 | 3 => 3 | 4 => 4 | 5 => 5 | 105 => 66 | 119 => 72 | 0 => 0 | 46 => 68 | 139 => 75 | 138 => 74 | n => n, fun | 3 => 2 | 4 => 3 | n => n⟩
theorem Tryd.lays197 : Go.Proofs.Lays.n197 Tryd.prog Tryd.lays197_ren := {
  mixed := by kernel_rfl
  f197 := Tryd.func31.trans (congrArg some (by kernel_rfl))
  f260 := Tryd.func33.trans (congrArg some (by kernel_rfl))
  t0 := Tryd.underlying0
  a0 := Tryd.isAgg0
  z0 := Tryd.sizeOf0
  v0 := Tryd.zeroValue0
  t3 := Tryd.underlying3
  a3 := Tryd.isAgg3
  z3 := Tryd.sizeOf3
  v3 := Tryd.zeroValue3
  t4 := Tryd.underlying4
  a4 := Tryd.isAgg4
  z4 := Tryd.sizeOf4
  v4 := Tryd.zeroValue4
  t5 := Tryd.underlying5
  a5 := Tryd.isAgg5
  z5 := Tryd.sizeOf5
  v5 := Tryd.zeroValue5
  t9 := Tryd.underlying9
  a9 := Tryd.isAgg9
  z9 := Tryd.sizeOf9
  v9 := Tryd.zeroValue9
  t21 := Tryd.underlying21
  a21 := Tryd.isAgg21
  z21 := Tryd.sizeOf21
  v21 := Tryd.zeroValue21
  t46 := Tryd.underlying68
  a46 := Tryd.isAgg68
  z46 := Tryd.sizeOf68
  v46 := Tryd.zeroValue68
  t105 := Tryd.underlying66
  a105 := Tryd.isAgg66
  z105 := Tryd.sizeOf66
  v105 := Tryd.zeroValue66
  t119 := Tryd.underlying72
  a119 := Tryd.isAgg72
  z119 := Tryd.sizeOf72
  t138 := Tryd.underlying74
  a138 := Tryd.isAgg74
  z138 := Tryd.sizeOf74
  v138 := Tryd.zeroValue74
  t139 := Tryd.underlying75
  a139 := Tryd.isAgg75
  z139 := Tryd.sizeOf75
  v139 := Tryd.zeroValue75
  g3 := by kernel_rfl
  g4 := by kernel_rfl }
open Go.RowKit Go.Lib in
theorem Tryd.utf8_DecodeRuneInString (s : ByteArray) (w : World) (hT : Lib.Utf8Tabs 2 3 w) :
    Calls Tryd.prog 31 #[.string s] w fun e w' => e = .returned (.tuple #[.int .i32 (Lib.decodeGo s).1, .int .i64 (Lib.decodeGo s).2]) ∧ Below w.heap.size w w' := Any.utf8_DecodeRuneInString Tryd.lays197 s w hT
end Go.Proofs
