/-
  DERIVED: THE SHELF's CONTRACTS AT THIS DUMP, IN PLAIN WORDS (tools/lay-plain.mjs out of 'TryzShelf.lean', which tools/lay-shelf.mjs wrote): THE SAME DECLARATIONS UNDER THE SAME NAMES: 'import', 'namespace', 'open', 'def', 'theorem' AND NOTHING ELSE: no command of the shelf's: FOR A HAND-IN. Each laying: the table of numbers ('.._ren') and one theorem, a field a fact of the dump's own or the kernel's comparison; each contract: ONE APPLICATION.
-/
import Derived.Shelf.Small.Utf8
import Derived.Shelf.Utf8.AppendRune
import Derived.Shelf.Strconv.Bsearch
import Derived.Shelf.Strconv.IsPrint
import Derived.Shelf.Strconv.IsPrint16
import Derived.Shelf.Strconv.IsPrint32
import Derived.Shelf.Strconv.Escaped
import Derived.Shelf.Strconv.Quoted
import Derived.Shelf.Strconv.Quote
import Derived.Shelf.Strconv.Itoa0
import Derived.Shelf.Strconv.Itoa1
import Derived.Shelf.LaysM
import Derived.Shelf.Strconv.Itoa2
import Derived.Shelf.Strconv.Itoa3
import Derived.Shelf.Strconv.Itoa4
import Derived.Shelf.Strconv.Lower
import Derived.Ground.MpProg
import Derived.Shelf.Pu.ParseUintPublic10
import Derived.Shelf.Unicode.Decode
import Derived.Shelf.Bits.Mul64
import Derived.Shelf.Unicode.DecodeSlow
import Derived.Shelf.Unicode.DecodeAny
import Derived.Test.YtlnkieokhefkfaaGreatDoorProg
namespace Go.Proofs
open Go.Shelf
def Tryz.lays119_ren : Go.Shelf.Ren := ⟨fun | 119 => 85 | n => n, fun | 21 => 21 | 4 => 4 | n => n, fun | n => n⟩
theorem Tryz.lays119 : Go.Proofs.Lays.n119 Tryz.prog Tryz.lays119_ren := {
  mixed := by kernel_rfl
  f119 := Tryz.func85.trans (congrArg some (by kernel_rfl))
  t4 := Tryz.underlying4
  a4 := Tryz.isAgg4
  z4 := Tryz.sizeOf4
  v4 := Tryz.zeroValue4
  t21 := Tryz.underlying21
  a21 := Tryz.isAgg21
  z21 := Tryz.sizeOf21
  v21 := Tryz.zeroValue21 }
/-- utf8.ValidRune: "ValidRune reports whether r can be legally encoded as UTF-8. Code points that are out of range or a surrogate half are illegal.": IT RETURNS 'Lib.validRune r'; the world is as it was. (LAID: no walk: one application.) -/
theorem Tryz.utf8_ValidRune (r : Int) (w : World) :
    Calls Tryz.prog 85 #[.int .i32 r] w fun e w' => e = .returned (.bool (Lib.validRune r)) ∧ w' = w := Any.utf8_ValidRune Tryz.lays119 r w
def Tryz.lays278_ren : Go.Shelf.Ren := ⟨fun | 278 => 120 | n => n, fun | 37 => 40 | 21 => 21 | 51 => 84 | 4 => 4 | 46 => 87 | 5 => 5 | n => n, fun | n => n⟩
theorem Tryz.lays278 : Go.Proofs.Lays.n278 Tryz.prog Tryz.lays278_ren := {
  mixed := by kernel_rfl
  f278 := Tryz.func120.trans (congrArg some (by kernel_rfl))
  t4 := Tryz.underlying4
  a4 := Tryz.isAgg4
  z4 := Tryz.sizeOf4
  v4 := Tryz.zeroValue4
  t5 := Tryz.underlying5
  a5 := Tryz.isAgg5
  z5 := Tryz.sizeOf5
  v5 := Tryz.zeroValue5
  t21 := Tryz.underlying21
  a21 := Tryz.isAgg21
  z21 := Tryz.sizeOf21
  v21 := Tryz.zeroValue21
  t37 := Tryz.underlying40
  a37 := Tryz.isAgg40
  z37 := Tryz.sizeOf40
  v37 := Tryz.zeroValue40
  t46 := Tryz.underlying87
  a46 := Tryz.isAgg87
  z46 := Tryz.sizeOf87
  v46 := Tryz.zeroValue87
  t51 := Tryz.underlying84
  a51 := Tryz.isAgg84
  z51 := Tryz.sizeOf84
  v51 := Tryz.zeroValue84 }
open Go.RowKit in
/-- unicode/utf8.appendRuneNonASCII (what AppendRune calls for all but ASCII), ONTO A ROW OF BYTES THAT THE CALL OWNS: every int32 that is no ASCII rune: 'Lib.runeCells r' goes in behind what the row holds. (LAID: no walk: one application.) -/
theorem Tryz.utf8_appendRuneNonASCII_row (B : Nat) (v : Value) (n : Nat) (xs : List Value) (r : Int) (hr0 : -2147483648 ≤ r) (hr1 : r ≤ 2147483647) (hna : r < 0 ∨ 128 ≤ r) (w : World) (hown : w.ownsRowF B 5 1 v n xs) (hlen : n + 4 ≤ 140737488355328) (hBw : B ≤ w.heap.size) :
    Calls Tryz.prog 120 #[v, .int .i32 r] w fun e w' => ∃ v', e = .returned v' ∧ w'.ownsRowF B 5 1 v' (n + (Lib.runeCells r).length) (xs ++ Lib.runeCells r) ∧ ∃ o, (w.alloc o).grownBy w' v.ownBlock := Any.utf8_appendRuneNonASCII_row Tryz.lays278 (by kernel_rfl) B v n xs r hr0 hr1 hna w hown hlen hBw
def Tryz.lays242_ren : Go.Shelf.Ren := ⟨fun | 242 => 84 | 278 => 120 | n => n, fun | 37 => 40 | 21 => 21 | 51 => 84 | 4 => 4 | 5 => 5 | 46 => 87 | n => n, fun | n => n⟩
theorem Tryz.lays242 : Go.Proofs.Lays.n242 Tryz.prog Tryz.lays242_ren := {
  mixed := by kernel_rfl
  f242 := Tryz.func84.trans (congrArg some (by kernel_rfl))
  f278 := Tryz.func120.trans (congrArg some (by kernel_rfl))
  t4 := Tryz.underlying4
  a4 := Tryz.isAgg4
  z4 := Tryz.sizeOf4
  v4 := Tryz.zeroValue4
  t5 := Tryz.underlying5
  a5 := Tryz.isAgg5
  z5 := Tryz.sizeOf5
  v5 := Tryz.zeroValue5
  t21 := Tryz.underlying21
  a21 := Tryz.isAgg21
  z21 := Tryz.sizeOf21
  v21 := Tryz.zeroValue21
  t37 := Tryz.underlying40
  a37 := Tryz.isAgg40
  z37 := Tryz.sizeOf40
  v37 := Tryz.zeroValue40
  t46 := Tryz.underlying87
  a46 := Tryz.isAgg87
  z46 := Tryz.sizeOf87
  v46 := Tryz.zeroValue87
  t51 := Tryz.underlying84
  a51 := Tryz.isAgg84
  z51 := Tryz.sizeOf84
  v51 := Tryz.zeroValue84 }
open Go.RowKit in
/-- unicode/utf8.AppendRune: "AppendRune appends the UTF-8 encoding of r to the end of p and returns the extended buffer. If the rune is out of range, it appends the encoding of RuneError.": ONTO A ROW OF BYTES THAT THE CALL OWNS (its head frozen or not): EVERY int32: 'Lib.runeCells r' goes in behind what the row holds; the world: one new block (the bytes as the call's variadic argument), then what 'append' does to the row. (LAID: no walk: one application.) -/
theorem Tryz.utf8_AppendRune_row (B : Nat) (v : Value) (n : Nat) (xs : List Value) (r : Int) (hr0 : -2147483648 ≤ r) (hr1 : r ≤ 2147483647) (w : World) (hown : w.ownsRowF B 5 1 v n xs) (hlen : n + 4 ≤ 140737488355328) (hBw : B ≤ w.heap.size) :
    Calls Tryz.prog 84 #[v, .int .i32 r] w fun e w' => ∃ v', e = .returned v' ∧ w'.ownsRowF B 5 1 v' (n + (Lib.runeCells r).length) (xs ++ Lib.runeCells r) ∧ ∃ o, (w.alloc o).grownBy w' v.ownBlock := Any.utf8_AppendRune_row Tryz.lays242 (by kernel_rfl) B v n xs r hr0 hr1 w hown hlen hBw
def Tryz.lays345_ren : Go.Shelf.Ren := ⟨fun | 345 => 118 | n => n, fun | 234 => 167 | 49 => 166 | 3 => 3 | 4 => 4 | 46 => 87 | 0 => 0 | n => n, fun | n => n⟩
theorem Tryz.lays345 : Go.Proofs.Lays.n345 Tryz.prog Tryz.lays345_ren := {
  mixed := by kernel_rfl
  f345 := Tryz.func118.trans (congrArg some (by kernel_rfl))
  t0 := Tryz.underlying0
  a0 := Tryz.isAgg0
  z0 := Tryz.sizeOf0
  v0 := Tryz.zeroValue0
  t3 := Tryz.underlying3
  a3 := Tryz.isAgg3
  z3 := Tryz.sizeOf3
  v3 := Tryz.zeroValue3
  t4 := Tryz.underlying4
  a4 := Tryz.isAgg4
  z4 := Tryz.sizeOf4
  v4 := Tryz.zeroValue4
  t46 := Tryz.underlying87
  a46 := Tryz.isAgg87
  z46 := Tryz.sizeOf87
  v46 := Tryz.zeroValue87
  t49 := Tryz.underlying166
  a49 := Tryz.isAgg166
  z49 := Tryz.sizeOf166
  v49 := Tryz.zeroValue166
  t234 := Tryz.underlying167
  a234 := Tryz.isAgg167
  z234 := Tryz.sizeOf167
  v234 := Tryz.zeroValue167 }
open Go.RowKit in
/-- strconv.bsearch[[]uint16,uint16]: a table of whatever numbers (sorted or not: WHAT IS SAID IS WHAT THE LOOP COMPUTES: 'Lib.bsearchI', 'Lib.bsearchFound'), at least one of them; draws alone (the last statement's order); nothing else turns. (LAID: no walk: one application.) -/
theorem Tryz.strconv_bsearch16 (R o c : Nat) (t : List Nat) (v : Nat) (w : World) (h0 : 0 < t.length) (hn : t.length ≤ 4611686018427387904) (hc : ∀ j, j < t.length → w.cell? ⟨R, o + j, none⟩ = some (.int .u16 (t.getD j 0))) :
    Calls Tryz.prog 118 #[.slice (some ⟨R, o, none⟩) t.length c, .int .u16 v] w fun e w' => e = .returned (.tuple #[.int .i64 (Lib.bsearchI t v), .bool (Lib.bsearchFound t v)]) ∧ ∃ q, w' = w.drewN q := Any.strconv_bsearch16 Tryz.lays345 R o c t v w h0 hn hc
def Tryz.lays346_ren : Go.Shelf.Ren := ⟨fun | 346 => 119 | n => n, fun | 236 => 170 | 51 => 84 | 3 => 3 | 4 => 4 | 46 => 87 | 0 => 0 | n => n, fun | n => n⟩
theorem Tryz.lays346 : Go.Proofs.Lays.n346 Tryz.prog Tryz.lays346_ren := {
  mixed := by kernel_rfl
  f346 := Tryz.func119.trans (congrArg some (by kernel_rfl))
  t0 := Tryz.underlying0
  a0 := Tryz.isAgg0
  z0 := Tryz.sizeOf0
  v0 := Tryz.zeroValue0
  t3 := Tryz.underlying3
  a3 := Tryz.isAgg3
  z3 := Tryz.sizeOf3
  v3 := Tryz.zeroValue3
  t4 := Tryz.underlying4
  a4 := Tryz.isAgg4
  z4 := Tryz.sizeOf4
  v4 := Tryz.zeroValue4
  t46 := Tryz.underlying87
  a46 := Tryz.isAgg87
  z46 := Tryz.sizeOf87
  v46 := Tryz.zeroValue87
  t51 := Tryz.underlying84
  a51 := Tryz.isAgg84
  z51 := Tryz.sizeOf84
  v51 := Tryz.zeroValue84
  t236 := Tryz.underlying170
  a236 := Tryz.isAgg170
  z236 := Tryz.sizeOf170
  v236 := Tryz.zeroValue170 }
open Go.RowKit in
/-- strconv.bsearch[[]uint32,uint32]: a table of whatever numbers (sorted or not: WHAT IS SAID IS WHAT THE LOOP COMPUTES: 'Lib.bsearchI', 'Lib.bsearchFound'), at least one of them; draws alone (the last statement's order); nothing else turns. (LAID: no walk: one application.) -/
theorem Tryz.strconv_bsearch32 (R o c : Nat) (t : List Nat) (v : Nat) (w : World) (h0 : 0 < t.length) (hn : t.length ≤ 4611686018427387904) (hc : ∀ j, j < t.length → w.cell? ⟨R, o + j, none⟩ = some (.int .u32 (t.getD j 0))) :
    Calls Tryz.prog 119 #[.slice (some ⟨R, o, none⟩) t.length c, .int .u32 v] w fun e w' => e = .returned (.tuple #[.int .i64 (Lib.bsearchI t v), .bool (Lib.bsearchFound t v)]) ∧ ∃ q, w' = w.drewN q := Any.strconv_bsearch32 Tryz.lays346 R o c t v w h0 hn hc
def Tryz.lays339_ren : Go.Shelf.Ren := ⟨fun | 339 => 82 | 345 => 118 | 346 => 119 | n => n, fun | 21 => 21 | 4 => 4 | 49 => 166 | 234 => 167 | 131 => 168 | 3 => 3 | 0 => 0 | 51 => 84 | 236 => 170 | 46 => 87 | n => n, fun | 20 => 11 | 21 => 12 | 22 => 13 | 23 => 14 | n => n⟩
theorem Tryz.lays339 : Go.Proofs.Lays.n339 Tryz.prog Tryz.lays339_ren := {
  mixed := by kernel_rfl
  f339 := Tryz.func82.trans (congrArg some (by kernel_rfl))
  f345 := Tryz.func118.trans (congrArg some (by kernel_rfl))
  f346 := Tryz.func119.trans (congrArg some (by kernel_rfl))
  t0 := Tryz.underlying0
  a0 := Tryz.isAgg0
  z0 := Tryz.sizeOf0
  v0 := Tryz.zeroValue0
  t3 := Tryz.underlying3
  a3 := Tryz.isAgg3
  z3 := Tryz.sizeOf3
  v3 := Tryz.zeroValue3
  t4 := Tryz.underlying4
  a4 := Tryz.isAgg4
  z4 := Tryz.sizeOf4
  v4 := Tryz.zeroValue4
  t21 := Tryz.underlying21
  a21 := Tryz.isAgg21
  z21 := Tryz.sizeOf21
  v21 := Tryz.zeroValue21
  t46 := Tryz.underlying87
  a46 := Tryz.isAgg87
  z46 := Tryz.sizeOf87
  v46 := Tryz.zeroValue87
  t49 := Tryz.underlying166
  a49 := Tryz.isAgg166
  z49 := Tryz.sizeOf166
  v49 := Tryz.zeroValue166
  t51 := Tryz.underlying84
  a51 := Tryz.isAgg84
  z51 := Tryz.sizeOf84
  v51 := Tryz.zeroValue84
  t131 := Tryz.underlying168
  a131 := Tryz.isAgg168
  z131 := Tryz.sizeOf168
  v131 := Tryz.zeroValue168
  t234 := Tryz.underlying167
  a234 := Tryz.isAgg167
  z234 := Tryz.sizeOf167
  v234 := Tryz.zeroValue167
  t236 := Tryz.underlying170
  a236 := Tryz.isAgg170
  z236 := Tryz.sizeOf170
  v236 := Tryz.zeroValue170
  g20 := by kernel_rfl
  g21 := by kernel_rfl
  g22 := by kernel_rfl
  g23 := by kernel_rfl }
open Go.RowKit in
/-- strconv.IsPrint AT r ≤ 0xFF, negative ones too ('Fast check for Latin-1'): no table is read; nothing turns. (LAID: no walk: one application.) -/
theorem Tryz.strconv_IsPrint_latin (r : Int) (w : World) (hr : r ≤ 255) :
    Calls Tryz.prog 82 #[.int .i32 r] w fun e w' => e = .returned (.bool (Lib.isPrintLatin r)) ∧ w' = w := Any.strconv_IsPrint_latin Tryz.lays339 r w hr
open Go.RowKit in
/-- strconv.IsPrint AT 0xFF < r < 0x10000: two of the four tables are read. (LAID: no walk: one application.) -/
theorem Tryz.strconv_IsPrint_16 (T : Lib.PrintTabs) (r : Nat) (w : World) (h1 : 255 < r) (h2 : r < 65536) (hT : Lib.PrintTabsAt 11 12 13 14 T w) :
    Calls Tryz.prog 82 #[.int .i32 r] w fun e w' => e = .returned (.bool (Lib.isPrintR T r)) ∧ ∃ q, w' = w.drewN q := Any.strconv_IsPrint_16 Tryz.lays339 T r w h1 h2 hT
open Go.RowKit in
/-- strconv.IsPrint AT 0xFFFF < r (an int32): the two other tables are read. (LAID: no walk: one application.) -/
theorem Tryz.strconv_IsPrint_32 (T : Lib.PrintTabs) (r : Nat) (w : World) (h1 : 65535 < r) (h2 : r < 2147483648) (hT : Lib.PrintTabsAt 11 12 13 14 T w) :
    Calls Tryz.prog 82 #[.int .i32 r] w fun e w' => e = .returned (.bool (Lib.isPrintR T r)) ∧ ∃ q, w' = w.drewN q := Any.strconv_IsPrint_32 Tryz.lays339 T r w h1 h2 hT
open Go.RowKit in
/-- strconv.IsPrint AT EVERY int32: 'Lib.isPrintR T r', the four tables as 'Lib.PrintTabsAt' says; draws alone. (LAID: no walk: one application.) -/
theorem Tryz.strconv_IsPrint (T : Lib.PrintTabs) (r : Int) (w : World) (hlo : -2147483648 ≤ r) (hhi : r ≤ 2147483647) (hT : Lib.PrintTabsAt 11 12 13 14 T w) :
    Calls Tryz.prog 82 #[.int .i32 r] w fun e w' => e = .returned (.bool (Lib.isPrintR T r)) ∧ ∃ q, w' = w.drewN q := Any.strconv_IsPrint Tryz.lays339 T r w hlo hhi hT
def Tryz.lays323_ren : Go.Shelf.Ren := ⟨fun | 323 => 64 | 339 => 82 | 340 => 83 | 242 => 84 | 119 => 85 | 345 => 118 | 346 => 119 | 278 => 120 | n => n, fun | 37 => 40 | 21 => 21 | 5 => 5 | 4 => 4 | 9 => 9 | 46 => 87 | 3 => 3 | 49 => 166 | 234 => 167 | 131 => 168 | 0 => 0 | 51 => 84 | 236 => 170 | n => n, fun | 20 => 11 | 21 => 12 | 22 => 13 | 23 => 14 | 24 => 15 | n => n⟩
theorem Tryz.lays323 : Go.Proofs.Lays.n323 Tryz.prog Tryz.lays323_ren := {
  mixed := by kernel_rfl
  f119 := Tryz.func85.trans (congrArg some (by kernel_rfl))
  f242 := Tryz.func84.trans (congrArg some (by kernel_rfl))
  f278 := Tryz.func120.trans (congrArg some (by kernel_rfl))
  f323 := Tryz.func64.trans (congrArg some (by kernel_rfl))
  f339 := Tryz.func82.trans (congrArg some (by kernel_rfl))
  f340 := Tryz.func83.trans (congrArg some (by kernel_rfl))
  f345 := Tryz.func118.trans (congrArg some (by kernel_rfl))
  f346 := Tryz.func119.trans (congrArg some (by kernel_rfl))
  t0 := Tryz.underlying0
  a0 := Tryz.isAgg0
  z0 := Tryz.sizeOf0
  v0 := Tryz.zeroValue0
  t3 := Tryz.underlying3
  a3 := Tryz.isAgg3
  z3 := Tryz.sizeOf3
  v3 := Tryz.zeroValue3
  t4 := Tryz.underlying4
  a4 := Tryz.isAgg4
  z4 := Tryz.sizeOf4
  v4 := Tryz.zeroValue4
  t5 := Tryz.underlying5
  a5 := Tryz.isAgg5
  z5 := Tryz.sizeOf5
  v5 := Tryz.zeroValue5
  t9 := Tryz.underlying9
  a9 := Tryz.isAgg9
  z9 := Tryz.sizeOf9
  v9 := Tryz.zeroValue9
  t21 := Tryz.underlying21
  a21 := Tryz.isAgg21
  z21 := Tryz.sizeOf21
  v21 := Tryz.zeroValue21
  t37 := Tryz.underlying40
  a37 := Tryz.isAgg40
  z37 := Tryz.sizeOf40
  v37 := Tryz.zeroValue40
  t46 := Tryz.underlying87
  a46 := Tryz.isAgg87
  z46 := Tryz.sizeOf87
  v46 := Tryz.zeroValue87
  t49 := Tryz.underlying166
  a49 := Tryz.isAgg166
  z49 := Tryz.sizeOf166
  v49 := Tryz.zeroValue166
  t51 := Tryz.underlying84
  a51 := Tryz.isAgg84
  z51 := Tryz.sizeOf84
  v51 := Tryz.zeroValue84
  t131 := Tryz.underlying168
  a131 := Tryz.isAgg168
  z131 := Tryz.sizeOf168
  v131 := Tryz.zeroValue168
  t234 := Tryz.underlying167
  a234 := Tryz.isAgg167
  z234 := Tryz.sizeOf167
  v234 := Tryz.zeroValue167
  t236 := Tryz.underlying170
  a236 := Tryz.isAgg170
  z236 := Tryz.sizeOf170
  v236 := Tryz.zeroValue170
  g20 := by kernel_rfl
  g21 := by kernel_rfl
  g22 := by kernel_rfl
  g23 := by kernel_rfl
  g24 := by kernel_rfl }
open Go.RowKit in
/-- THE QUOTE ITSELF OR A BACKSLASH: 'always backslashed'. (LAID: no walk: one application.) -/
theorem Tryz.strconv_appendEscapedRune_quoted (T : Lib.PrintTabs) (B : Nat) (v : Value) (n : Nat) (xs : List Value) (r : Int) (W0 w : World) (hb : Lib.OwnBuf B 5 v n xs W0 w) (hlen : n + 10 ≤ 140737488355328) (hT : Lib.PrintTabsAt 11 12 13 14 T w) (hr0 : 0 ≤ r) (hr1 : r ≤ 2147483647) (hq : r = 34 ∨ r = 92) :
    Calls Tryz.prog 64 #[v, .int .i32 r, .int .u8 34, .bool false, .bool false] w fun e w' => ∃ v', e = .returned v' ∧ Lib.OwnBuf B 5 v' (n + (Lib.escRune T r).length) (xs ++ Lib.intCells (Lib.escRune T r)) W0 w' := Any.strconv_appendEscapedRune_quoted Tryz.lays323 (by kernel_rfl) T B v n xs r W0 w hb hlen hT hr0 hr1 hq
open Go.RowKit in
/-- A RUNE THAT strconv.IsPrint LETS BY (and is neither the quote nor a backslash): its UTF-8 encoding, by utf8.AppendRune. (LAID: no walk: one application.) -/
theorem Tryz.strconv_appendEscapedRune_printable (T : Lib.PrintTabs) (B : Nat) (v : Value) (n : Nat) (xs : List Value) (r : Int) (W0 w : World) (hb : Lib.OwnBuf B 5 v n xs W0 w) (hlen : n + 10 ≤ 140737488355328) (hT : Lib.PrintTabsAt 11 12 13 14 T w) (hr0 : 0 ≤ r) (hr1 : r ≤ 2147483647) (hq1 : r ≠ 34) (hq2 : r ≠ 92) (hp : Lib.isPrintR T r = true) :
    Calls Tryz.prog 64 #[v, .int .i32 r, .int .u8 34, .bool false, .bool false] w fun e w' => ∃ v', e = .returned v' ∧ Lib.OwnBuf B 5 v' (n + (Lib.escRune T r).length) (xs ++ Lib.intCells (Lib.escRune T r)) W0 w' := Any.strconv_appendEscapedRune_printable Tryz.lays323 (by kernel_rfl) T B v n xs r W0 w hb hlen hT hr0 hr1 hq1 hq2 hp
open Go.RowKit in
/-- THE SEVEN THAT HAVE A LETTER: \\a \\b \\f \\n \\r \\t \\v. (LAID: no walk: one application.) -/
theorem Tryz.strconv_appendEscapedRune_named (T : Lib.PrintTabs) (B : Nat) (v : Value) (n : Nat) (xs : List Value) (r : Int) (W0 w : World) (hb : Lib.OwnBuf B 5 v n xs W0 w) (hlen : n + 10 ≤ 140737488355328) (hT : Lib.PrintTabsAt 11 12 13 14 T w) (hr0 : 0 ≤ r) (hr1 : r ≤ 2147483647) (hn : r = 7 ∨ r = 8 ∨ r = 12 ∨ r = 10 ∨ r = 13 ∨ r = 9 ∨ r = 11) :
    Calls Tryz.prog 64 #[v, .int .i32 r, .int .u8 34, .bool false, .bool false] w fun e w' => ∃ v', e = .returned v' ∧ Lib.OwnBuf B 5 v' (n + (Lib.escRune T r).length) (xs ++ Lib.intCells (Lib.escRune T r)) W0 w' := Any.strconv_appendEscapedRune_named Tryz.lays323 (by kernel_rfl) T B v n xs r W0 w hb hlen hT hr0 hr1 hn
open Go.RowKit in
/-- A CONTROL CHARACTER WITHOUT A LETTER, AND 0x7f: '\\x' AND TWO DIGITS. (LAID: no walk: one application.) -/
theorem Tryz.strconv_appendEscapedRune_hex2 (T : Lib.PrintTabs) (B : Nat) (v : Value) (n : Nat) (xs : List Value) (r : Int) (W0 w : World) (hb : Lib.OwnBuf B 5 v n xs W0 w) (hlen : n + 10 ≤ 140737488355328) (hT : Lib.PrintTabsAt 11 12 13 14 T w) (hr0 : 0 ≤ r) (hr1 : r ≤ 2147483647) (hx : r < 32 ∨ r = 127) (hn : ¬ (r = 7 ∨ r = 8 ∨ r = 12 ∨ r = 10 ∨ r = 13 ∨ r = 9 ∨ r = 11)) :
    Calls Tryz.prog 64 #[v, .int .i32 r, .int .u8 34, .bool false, .bool false] w fun e w' => ∃ v', e = .returned v' ∧ Lib.OwnBuf B 5 v' (n + (Lib.escRune T r).length) (xs ++ Lib.intCells (Lib.escRune T r)) W0 w' := Any.strconv_appendEscapedRune_hex2 Tryz.lays323 (by kernel_rfl) T B v n xs r W0 w hb hlen hT hr0 hr1 hx hn
open Go.RowKit in
/-- NOT PRINTABLE, FROM 0x80 ON, BELOW 0x10000, NO SURROGATE: '\\u' AND FOUR DIGITS. (LAID: no walk: one application.) -/
theorem Tryz.strconv_appendEscapedRune_u4 (T : Lib.PrintTabs) (B : Nat) (v : Value) (n : Nat) (xs : List Value) (r : Int) (W0 w : World) (hb : Lib.OwnBuf B 5 v n xs W0 w) (hlen : n + 10 ≤ 140737488355328) (hT : Lib.PrintTabsAt 11 12 13 14 T w) (hr0 : 0 ≤ r) (hr1 : r ≤ 2147483647) (h80 : 128 ≤ r) (hlt : r < 65536) (hv : Lib.validRune r = true) (hp : Lib.isPrintR T r = false) :
    Calls Tryz.prog 64 #[v, .int .i32 r, .int .u8 34, .bool false, .bool false] w fun e w' => ∃ v', e = .returned v' ∧ Lib.OwnBuf B 5 v' (n + (Lib.escRune T r).length) (xs ++ Lib.intCells (Lib.escRune T r)) W0 w' := Any.strconv_appendEscapedRune_u4 Tryz.lays323 (by kernel_rfl) T B v n xs r W0 w hb hlen hT hr0 hr1 h80 hlt hv hp
open Go.RowKit in
/-- NOT PRINTABLE, FROM 0x10000 ON, AT MOST 0x10FFFF: '\\U' AND EIGHT DIGITS. (LAID: no walk: one application.) -/
theorem Tryz.strconv_appendEscapedRune_u8 (T : Lib.PrintTabs) (B : Nat) (v : Value) (n : Nat) (xs : List Value) (r : Int) (W0 w : World) (hb : Lib.OwnBuf B 5 v n xs W0 w) (hlen : n + 10 ≤ 140737488355328) (hT : Lib.PrintTabsAt 11 12 13 14 T w) (hr0 : 0 ≤ r) (hr1 : r ≤ 2147483647) (h80 : 65536 ≤ r) (hv : Lib.validRune r = true) (hp : Lib.isPrintR T r = false) :
    Calls Tryz.prog 64 #[v, .int .i32 r, .int .u8 34, .bool false, .bool false] w fun e w' => ∃ v', e = .returned v' ∧ Lib.OwnBuf B 5 v' (n + (Lib.escRune T r).length) (xs ++ Lib.intCells (Lib.escRune T r)) W0 w' := Any.strconv_appendEscapedRune_u8 Tryz.lays323 (by kernel_rfl) T B v n xs r W0 w hb hlen hT hr0 hr1 h80 hv hp
open Go.RowKit in
/-- strconv.appendEscapedRune(buf, r, '"', false, false) AT EVERY VALID RUNE (what utf8.DecodeRuneInString hands back is one): IT APPENDS 'Lib.escRune T r'. ✋ a surrogate, a number beyond 0x10FFFF, a negative one: not walked: strconv.Quote never hands one in. (LAID: no walk: one application.) -/
theorem Tryz.strconv_appendEscapedRune (T : Lib.PrintTabs) (B : Nat) (v : Value) (n : Nat) (xs : List Value) (r : Int) (W0 w : World) (hb : Lib.OwnBuf B 5 v n xs W0 w) (hlen : n + 10 ≤ 140737488355328) (hT : Lib.PrintTabsAt 11 12 13 14 T w) (hv : Lib.validRune r = true) :
    Calls Tryz.prog 64 #[v, .int .i32 r, .int .u8 34, .bool false, .bool false] w fun e w' => ∃ v', e = .returned v' ∧ Lib.OwnBuf B 5 v' (n + (Lib.escRune T r).length) (xs ++ Lib.intCells (Lib.escRune T r)) W0 w' := Any.strconv_appendEscapedRune Tryz.lays323 (by kernel_rfl) T B v n xs r W0 w hb hlen hT hv
def Tryz.lays289_ren : Go.Shelf.Ren := ⟨fun | 289 => 51 | 197 => 63 | 323 => 64 | 260 => 81 | 339 => 82 | 340 => 83 | 242 => 84 | 119 => 85 | 345 => 118 | 346 => 119 | 278 => 120 | n => n, fun | 37 => 40 | 9 => 9 | 5 => 5 | 4 => 4 | 3 => 3 | 21 => 21 | 105 => 102 | 46 => 87 | 119 => 162 | 0 => 0 | 139 => 165 | 138 => 164 | 49 => 166 | 234 => 167 | 131 => 168 | 51 => 84 | 236 => 170 | n => n, fun | 3 => 9 | 4 => 10 | 20 => 11 | 21 => 12 | 22 => 13 | 23 => 14 | 24 => 15 | n => n⟩
theorem Tryz.lays289 : Go.Proofs.Lays.n289 Tryz.prog Tryz.lays289_ren := {
  mixed := by kernel_rfl
  f119 := Tryz.func85.trans (congrArg some (by kernel_rfl))
  f197 := Tryz.func63.trans (congrArg some (by kernel_rfl))
  f242 := Tryz.func84.trans (congrArg some (by kernel_rfl))
  f260 := Tryz.func81.trans (congrArg some (by kernel_rfl))
  f278 := Tryz.func120.trans (congrArg some (by kernel_rfl))
  f289 := Tryz.func51.trans (congrArg some (by kernel_rfl))
  f323 := Tryz.func64.trans (congrArg some (by kernel_rfl))
  f339 := Tryz.func82.trans (congrArg some (by kernel_rfl))
  f340 := Tryz.func83.trans (congrArg some (by kernel_rfl))
  f345 := Tryz.func118.trans (congrArg some (by kernel_rfl))
  f346 := Tryz.func119.trans (congrArg some (by kernel_rfl))
  t0 := Tryz.underlying0
  a0 := Tryz.isAgg0
  z0 := Tryz.sizeOf0
  v0 := Tryz.zeroValue0
  t3 := Tryz.underlying3
  a3 := Tryz.isAgg3
  z3 := Tryz.sizeOf3
  v3 := Tryz.zeroValue3
  t4 := Tryz.underlying4
  a4 := Tryz.isAgg4
  z4 := Tryz.sizeOf4
  v4 := Tryz.zeroValue4
  t5 := Tryz.underlying5
  a5 := Tryz.isAgg5
  z5 := Tryz.sizeOf5
  v5 := Tryz.zeroValue5
  t9 := Tryz.underlying9
  a9 := Tryz.isAgg9
  z9 := Tryz.sizeOf9
  v9 := Tryz.zeroValue9
  t21 := Tryz.underlying21
  a21 := Tryz.isAgg21
  z21 := Tryz.sizeOf21
  v21 := Tryz.zeroValue21
  t37 := Tryz.underlying40
  a37 := Tryz.isAgg40
  z37 := Tryz.sizeOf40
  v37 := Tryz.zeroValue40
  t46 := Tryz.underlying87
  a46 := Tryz.isAgg87
  z46 := Tryz.sizeOf87
  v46 := Tryz.zeroValue87
  t49 := Tryz.underlying166
  a49 := Tryz.isAgg166
  z49 := Tryz.sizeOf166
  v49 := Tryz.zeroValue166
  t51 := Tryz.underlying84
  a51 := Tryz.isAgg84
  z51 := Tryz.sizeOf84
  v51 := Tryz.zeroValue84
  t105 := Tryz.underlying102
  a105 := Tryz.isAgg102
  z105 := Tryz.sizeOf102
  v105 := Tryz.zeroValue102
  t119 := Tryz.underlying162
  a119 := Tryz.isAgg162
  z119 := Tryz.sizeOf162
  t131 := Tryz.underlying168
  a131 := Tryz.isAgg168
  z131 := Tryz.sizeOf168
  v131 := Tryz.zeroValue168
  t138 := Tryz.underlying164
  a138 := Tryz.isAgg164
  z138 := Tryz.sizeOf164
  v138 := Tryz.zeroValue164
  t139 := Tryz.underlying165
  a139 := Tryz.isAgg165
  z139 := Tryz.sizeOf165
  v139 := Tryz.zeroValue165
  t234 := Tryz.underlying167
  a234 := Tryz.isAgg167
  z234 := Tryz.sizeOf167
  v234 := Tryz.zeroValue167
  t236 := Tryz.underlying170
  a236 := Tryz.isAgg170
  z236 := Tryz.sizeOf170
  v236 := Tryz.zeroValue170
  g3 := by kernel_rfl
  g4 := by kernel_rfl
  g20 := by kernel_rfl
  g21 := by kernel_rfl
  g22 := by kernel_rfl
  g23 := by kernel_rfl
  g24 := by kernel_rfl }
open Go.RowKit in
/-- strconv.appendQuotedWith(buf, s, '"', false, false), buf with room for s ('cap(buf)-len(buf) >= len(s)': as quoteWith makes it). (LAID: no walk: one application.) -/
theorem Tryz.strconv_appendQuotedWith (T : Lib.PrintTabs) (a : Option Addr) (n c : Nat) (xs : List Value) (s : ByteArray) (W0 w : World) (hb : Lib.OwnBuf W0.heap.size 5 (.slice a n c) n xs W0 w) (hroom : n + s.size ≤ c) (hc : c ≤ 9223372036854775807) (hlen : n + 10 * s.size + 12 ≤ 140737488355328) (hT : Lib.PrintTabsAt 11 12 13 14 T W0) (hU : Lib.Utf8Tabs 9 10 W0) :
    Calls Tryz.prog 51 #[.slice a n c, .string s, .int .u8 34, .bool false, .bool false] w fun e w' => ∃ v', e = .returned v' ∧ Lib.OwnBuf W0.heap.size 5 v' (n + (Lib.quoteZ T s).length) (xs ++ Lib.intCells (Lib.quoteZ T s)) W0 w' := Any.strconv_appendQuotedWith Tryz.lays289 (by kernel_rfl) T a n c xs s W0 w hb hroom hc hlen hT hU
def Tryz.lays250_ren : Go.Shelf.Ren := ⟨fun | 250 => 41 | 289 => 51 | 197 => 63 | 323 => 64 | 260 => 81 | 339 => 82 | 340 => 83 | 242 => 84 | 119 => 85 | 345 => 118 | 346 => 119 | 278 => 120 | n => n, fun | 9 => 9 | 5 => 5 | 4 => 4 | 3 => 3 | 37 => 40 | 21 => 21 | 105 => 102 | 46 => 87 | 119 => 162 | 0 => 0 | 139 => 165 | 138 => 164 | 49 => 166 | 234 => 167 | 131 => 168 | 51 => 84 | 236 => 170 | n => n, fun | 3 => 9 | 4 => 10 | 20 => 11 | 21 => 12 | 22 => 13 | 23 => 14 | 24 => 15 | n => n⟩
theorem Tryz.lays250 : Go.Proofs.Lays.n250 Tryz.prog Tryz.lays250_ren := {
  mixed := by kernel_rfl
  f119 := Tryz.func85.trans (congrArg some (by kernel_rfl))
  f197 := Tryz.func63.trans (congrArg some (by kernel_rfl))
  f242 := Tryz.func84.trans (congrArg some (by kernel_rfl))
  f250 := Tryz.func41.trans (congrArg some (by kernel_rfl))
  f260 := Tryz.func81.trans (congrArg some (by kernel_rfl))
  f278 := Tryz.func120.trans (congrArg some (by kernel_rfl))
  f289 := Tryz.func51.trans (congrArg some (by kernel_rfl))
  f323 := Tryz.func64.trans (congrArg some (by kernel_rfl))
  f339 := Tryz.func82.trans (congrArg some (by kernel_rfl))
  f340 := Tryz.func83.trans (congrArg some (by kernel_rfl))
  f345 := Tryz.func118.trans (congrArg some (by kernel_rfl))
  f346 := Tryz.func119.trans (congrArg some (by kernel_rfl))
  t0 := Tryz.underlying0
  a0 := Tryz.isAgg0
  z0 := Tryz.sizeOf0
  v0 := Tryz.zeroValue0
  t3 := Tryz.underlying3
  a3 := Tryz.isAgg3
  z3 := Tryz.sizeOf3
  v3 := Tryz.zeroValue3
  t4 := Tryz.underlying4
  a4 := Tryz.isAgg4
  z4 := Tryz.sizeOf4
  v4 := Tryz.zeroValue4
  t5 := Tryz.underlying5
  a5 := Tryz.isAgg5
  z5 := Tryz.sizeOf5
  v5 := Tryz.zeroValue5
  t9 := Tryz.underlying9
  a9 := Tryz.isAgg9
  z9 := Tryz.sizeOf9
  v9 := Tryz.zeroValue9
  t21 := Tryz.underlying21
  a21 := Tryz.isAgg21
  z21 := Tryz.sizeOf21
  v21 := Tryz.zeroValue21
  t37 := Tryz.underlying40
  a37 := Tryz.isAgg40
  z37 := Tryz.sizeOf40
  v37 := Tryz.zeroValue40
  t46 := Tryz.underlying87
  a46 := Tryz.isAgg87
  z46 := Tryz.sizeOf87
  v46 := Tryz.zeroValue87
  t49 := Tryz.underlying166
  a49 := Tryz.isAgg166
  z49 := Tryz.sizeOf166
  v49 := Tryz.zeroValue166
  t51 := Tryz.underlying84
  a51 := Tryz.isAgg84
  z51 := Tryz.sizeOf84
  v51 := Tryz.zeroValue84
  t105 := Tryz.underlying102
  a105 := Tryz.isAgg102
  z105 := Tryz.sizeOf102
  v105 := Tryz.zeroValue102
  t119 := Tryz.underlying162
  a119 := Tryz.isAgg162
  z119 := Tryz.sizeOf162
  t131 := Tryz.underlying168
  a131 := Tryz.isAgg168
  z131 := Tryz.sizeOf168
  v131 := Tryz.zeroValue168
  t138 := Tryz.underlying164
  a138 := Tryz.isAgg164
  z138 := Tryz.sizeOf164
  v138 := Tryz.zeroValue164
  t139 := Tryz.underlying165
  a139 := Tryz.isAgg165
  z139 := Tryz.sizeOf165
  v139 := Tryz.zeroValue165
  t234 := Tryz.underlying167
  a234 := Tryz.isAgg167
  z234 := Tryz.sizeOf167
  v234 := Tryz.zeroValue167
  t236 := Tryz.underlying170
  a236 := Tryz.isAgg170
  z236 := Tryz.sizeOf170
  v236 := Tryz.zeroValue170
  g3 := by kernel_rfl
  g4 := by kernel_rfl
  g20 := by kernel_rfl
  g21 := by kernel_rfl
  g22 := by kernel_rfl
  g23 := by kernel_rfl
  g24 := by kernel_rfl }
open Go.RowKit in
/-- strconv.quoteWith(s, '"', false, false). (LAID: no walk: one application.) -/
theorem Tryz.strconv_quoteWith (T : Lib.PrintTabs) (s : ByteArray) (w : World) (hlen : 10 * s.size + 12 ≤ 140737488355328) (hT : Lib.PrintTabsAt 11 12 13 14 T w) (hU : Lib.Utf8Tabs 9 10 w) :
    Calls Tryz.prog 41 #[.string s, .int .u8 34, .bool false, .bool false] w fun e w' => e = .returned (.string (strOfNums (Lib.quoteZ T s))) ∧ Below w.heap.size w w' := Any.strconv_quoteWith Tryz.lays250 (by kernel_rfl) T s w hlen hT hU
def Tryz.lays177_ren : Go.Shelf.Ren := ⟨fun | 177 => 27 | 250 => 41 | 289 => 51 | 197 => 63 | 323 => 64 | 260 => 81 | 339 => 82 | 340 => 83 | 242 => 84 | 119 => 85 | 345 => 118 | 346 => 119 | 278 => 120 | n => n, fun | 9 => 9 | 5 => 5 | 4 => 4 | 3 => 3 | 37 => 40 | 21 => 21 | 105 => 102 | 46 => 87 | 119 => 162 | 0 => 0 | 139 => 165 | 138 => 164 | 49 => 166 | 234 => 167 | 131 => 168 | 51 => 84 | 236 => 170 | n => n, fun | 3 => 9 | 4 => 10 | 20 => 11 | 21 => 12 | 22 => 13 | 23 => 14 | 24 => 15 | n => n⟩
theorem Tryz.lays177 : Go.Proofs.Lays.n177 Tryz.prog Tryz.lays177_ren := {
  mixed := by kernel_rfl
  f119 := Tryz.func85.trans (congrArg some (by kernel_rfl))
  f177 := Tryz.func27.trans (congrArg some (by kernel_rfl))
  f197 := Tryz.func63.trans (congrArg some (by kernel_rfl))
  f242 := Tryz.func84.trans (congrArg some (by kernel_rfl))
  f250 := Tryz.func41.trans (congrArg some (by kernel_rfl))
  f260 := Tryz.func81.trans (congrArg some (by kernel_rfl))
  f278 := Tryz.func120.trans (congrArg some (by kernel_rfl))
  f289 := Tryz.func51.trans (congrArg some (by kernel_rfl))
  f323 := Tryz.func64.trans (congrArg some (by kernel_rfl))
  f339 := Tryz.func82.trans (congrArg some (by kernel_rfl))
  f340 := Tryz.func83.trans (congrArg some (by kernel_rfl))
  f345 := Tryz.func118.trans (congrArg some (by kernel_rfl))
  f346 := Tryz.func119.trans (congrArg some (by kernel_rfl))
  t0 := Tryz.underlying0
  a0 := Tryz.isAgg0
  z0 := Tryz.sizeOf0
  v0 := Tryz.zeroValue0
  t3 := Tryz.underlying3
  a3 := Tryz.isAgg3
  z3 := Tryz.sizeOf3
  v3 := Tryz.zeroValue3
  t4 := Tryz.underlying4
  a4 := Tryz.isAgg4
  z4 := Tryz.sizeOf4
  v4 := Tryz.zeroValue4
  t5 := Tryz.underlying5
  a5 := Tryz.isAgg5
  z5 := Tryz.sizeOf5
  v5 := Tryz.zeroValue5
  t9 := Tryz.underlying9
  a9 := Tryz.isAgg9
  z9 := Tryz.sizeOf9
  v9 := Tryz.zeroValue9
  t21 := Tryz.underlying21
  a21 := Tryz.isAgg21
  z21 := Tryz.sizeOf21
  v21 := Tryz.zeroValue21
  t37 := Tryz.underlying40
  a37 := Tryz.isAgg40
  z37 := Tryz.sizeOf40
  v37 := Tryz.zeroValue40
  t46 := Tryz.underlying87
  a46 := Tryz.isAgg87
  z46 := Tryz.sizeOf87
  v46 := Tryz.zeroValue87
  t49 := Tryz.underlying166
  a49 := Tryz.isAgg166
  z49 := Tryz.sizeOf166
  v49 := Tryz.zeroValue166
  t51 := Tryz.underlying84
  a51 := Tryz.isAgg84
  z51 := Tryz.sizeOf84
  v51 := Tryz.zeroValue84
  t105 := Tryz.underlying102
  a105 := Tryz.isAgg102
  z105 := Tryz.sizeOf102
  v105 := Tryz.zeroValue102
  t119 := Tryz.underlying162
  a119 := Tryz.isAgg162
  z119 := Tryz.sizeOf162
  t131 := Tryz.underlying168
  a131 := Tryz.isAgg168
  z131 := Tryz.sizeOf168
  v131 := Tryz.zeroValue168
  t138 := Tryz.underlying164
  a138 := Tryz.isAgg164
  z138 := Tryz.sizeOf164
  v138 := Tryz.zeroValue164
  t139 := Tryz.underlying165
  a139 := Tryz.isAgg165
  z139 := Tryz.sizeOf165
  v139 := Tryz.zeroValue165
  t234 := Tryz.underlying167
  a234 := Tryz.isAgg167
  z234 := Tryz.sizeOf167
  v234 := Tryz.zeroValue167
  t236 := Tryz.underlying170
  a236 := Tryz.isAgg170
  z236 := Tryz.sizeOf170
  v236 := Tryz.zeroValue170
  g3 := by kernel_rfl
  g4 := by kernel_rfl
  g20 := by kernel_rfl
  g21 := by kernel_rfl
  g22 := by kernel_rfl
  g23 := by kernel_rfl
  g24 := by kernel_rfl }
open Go.RowKit in
/-- **strconv.Quote AT EVERY STRING, VALID UTF-8 OR NOT** (of at most some 2^43 bytes: ten bytes may come of one): 'strOfNums (Lib.quoteZ T s)': Derived/Lib/QuoteLoop.lean: a row of Lean a statement of Go. Of what was there nothing has turned. (LAID: no walk: one application.) -/
theorem Tryz.strconv_Quote (T : Lib.PrintTabs) (s : ByteArray) (w : World) (hlen : 10 * s.size + 12 ≤ 140737488355328) (hT : Lib.PrintTabsAt 11 12 13 14 T w) (hU : Lib.Utf8Tabs 9 10 w) :
    Calls Tryz.prog 27 #[.string s] w fun e w' => e = .returned (.string (strOfNums (Lib.quoteZ T s))) ∧ Below w.heap.size w w' := Any.strconv_Quote Tryz.lays177 (by kernel_rfl) T s w hlen hT hU
def Tryz.lays129_ren : Go.Shelf.Ren := ⟨fun | 129 => 47 | n => n, fun | 53 => 29 | 3 => 3 | 4 => 4 | 46 => 87 | 5 => 5 | 9 => 9 | n => n, fun | n => n⟩
theorem Tryz.lays129 : Go.Proofs.Lays.n129 Tryz.prog Tryz.lays129_ren := {
  mixed := by kernel_rfl
  f129 := Tryz.func47.trans (congrArg some (by kernel_rfl))
  t3 := Tryz.underlying3
  a3 := Tryz.isAgg3
  z3 := Tryz.sizeOf3
  v3 := Tryz.zeroValue3
  t4 := Tryz.underlying4
  a4 := Tryz.isAgg4
  z4 := Tryz.sizeOf4
  v4 := Tryz.zeroValue4
  t5 := Tryz.underlying5
  a5 := Tryz.isAgg5
  z5 := Tryz.sizeOf5
  v5 := Tryz.zeroValue5
  t9 := Tryz.underlying9
  a9 := Tryz.isAgg9
  z9 := Tryz.sizeOf9
  v9 := Tryz.zeroValue9
  t46 := Tryz.underlying87
  a46 := Tryz.isAgg87
  z46 := Tryz.sizeOf87
  v46 := Tryz.zeroValue87
  t53 := Tryz.underlying29
  a53 := Tryz.isAgg29
  z53 := Tryz.sizeOf29
  v53 := Tryz.zeroValue29 }
/-- bits.Len64: "Len64 returns the minimum number of bits required to represent x; the result is 0 for x == 0.": IT RETURNS 'Lib.bitLen x'; the world is as it was. ('h0', 'h1': x is a uint64.) (LAID: no walk: one application.) -/
theorem Tryz.bits_Len64 (x : Int) (w : World) (h0 : 0 ≤ x) (h1 : x ≤ 18446744073709551615) :
    Calls Tryz.prog 47 #[.int .u64 x] w fun e w' => e = .returned (.int .i64 (Lib.bitLen x.toNat)) ∧ w' = w := Any.bits_Len64 Tryz.lays129 x w h0 h1
def Tryz.lays317_ren : Go.Shelf.Ren := ⟨fun | 317 => 46 | n => n, fun | 3 => 3 | 46 => 87 | n => n, fun | n => n⟩
theorem Tryz.lays317 : Go.Proofs.Lays.n317 Tryz.prog Tryz.lays317_ren := {
  mixed := by kernel_rfl
  f317 := Tryz.func46.trans (congrArg some (by kernel_rfl))
  t3 := Tryz.underlying3
  a3 := Tryz.isAgg3
  z3 := Tryz.sizeOf3
  v3 := Tryz.zeroValue3
  t46 := Tryz.underlying87
  a46 := Tryz.isAgg87
  z46 := Tryz.sizeOf87
  v46 := Tryz.zeroValue87 }
open Go.Lib in
/-- internal/strconv.log10Pow2: "log10Pow2(x) returns ⌊log₁₀ 2**x⌋ = ⌊x * log₁₀ 2⌋.": '(x * 78913) >> 18', at an x up to 64 (a length in bits). The world is as it was. (LAID: no walk: one application.) -/
theorem Tryz.internal_strconv_log10Pow2 (x : Nat) (h : x ≤ 64) (w : World) :
    Calls Tryz.prog 46 #[.int .i64 x] w fun e w' => e = .returned (.int .i64 (Lib.l10 x)) ∧ w' = w := Any.internal_strconv_log10Pow2 Tryz.lays317 x h w
def Tryz.lays318_ren : Go.Shelf.Ren := ⟨fun | 318 => 48 | n => n, fun | 3 => 3 | 4 => 4 | n => n, fun | n => n⟩
theorem Tryz.lays318 : Go.Proofs.Lays.n318 Tryz.prog Tryz.lays318_ren := {
  mixed := by kernel_rfl
  f318 := Tryz.func48.trans (congrArg some (by kernel_rfl))
  t3 := Tryz.underlying3
  a3 := Tryz.isAgg3
  z3 := Tryz.sizeOf3
  v3 := Tryz.zeroValue3
  t4 := Tryz.underlying4
  a4 := Tryz.isAgg4
  z4 := Tryz.sizeOf4
  v4 := Tryz.zeroValue4 }
open Go.Lib in
/-- internal/strconv.bool2: "bool2 converts b to an integer: 1 for true, 0 for false." The world is as it was. (LAID: no walk: one application.) -/
theorem Tryz.internal_strconv_bool2_int (b : Bool) (w : World) :
    Calls Tryz.prog 48 #[.bool b] w fun e w' => e = .returned (.int .i64 (if b then 1 else 0)) ∧ w' = w := Any.internal_strconv_bool2_int Tryz.lays318 b w
def Tryz.lays283_ren : Go.Shelf.Ren := ⟨fun | 283 => 37 | n => n, fun | 3 => 3 | 9 => 9 | 4 => 4 | n => n, fun | n => n⟩
theorem Tryz.lays283 : Go.Proofs.Lays.n283 Tryz.prog Tryz.lays283_ren := {
  mixed := by kernel_rfl
  f283 := Tryz.func37.trans (congrArg some (by kernel_rfl))
  t3 := Tryz.underlying3
  a3 := Tryz.isAgg3
  z3 := Tryz.sizeOf3
  v3 := Tryz.zeroValue3
  t4 := Tryz.underlying4
  a4 := Tryz.isAgg4
  z4 := Tryz.sizeOf4
  v4 := Tryz.zeroValue4
  t9 := Tryz.underlying9
  a9 := Tryz.isAgg9
  z9 := Tryz.sizeOf9
  v9 := Tryz.zeroValue9 }
open Go.Lib in
/-- internal/strconv.small: "small returns the string for an i with 0 <= i < nSmalls.": i's decimal numeral. The world is as it was. (LAID: no walk: one application.) -/
theorem Tryz.internal_strconv_small (i : Nat) (h : i < 100) (w : World) :
    Calls Tryz.prog 37 #[.int .i64 i] w fun e w' => e = .returned (.string ⟨(Lib.decDigits i).toArray⟩) ∧ w' = w := Any.internal_strconv_small Tryz.lays283 i h w
def Tryz.laysM284_ren : Go.Shelf.Ren := ⟨fun | 284 => 38 | 129 => 47 | 317 => 46 | 318 => 48 | n => n, fun | 53 => 29 | 3 => 3 | 212 => 83 | 0 => 0 | 4 => 4 | 46 => 87 | 5 => 5 | 9 => 9 | n => n, fun | 17 => 1 | n => n⟩
theorem Tryz.laysM284 : Go.Proofs.LaysM.n284 Tryz.prog Tryz.laysM284_ren := {
  mixed := by kernel_rfl
  f129 := Tryz.func47.trans (congrArg some (by kernel_rfl))
  f284 := Tryz.func38.trans (congrArg some (by kernel_rfl))
  f317 := Tryz.func46.trans (congrArg some (by kernel_rfl))
  f318 := Tryz.func48.trans (congrArg some (by kernel_rfl))
  t0 := Tryz.underlying0
  a0 := Tryz.isAgg0
  z0 := Tryz.sizeOf0
  v0 := Tryz.zeroValue0
  t3 := Tryz.underlying3
  a3 := Tryz.isAgg3
  z3 := Tryz.sizeOf3
  v3 := Tryz.zeroValue3
  t4 := Tryz.underlying4
  a4 := Tryz.isAgg4
  z4 := Tryz.sizeOf4
  v4 := Tryz.zeroValue4
  t5 := Tryz.underlying5
  a5 := Tryz.isAgg5
  z5 := Tryz.sizeOf5
  v5 := Tryz.zeroValue5
  t9 := Tryz.underlying9
  a9 := Tryz.isAgg9
  z9 := Tryz.sizeOf9
  v9 := Tryz.zeroValue9
  t46 := Tryz.underlying87
  a46 := Tryz.isAgg87
  z46 := Tryz.sizeOf87
  v46 := Tryz.zeroValue87
  t53 := Tryz.underlying29
  a53 := Tryz.isAgg29
  z53 := Tryz.sizeOf29
  v53 := Tryz.zeroValue29
  t212 := Tryz.underlying83
  a212 := Tryz.isAgg83
  z212 := Tryz.sizeOf83
  v212 := Tryz.zeroValue83
  g17 := by kernel_rfl
  i0 := by kernel_rfl
  i3 := by kernel_rfl
  i4 := by kernel_rfl
  i5 := by kernel_rfl
  i9 := by kernel_rfl
  i46 := by kernel_rfl
  i53 := by kernel_rfl
  i212 := by kernel_rfl
  m17 := by kernel_rfl }
open Go.Lib in
/-- internal/strconv.numDigits, at a d that is not 0: THE NUMBER OF d's DECIMAL DIGITS. The world is as it was. (LAID: no walk: one application.) -/
theorem Tryz.internal_strconv_numDigits (u : Nat) (h1 : 1 ≤ u) (h2 : u < 18446744073709551616) (w : World) (htab : Lib.TabIs Tryz.prog w "internal/strconv.uint64pow10" .u64 Lib.pow10Tab) :
    Calls Tryz.prog 38 #[.int .u64 u] w fun e w' => e = .returned (.int .i64 (Lib.nDigits u)) ∧ w' = w := Any.internal_strconv_numDigits Tryz.laysM284 u h1 h2 w htab
def Tryz.lays285_ren : Go.Shelf.Ren := ⟨fun | 285 => 39 | n => n, fun | 37 => 40 | 53 => 29 | 3 => 3 | 4 => 4 | 51 => 84 | 9 => 9 | 5 => 5 | 0 => 0 | n => n, fun | n => n⟩
theorem Tryz.lays285 : Go.Proofs.Lays.n285 Tryz.prog Tryz.lays285_ren := {
  mixed := by kernel_rfl
  f285 := Tryz.func39.trans (congrArg some (by kernel_rfl))
  t0 := Tryz.underlying0
  a0 := Tryz.isAgg0
  z0 := Tryz.sizeOf0
  v0 := Tryz.zeroValue0
  t3 := Tryz.underlying3
  a3 := Tryz.isAgg3
  z3 := Tryz.sizeOf3
  v3 := Tryz.zeroValue3
  t4 := Tryz.underlying4
  a4 := Tryz.isAgg4
  z4 := Tryz.sizeOf4
  v4 := Tryz.zeroValue4
  t5 := Tryz.underlying5
  a5 := Tryz.isAgg5
  z5 := Tryz.sizeOf5
  v5 := Tryz.zeroValue5
  t9 := Tryz.underlying9
  a9 := Tryz.isAgg9
  z9 := Tryz.sizeOf9
  v9 := Tryz.zeroValue9
  t37 := Tryz.underlying40
  a37 := Tryz.isAgg40
  z37 := Tryz.sizeOf40
  v37 := Tryz.zeroValue40
  t51 := Tryz.underlying84
  a51 := Tryz.isAgg84
  z51 := Tryz.sizeOf84
  v51 := Tryz.zeroValue84
  t53 := Tryz.underlying29
  a53 := Tryz.isAgg29
  z53 := Tryz.sizeOf29
  v53 := Tryz.zeroValue29 }
open Go.RowKit Go.Sort Go.Lib in
/-- internal/strconv.formatBase10: "formatBase10 formats the decimal representation of u into a. The caller is responsible for ensuring that a is big enough to hold u. If a is too big, leading zeros will be filled in as needed.": THE ROW HOLDS u's DIGITS ('FmtInv .. 0 ..': every place t holds 'dg u (len - 1 - t)'); all else is as it was but for the count of draws. (LAID: no walk: one application.) -/
theorem Tryz.internal_strconv_formatBase10 (blk off cap : Nat) (u : Nat) (d : Array UInt8) (w : World) (hH : Holds (fun (b : UInt8) => Value.int .u8 (b.toNat : Int)) w blk off d) (hu : u < 10 ^ d.size) (hu64 : u < 18446744073709551616) (hsz : d.size < 4611686018427387904) :
    Calls Tryz.prog 39 #[.slice (some ⟨blk, off, none⟩) d.size cap, .int .u64 u] w fun e w' =>
      e = .returned (.tuple #[]) ∧ ∃ (n v' : Nat) (dk : Array UInt8), w' = (putRow (fun (b : UInt8) => Value.int .u8 (b.toNat : Int)) w blk off dk).drewN n ∧ FmtInv d.size u 0 v' dk := Any.internal_strconv_formatBase10 Tryz.lays285 blk off cap u d w hH hu hu64 hsz
def Tryz.laysM246_ren : Go.Shelf.Ren := ⟨fun | 246 => 26 | 283 => 37 | 284 => 38 | 285 => 39 | 286 => 40 | 129 => 47 | 317 => 46 | 318 => 48 | 319 => 49 | 320 => 50 | 337 => 61 | 338 => 62 | n => n, fun | 2 => 2 | 3 => 3 | 9 => 9 | 4 => 4 | 171 => 71 | 0 => 0 | 53 => 29 | 37 => 40 | 5 => 5 | 173 => 74 | 212 => 83 | 51 => 84 | 20 => 20 | 213 => 85 | 46 => 87 | 232 => 114 | 233 => 126 | n => n, fun | 17 => 1 | 18 => 5 | 19 => 6 | n => n⟩
theorem Tryz.laysM246 : Go.Proofs.LaysM.n246 Tryz.prog Tryz.laysM246_ren := {
  mixed := by kernel_rfl
  f129 := Tryz.func47.trans (congrArg some (by kernel_rfl))
  f246 := Tryz.func26.trans (congrArg some (by kernel_rfl))
  f283 := Tryz.func37.trans (congrArg some (by kernel_rfl))
  f284 := Tryz.func38.trans (congrArg some (by kernel_rfl))
  f285 := Tryz.func39.trans (congrArg some (by kernel_rfl))
  f286 := Tryz.func40.trans (congrArg some (by kernel_rfl))
  f317 := Tryz.func46.trans (congrArg some (by kernel_rfl))
  f318 := Tryz.func48.trans (congrArg some (by kernel_rfl))
  f319 := Tryz.func49.trans (congrArg some (by kernel_rfl))
  f320 := Tryz.func50.trans (congrArg some (by kernel_rfl))
  f337 := Tryz.func61.trans (congrArg some (by kernel_rfl))
  f338 := Tryz.func62.trans (congrArg some (by kernel_rfl))
  t0 := Tryz.underlying0
  a0 := Tryz.isAgg0
  z0 := Tryz.sizeOf0
  v0 := Tryz.zeroValue0
  t2 := Tryz.underlying2
  a2 := Tryz.isAgg2
  z2 := Tryz.sizeOf2
  v2 := Tryz.zeroValue2
  t3 := Tryz.underlying3
  a3 := Tryz.isAgg3
  z3 := Tryz.sizeOf3
  v3 := Tryz.zeroValue3
  t4 := Tryz.underlying4
  a4 := Tryz.isAgg4
  z4 := Tryz.sizeOf4
  v4 := Tryz.zeroValue4
  t5 := Tryz.underlying5
  a5 := Tryz.isAgg5
  z5 := Tryz.sizeOf5
  v5 := Tryz.zeroValue5
  t9 := Tryz.underlying9
  a9 := Tryz.isAgg9
  z9 := Tryz.sizeOf9
  v9 := Tryz.zeroValue9
  t20 := Tryz.underlying20
  a20 := Tryz.isAgg20
  z20 := Tryz.sizeOf20
  v20 := Tryz.zeroValue20
  t37 := Tryz.underlying40
  a37 := Tryz.isAgg40
  z37 := Tryz.sizeOf40
  v37 := Tryz.zeroValue40
  t46 := Tryz.underlying87
  a46 := Tryz.isAgg87
  z46 := Tryz.sizeOf87
  v46 := Tryz.zeroValue87
  t51 := Tryz.underlying84
  a51 := Tryz.isAgg84
  z51 := Tryz.sizeOf84
  v51 := Tryz.zeroValue84
  t53 := Tryz.underlying29
  a53 := Tryz.isAgg29
  z53 := Tryz.sizeOf29
  v53 := Tryz.zeroValue29
  t171 := Tryz.underlying71
  a171 := Tryz.isAgg71
  z171 := Tryz.sizeOf71
  v171 := Tryz.zeroValue71
  t173 := Tryz.underlying74
  a173 := Tryz.isAgg74
  z173 := Tryz.sizeOf74
  v173 := Tryz.zeroValue74
  t212 := Tryz.underlying83
  a212 := Tryz.isAgg83
  z212 := Tryz.sizeOf83
  v212 := Tryz.zeroValue83
  t213 := Tryz.underlying85
  a213 := Tryz.isAgg85
  z213 := Tryz.sizeOf85
  t232 := Tryz.underlying114
  a232 := Tryz.isAgg114
  z232 := Tryz.sizeOf114
  v232 := Tryz.zeroValue114
  t233 := Tryz.underlying126
  a233 := Tryz.isAgg126
  z233 := Tryz.sizeOf126
  v233 := Tryz.zeroValue126
  g17 := by kernel_rfl
  g18 := by kernel_rfl
  g19 := by kernel_rfl
  i0 := by kernel_rfl
  i2 := by kernel_rfl
  i3 := by kernel_rfl
  i4 := by kernel_rfl
  i5 := by kernel_rfl
  i9 := by kernel_rfl
  i20 := by kernel_rfl
  i37 := by kernel_rfl
  i46 := by kernel_rfl
  i51 := by kernel_rfl
  i53 := by kernel_rfl
  i171 := by kernel_rfl
  i173 := by kernel_rfl
  i212 := by kernel_rfl
  i232 := by kernel_rfl
  i233 := by kernel_rfl
  m17 := by kernel_rfl
  m18 := by kernel_rfl
  m19 := by kernel_rfl }
open Go.RowKit Go.Sort Go.Lib in
/-- internal/strconv.FormatInt: "FormatInt returns the string representation of i in the given base": AT BASE 10: i's decimal numeral, for every int64. The world behind the call: the world before it, new blocks behind the heap, draws. (LAID: no walk: one application.) -/
theorem Tryz.internal_strconv_FormatInt_10 (n : Int) (h0 : -9223372036854775808 ≤ n) (h1 : n ≤ 9223372036854775807) (w : World) (htab : Lib.TabIs Tryz.prog w "internal/strconv.uint64pow10" .u64 Lib.pow10Tab) :
    Calls Tryz.prog 26 #[.int .i64 n, .int .i64 10] w fun e w' => e = .returned (.string ⟨(Lib.itoa n).toArray⟩) ∧ ∃ k os, w' = grow (w.drewN k) os := Any.internal_strconv_FormatInt_10 Tryz.laysM246 n h0 h1 w htab
def Tryz.lays246_ren : Go.Shelf.Ren := ⟨fun | 246 => 26 | 283 => 37 | 284 => 38 | 285 => 39 | 286 => 40 | 129 => 47 | 317 => 46 | 318 => 48 | 319 => 49 | 320 => 50 | 337 => 61 | 338 => 62 | n => n, fun | 2 => 2 | 3 => 3 | 9 => 9 | 4 => 4 | 171 => 71 | 0 => 0 | 53 => 29 | 37 => 40 | 5 => 5 | 173 => 74 | 212 => 83 | 51 => 84 | 20 => 20 | 213 => 85 | 46 => 87 | 232 => 114 | 233 => 126 | n => n, fun | 17 => 1 | 18 => 5 | 19 => 6 | n => n⟩
theorem Tryz.lays246 : Go.Proofs.Lays.n246 Tryz.prog Tryz.lays246_ren := {
  mixed := by kernel_rfl
  f129 := Tryz.func47.trans (congrArg some (by kernel_rfl))
  f246 := Tryz.func26.trans (congrArg some (by kernel_rfl))
  f283 := Tryz.func37.trans (congrArg some (by kernel_rfl))
  f284 := Tryz.func38.trans (congrArg some (by kernel_rfl))
  f285 := Tryz.func39.trans (congrArg some (by kernel_rfl))
  f286 := Tryz.func40.trans (congrArg some (by kernel_rfl))
  f317 := Tryz.func46.trans (congrArg some (by kernel_rfl))
  f318 := Tryz.func48.trans (congrArg some (by kernel_rfl))
  f319 := Tryz.func49.trans (congrArg some (by kernel_rfl))
  f320 := Tryz.func50.trans (congrArg some (by kernel_rfl))
  f337 := Tryz.func61.trans (congrArg some (by kernel_rfl))
  f338 := Tryz.func62.trans (congrArg some (by kernel_rfl))
  t0 := Tryz.underlying0
  a0 := Tryz.isAgg0
  z0 := Tryz.sizeOf0
  v0 := Tryz.zeroValue0
  t2 := Tryz.underlying2
  a2 := Tryz.isAgg2
  z2 := Tryz.sizeOf2
  v2 := Tryz.zeroValue2
  t3 := Tryz.underlying3
  a3 := Tryz.isAgg3
  z3 := Tryz.sizeOf3
  v3 := Tryz.zeroValue3
  t4 := Tryz.underlying4
  a4 := Tryz.isAgg4
  z4 := Tryz.sizeOf4
  v4 := Tryz.zeroValue4
  t5 := Tryz.underlying5
  a5 := Tryz.isAgg5
  z5 := Tryz.sizeOf5
  v5 := Tryz.zeroValue5
  t9 := Tryz.underlying9
  a9 := Tryz.isAgg9
  z9 := Tryz.sizeOf9
  v9 := Tryz.zeroValue9
  t20 := Tryz.underlying20
  a20 := Tryz.isAgg20
  z20 := Tryz.sizeOf20
  v20 := Tryz.zeroValue20
  t37 := Tryz.underlying40
  a37 := Tryz.isAgg40
  z37 := Tryz.sizeOf40
  v37 := Tryz.zeroValue40
  t46 := Tryz.underlying87
  a46 := Tryz.isAgg87
  z46 := Tryz.sizeOf87
  v46 := Tryz.zeroValue87
  t51 := Tryz.underlying84
  a51 := Tryz.isAgg84
  z51 := Tryz.sizeOf84
  v51 := Tryz.zeroValue84
  t53 := Tryz.underlying29
  a53 := Tryz.isAgg29
  z53 := Tryz.sizeOf29
  v53 := Tryz.zeroValue29
  t171 := Tryz.underlying71
  a171 := Tryz.isAgg71
  z171 := Tryz.sizeOf71
  v171 := Tryz.zeroValue71
  t173 := Tryz.underlying74
  a173 := Tryz.isAgg74
  z173 := Tryz.sizeOf74
  v173 := Tryz.zeroValue74
  t212 := Tryz.underlying83
  a212 := Tryz.isAgg83
  z212 := Tryz.sizeOf83
  v212 := Tryz.zeroValue83
  t213 := Tryz.underlying85
  a213 := Tryz.isAgg85
  z213 := Tryz.sizeOf85
  t232 := Tryz.underlying114
  a232 := Tryz.isAgg114
  z232 := Tryz.sizeOf114
  v232 := Tryz.zeroValue114
  t233 := Tryz.underlying126
  a233 := Tryz.isAgg126
  z233 := Tryz.sizeOf126
  v233 := Tryz.zeroValue126
  g17 := by kernel_rfl
  g18 := by kernel_rfl
  g19 := by kernel_rfl }
open Go.RowKit Go.Sort Go.Lib in
/-- THE ROAD WITHOUT THE TABLE: 0 <= i < 100: two constants are read, nothing is laid: no premise on the world, and the world is as it was. (LAID: no walk: one application.) -/
theorem Tryz.internal_strconv_FormatInt_10_small (i : Nat) (hi : i < 100) (w : World) :
    Calls Tryz.prog 26 #[.int .i64 i, .int .i64 10] w fun e w' => e = .returned (.string ⟨(Lib.decDigits i).toArray⟩) ∧ w' = w := Any.internal_strconv_FormatInt_10_small Tryz.lays246 i hi w
def Tryz.laysM243_ren : Go.Shelf.Ren := ⟨fun | 243 => 99 | 246 => 26 | 283 => 37 | 284 => 38 | 285 => 39 | 286 => 40 | 129 => 47 | 317 => 46 | 318 => 48 | 319 => 49 | 320 => 50 | 337 => 61 | 338 => 62 | n => n, fun | 3 => 3 | 9 => 9 | 2 => 2 | 4 => 4 | 171 => 71 | 0 => 0 | 53 => 29 | 37 => 40 | 5 => 5 | 173 => 74 | 212 => 83 | 51 => 84 | 20 => 20 | 213 => 85 | 46 => 87 | 232 => 114 | 233 => 126 | n => n, fun | 17 => 1 | 18 => 5 | 19 => 6 | n => n⟩
theorem Tryz.laysM243 : Go.Proofs.LaysM.n243 Tryz.prog Tryz.laysM243_ren := {
  mixed := by kernel_rfl
  f129 := Tryz.func47.trans (congrArg some (by kernel_rfl))
  f243 := Tryz.func99.trans (congrArg some (by kernel_rfl))
  f246 := Tryz.func26.trans (congrArg some (by kernel_rfl))
  f283 := Tryz.func37.trans (congrArg some (by kernel_rfl))
  f284 := Tryz.func38.trans (congrArg some (by kernel_rfl))
  f285 := Tryz.func39.trans (congrArg some (by kernel_rfl))
  f286 := Tryz.func40.trans (congrArg some (by kernel_rfl))
  f317 := Tryz.func46.trans (congrArg some (by kernel_rfl))
  f318 := Tryz.func48.trans (congrArg some (by kernel_rfl))
  f319 := Tryz.func49.trans (congrArg some (by kernel_rfl))
  f320 := Tryz.func50.trans (congrArg some (by kernel_rfl))
  f337 := Tryz.func61.trans (congrArg some (by kernel_rfl))
  f338 := Tryz.func62.trans (congrArg some (by kernel_rfl))
  t0 := Tryz.underlying0
  a0 := Tryz.isAgg0
  z0 := Tryz.sizeOf0
  v0 := Tryz.zeroValue0
  t2 := Tryz.underlying2
  a2 := Tryz.isAgg2
  z2 := Tryz.sizeOf2
  v2 := Tryz.zeroValue2
  t3 := Tryz.underlying3
  a3 := Tryz.isAgg3
  z3 := Tryz.sizeOf3
  v3 := Tryz.zeroValue3
  t4 := Tryz.underlying4
  a4 := Tryz.isAgg4
  z4 := Tryz.sizeOf4
  v4 := Tryz.zeroValue4
  t5 := Tryz.underlying5
  a5 := Tryz.isAgg5
  z5 := Tryz.sizeOf5
  v5 := Tryz.zeroValue5
  t9 := Tryz.underlying9
  a9 := Tryz.isAgg9
  z9 := Tryz.sizeOf9
  v9 := Tryz.zeroValue9
  t20 := Tryz.underlying20
  a20 := Tryz.isAgg20
  z20 := Tryz.sizeOf20
  v20 := Tryz.zeroValue20
  t37 := Tryz.underlying40
  a37 := Tryz.isAgg40
  z37 := Tryz.sizeOf40
  v37 := Tryz.zeroValue40
  t46 := Tryz.underlying87
  a46 := Tryz.isAgg87
  z46 := Tryz.sizeOf87
  v46 := Tryz.zeroValue87
  t51 := Tryz.underlying84
  a51 := Tryz.isAgg84
  z51 := Tryz.sizeOf84
  v51 := Tryz.zeroValue84
  t53 := Tryz.underlying29
  a53 := Tryz.isAgg29
  z53 := Tryz.sizeOf29
  v53 := Tryz.zeroValue29
  t171 := Tryz.underlying71
  a171 := Tryz.isAgg71
  z171 := Tryz.sizeOf71
  v171 := Tryz.zeroValue71
  t173 := Tryz.underlying74
  a173 := Tryz.isAgg74
  z173 := Tryz.sizeOf74
  v173 := Tryz.zeroValue74
  t212 := Tryz.underlying83
  a212 := Tryz.isAgg83
  z212 := Tryz.sizeOf83
  v212 := Tryz.zeroValue83
  t213 := Tryz.underlying85
  a213 := Tryz.isAgg85
  z213 := Tryz.sizeOf85
  t232 := Tryz.underlying114
  a232 := Tryz.isAgg114
  z232 := Tryz.sizeOf114
  v232 := Tryz.zeroValue114
  t233 := Tryz.underlying126
  a233 := Tryz.isAgg126
  z233 := Tryz.sizeOf126
  v233 := Tryz.zeroValue126
  g17 := by kernel_rfl
  g18 := by kernel_rfl
  g19 := by kernel_rfl
  i0 := by kernel_rfl
  i2 := by kernel_rfl
  i3 := by kernel_rfl
  i4 := by kernel_rfl
  i5 := by kernel_rfl
  i9 := by kernel_rfl
  i20 := by kernel_rfl
  i37 := by kernel_rfl
  i46 := by kernel_rfl
  i51 := by kernel_rfl
  i53 := by kernel_rfl
  i171 := by kernel_rfl
  i173 := by kernel_rfl
  i212 := by kernel_rfl
  i232 := by kernel_rfl
  i233 := by kernel_rfl
  m17 := by kernel_rfl
  m18 := by kernel_rfl
  m19 := by kernel_rfl }
open Go.RowKit Go.Sort Go.Lib in
/-- internal/strconv.Itoa: "Itoa is equivalent to FormatInt(int64(i), 10).": i's decimal numeral, for every int. (LAID: no walk: one application.) -/
theorem Tryz.internal_strconv_Itoa (n : Int) (h0 : -9223372036854775808 ≤ n) (h1 : n ≤ 9223372036854775807) (w : World) (htab : Lib.TabIs Tryz.prog w "internal/strconv.uint64pow10" .u64 Lib.pow10Tab) :
    Calls Tryz.prog 99 #[.int .i64 n] w fun e w' => e = .returned (.string ⟨(Lib.itoa n).toArray⟩) ∧ ∃ k os, w' = grow (w.drewN k) os := Any.internal_strconv_Itoa Tryz.laysM243 n h0 h1 w htab
def Tryz.lays243_ren : Go.Shelf.Ren := ⟨fun | 243 => 99 | 246 => 26 | 283 => 37 | 284 => 38 | 285 => 39 | 286 => 40 | 129 => 47 | 317 => 46 | 318 => 48 | 319 => 49 | 320 => 50 | 337 => 61 | 338 => 62 | n => n, fun | 3 => 3 | 9 => 9 | 2 => 2 | 4 => 4 | 171 => 71 | 0 => 0 | 53 => 29 | 37 => 40 | 5 => 5 | 173 => 74 | 212 => 83 | 51 => 84 | 20 => 20 | 213 => 85 | 46 => 87 | 232 => 114 | 233 => 126 | n => n, fun | 17 => 1 | 18 => 5 | 19 => 6 | n => n⟩
theorem Tryz.lays243 : Go.Proofs.Lays.n243 Tryz.prog Tryz.lays243_ren := {
  mixed := by kernel_rfl
  f129 := Tryz.func47.trans (congrArg some (by kernel_rfl))
  f243 := Tryz.func99.trans (congrArg some (by kernel_rfl))
  f246 := Tryz.func26.trans (congrArg some (by kernel_rfl))
  f283 := Tryz.func37.trans (congrArg some (by kernel_rfl))
  f284 := Tryz.func38.trans (congrArg some (by kernel_rfl))
  f285 := Tryz.func39.trans (congrArg some (by kernel_rfl))
  f286 := Tryz.func40.trans (congrArg some (by kernel_rfl))
  f317 := Tryz.func46.trans (congrArg some (by kernel_rfl))
  f318 := Tryz.func48.trans (congrArg some (by kernel_rfl))
  f319 := Tryz.func49.trans (congrArg some (by kernel_rfl))
  f320 := Tryz.func50.trans (congrArg some (by kernel_rfl))
  f337 := Tryz.func61.trans (congrArg some (by kernel_rfl))
  f338 := Tryz.func62.trans (congrArg some (by kernel_rfl))
  t0 := Tryz.underlying0
  a0 := Tryz.isAgg0
  z0 := Tryz.sizeOf0
  v0 := Tryz.zeroValue0
  t2 := Tryz.underlying2
  a2 := Tryz.isAgg2
  z2 := Tryz.sizeOf2
  v2 := Tryz.zeroValue2
  t3 := Tryz.underlying3
  a3 := Tryz.isAgg3
  z3 := Tryz.sizeOf3
  v3 := Tryz.zeroValue3
  t4 := Tryz.underlying4
  a4 := Tryz.isAgg4
  z4 := Tryz.sizeOf4
  v4 := Tryz.zeroValue4
  t5 := Tryz.underlying5
  a5 := Tryz.isAgg5
  z5 := Tryz.sizeOf5
  v5 := Tryz.zeroValue5
  t9 := Tryz.underlying9
  a9 := Tryz.isAgg9
  z9 := Tryz.sizeOf9
  v9 := Tryz.zeroValue9
  t20 := Tryz.underlying20
  a20 := Tryz.isAgg20
  z20 := Tryz.sizeOf20
  v20 := Tryz.zeroValue20
  t37 := Tryz.underlying40
  a37 := Tryz.isAgg40
  z37 := Tryz.sizeOf40
  v37 := Tryz.zeroValue40
  t46 := Tryz.underlying87
  a46 := Tryz.isAgg87
  z46 := Tryz.sizeOf87
  v46 := Tryz.zeroValue87
  t51 := Tryz.underlying84
  a51 := Tryz.isAgg84
  z51 := Tryz.sizeOf84
  v51 := Tryz.zeroValue84
  t53 := Tryz.underlying29
  a53 := Tryz.isAgg29
  z53 := Tryz.sizeOf29
  v53 := Tryz.zeroValue29
  t171 := Tryz.underlying71
  a171 := Tryz.isAgg71
  z171 := Tryz.sizeOf71
  v171 := Tryz.zeroValue71
  t173 := Tryz.underlying74
  a173 := Tryz.isAgg74
  z173 := Tryz.sizeOf74
  v173 := Tryz.zeroValue74
  t212 := Tryz.underlying83
  a212 := Tryz.isAgg83
  z212 := Tryz.sizeOf83
  v212 := Tryz.zeroValue83
  t213 := Tryz.underlying85
  a213 := Tryz.isAgg85
  z213 := Tryz.sizeOf85
  t232 := Tryz.underlying114
  a232 := Tryz.isAgg114
  z232 := Tryz.sizeOf114
  v232 := Tryz.zeroValue114
  t233 := Tryz.underlying126
  a233 := Tryz.isAgg126
  z233 := Tryz.sizeOf126
  v233 := Tryz.zeroValue126
  g17 := by kernel_rfl
  g18 := by kernel_rfl
  g19 := by kernel_rfl }
open Go.RowKit Go.Sort Go.Lib in
/-- THE ROAD WITHOUT THE TABLE: 0 <= i < 100. (LAID: no walk: one application.) -/
theorem Tryz.internal_strconv_Itoa_small (i : Nat) (hi : i < 100) (w : World) :
    Calls Tryz.prog 99 #[.int .i64 i] w fun e w' => e = .returned (.string ⟨(Lib.decDigits i).toArray⟩) ∧ w' = w := Any.internal_strconv_Itoa_small Tryz.lays243 i hi w
def Tryz.laysM171_ren : Go.Shelf.Ren := ⟨fun | 171 => 68 | 243 => 99 | 246 => 26 | 283 => 37 | 284 => 38 | 285 => 39 | 286 => 40 | 129 => 47 | 317 => 46 | 318 => 48 | 319 => 49 | 320 => 50 | 337 => 61 | 338 => 62 | n => n, fun | 3 => 3 | 9 => 9 | 2 => 2 | 4 => 4 | 171 => 71 | 0 => 0 | 53 => 29 | 37 => 40 | 5 => 5 | 173 => 74 | 212 => 83 | 51 => 84 | 20 => 20 | 213 => 85 | 46 => 87 | 232 => 114 | 233 => 126 | n => n, fun | 17 => 1 | 18 => 5 | 19 => 6 | n => n⟩
theorem Tryz.laysM171 : Go.Proofs.LaysM.n171 Tryz.prog Tryz.laysM171_ren := {
  mixed := by kernel_rfl
  f129 := Tryz.func47.trans (congrArg some (by kernel_rfl))
  f171 := Tryz.func68.trans (congrArg some (by kernel_rfl))
  f243 := Tryz.func99.trans (congrArg some (by kernel_rfl))
  f246 := Tryz.func26.trans (congrArg some (by kernel_rfl))
  f283 := Tryz.func37.trans (congrArg some (by kernel_rfl))
  f284 := Tryz.func38.trans (congrArg some (by kernel_rfl))
  f285 := Tryz.func39.trans (congrArg some (by kernel_rfl))
  f286 := Tryz.func40.trans (congrArg some (by kernel_rfl))
  f317 := Tryz.func46.trans (congrArg some (by kernel_rfl))
  f318 := Tryz.func48.trans (congrArg some (by kernel_rfl))
  f319 := Tryz.func49.trans (congrArg some (by kernel_rfl))
  f320 := Tryz.func50.trans (congrArg some (by kernel_rfl))
  f337 := Tryz.func61.trans (congrArg some (by kernel_rfl))
  f338 := Tryz.func62.trans (congrArg some (by kernel_rfl))
  t0 := Tryz.underlying0
  a0 := Tryz.isAgg0
  z0 := Tryz.sizeOf0
  v0 := Tryz.zeroValue0
  t2 := Tryz.underlying2
  a2 := Tryz.isAgg2
  z2 := Tryz.sizeOf2
  v2 := Tryz.zeroValue2
  t3 := Tryz.underlying3
  a3 := Tryz.isAgg3
  z3 := Tryz.sizeOf3
  v3 := Tryz.zeroValue3
  t4 := Tryz.underlying4
  a4 := Tryz.isAgg4
  z4 := Tryz.sizeOf4
  v4 := Tryz.zeroValue4
  t5 := Tryz.underlying5
  a5 := Tryz.isAgg5
  z5 := Tryz.sizeOf5
  v5 := Tryz.zeroValue5
  t9 := Tryz.underlying9
  a9 := Tryz.isAgg9
  z9 := Tryz.sizeOf9
  v9 := Tryz.zeroValue9
  t20 := Tryz.underlying20
  a20 := Tryz.isAgg20
  z20 := Tryz.sizeOf20
  v20 := Tryz.zeroValue20
  t37 := Tryz.underlying40
  a37 := Tryz.isAgg40
  z37 := Tryz.sizeOf40
  v37 := Tryz.zeroValue40
  t46 := Tryz.underlying87
  a46 := Tryz.isAgg87
  z46 := Tryz.sizeOf87
  v46 := Tryz.zeroValue87
  t51 := Tryz.underlying84
  a51 := Tryz.isAgg84
  z51 := Tryz.sizeOf84
  v51 := Tryz.zeroValue84
  t53 := Tryz.underlying29
  a53 := Tryz.isAgg29
  z53 := Tryz.sizeOf29
  v53 := Tryz.zeroValue29
  t171 := Tryz.underlying71
  a171 := Tryz.isAgg71
  z171 := Tryz.sizeOf71
  v171 := Tryz.zeroValue71
  t173 := Tryz.underlying74
  a173 := Tryz.isAgg74
  z173 := Tryz.sizeOf74
  v173 := Tryz.zeroValue74
  t212 := Tryz.underlying83
  a212 := Tryz.isAgg83
  z212 := Tryz.sizeOf83
  v212 := Tryz.zeroValue83
  t213 := Tryz.underlying85
  a213 := Tryz.isAgg85
  z213 := Tryz.sizeOf85
  t232 := Tryz.underlying114
  a232 := Tryz.isAgg114
  z232 := Tryz.sizeOf114
  v232 := Tryz.zeroValue114
  t233 := Tryz.underlying126
  a233 := Tryz.isAgg126
  z233 := Tryz.sizeOf126
  v233 := Tryz.zeroValue126
  g17 := by kernel_rfl
  g18 := by kernel_rfl
  g19 := by kernel_rfl
  i0 := by kernel_rfl
  i2 := by kernel_rfl
  i3 := by kernel_rfl
  i4 := by kernel_rfl
  i5 := by kernel_rfl
  i9 := by kernel_rfl
  i20 := by kernel_rfl
  i37 := by kernel_rfl
  i46 := by kernel_rfl
  i51 := by kernel_rfl
  i53 := by kernel_rfl
  i171 := by kernel_rfl
  i173 := by kernel_rfl
  i212 := by kernel_rfl
  i232 := by kernel_rfl
  i233 := by kernel_rfl
  m17 := by kernel_rfl
  m18 := by kernel_rfl
  m19 := by kernel_rfl }
open Go.RowKit Go.Sort Go.Lib in
/-- strconv.Itoa: "Itoa is equivalent to FormatInt(int64(i), 10).": i's DECIMAL NUMERAL ('Lib.itoa': a '-' where i is negative, then the digits), FOR EVERY int. The world behind the call: the world before it, new blocks behind the heap (the library's 'var a [24]byte'), draws. (LAID: no walk: one application.) -/
theorem Tryz.strconv_Itoa (n : Int) (h0 : -9223372036854775808 ≤ n) (h1 : n ≤ 9223372036854775807) (w : World) (htab : Lib.TabIs Tryz.prog w "internal/strconv.uint64pow10" .u64 Lib.pow10Tab) :
    Calls Tryz.prog 68 #[.int .i64 n] w fun e w' => e = .returned (.string ⟨(Lib.itoa n).toArray⟩) ∧ ∃ k os, w' = grow (w.drewN k) os := Any.strconv_Itoa Tryz.laysM171 n h0 h1 w htab
def Tryz.lays171_ren : Go.Shelf.Ren := ⟨fun | 171 => 68 | 243 => 99 | 246 => 26 | 283 => 37 | 284 => 38 | 285 => 39 | 286 => 40 | 129 => 47 | 317 => 46 | 318 => 48 | 319 => 49 | 320 => 50 | 337 => 61 | 338 => 62 | n => n, fun | 3 => 3 | 9 => 9 | 2 => 2 | 4 => 4 | 171 => 71 | 0 => 0 | 53 => 29 | 37 => 40 | 5 => 5 | 173 => 74 | 212 => 83 | 51 => 84 | 20 => 20 | 213 => 85 | 46 => 87 | 232 => 114 | 233 => 126 | n => n, fun | 17 => 1 | 18 => 5 | 19 => 6 | n => n⟩
theorem Tryz.lays171 : Go.Proofs.Lays.n171 Tryz.prog Tryz.lays171_ren := {
  mixed := by kernel_rfl
  f129 := Tryz.func47.trans (congrArg some (by kernel_rfl))
  f171 := Tryz.func68.trans (congrArg some (by kernel_rfl))
  f243 := Tryz.func99.trans (congrArg some (by kernel_rfl))
  f246 := Tryz.func26.trans (congrArg some (by kernel_rfl))
  f283 := Tryz.func37.trans (congrArg some (by kernel_rfl))
  f284 := Tryz.func38.trans (congrArg some (by kernel_rfl))
  f285 := Tryz.func39.trans (congrArg some (by kernel_rfl))
  f286 := Tryz.func40.trans (congrArg some (by kernel_rfl))
  f317 := Tryz.func46.trans (congrArg some (by kernel_rfl))
  f318 := Tryz.func48.trans (congrArg some (by kernel_rfl))
  f319 := Tryz.func49.trans (congrArg some (by kernel_rfl))
  f320 := Tryz.func50.trans (congrArg some (by kernel_rfl))
  f337 := Tryz.func61.trans (congrArg some (by kernel_rfl))
  f338 := Tryz.func62.trans (congrArg some (by kernel_rfl))
  t0 := Tryz.underlying0
  a0 := Tryz.isAgg0
  z0 := Tryz.sizeOf0
  v0 := Tryz.zeroValue0
  t2 := Tryz.underlying2
  a2 := Tryz.isAgg2
  z2 := Tryz.sizeOf2
  v2 := Tryz.zeroValue2
  t3 := Tryz.underlying3
  a3 := Tryz.isAgg3
  z3 := Tryz.sizeOf3
  v3 := Tryz.zeroValue3
  t4 := Tryz.underlying4
  a4 := Tryz.isAgg4
  z4 := Tryz.sizeOf4
  v4 := Tryz.zeroValue4
  t5 := Tryz.underlying5
  a5 := Tryz.isAgg5
  z5 := Tryz.sizeOf5
  v5 := Tryz.zeroValue5
  t9 := Tryz.underlying9
  a9 := Tryz.isAgg9
  z9 := Tryz.sizeOf9
  v9 := Tryz.zeroValue9
  t20 := Tryz.underlying20
  a20 := Tryz.isAgg20
  z20 := Tryz.sizeOf20
  v20 := Tryz.zeroValue20
  t37 := Tryz.underlying40
  a37 := Tryz.isAgg40
  z37 := Tryz.sizeOf40
  v37 := Tryz.zeroValue40
  t46 := Tryz.underlying87
  a46 := Tryz.isAgg87
  z46 := Tryz.sizeOf87
  v46 := Tryz.zeroValue87
  t51 := Tryz.underlying84
  a51 := Tryz.isAgg84
  z51 := Tryz.sizeOf84
  v51 := Tryz.zeroValue84
  t53 := Tryz.underlying29
  a53 := Tryz.isAgg29
  z53 := Tryz.sizeOf29
  v53 := Tryz.zeroValue29
  t171 := Tryz.underlying71
  a171 := Tryz.isAgg71
  z171 := Tryz.sizeOf71
  v171 := Tryz.zeroValue71
  t173 := Tryz.underlying74
  a173 := Tryz.isAgg74
  z173 := Tryz.sizeOf74
  v173 := Tryz.zeroValue74
  t212 := Tryz.underlying83
  a212 := Tryz.isAgg83
  z212 := Tryz.sizeOf83
  v212 := Tryz.zeroValue83
  t213 := Tryz.underlying85
  a213 := Tryz.isAgg85
  z213 := Tryz.sizeOf85
  t232 := Tryz.underlying114
  a232 := Tryz.isAgg114
  z232 := Tryz.sizeOf114
  v232 := Tryz.zeroValue114
  t233 := Tryz.underlying126
  a233 := Tryz.isAgg126
  z233 := Tryz.sizeOf126
  v233 := Tryz.zeroValue126
  g17 := by kernel_rfl
  g18 := by kernel_rfl
  g19 := by kernel_rfl }
open Go.RowKit Go.Sort Go.Lib in
/-- THE ROAD WITHOUT THE TABLE: 0 <= i < 100: NO PREMISE ON THE WORLD, AND THE WORLD IS AS IT WAS: a row that keeps its argument in that range need list no table ('laid = []'). (LAID: no walk: one application.) -/
theorem Tryz.strconv_Itoa_small (i : Nat) (hi : i < 100) (w : World) :
    Calls Tryz.prog 68 #[.int .i64 i] w fun e w' => e = .returned (.string ⟨(Lib.decDigits i).toArray⟩) ∧ w' = w := Any.strconv_Itoa_small Tryz.lays171 i hi w
def Tryz.laysM173_ren : Go.Shelf.Ren := ⟨fun | 173 => 14 | 246 => 26 | 283 => 37 | 284 => 38 | 285 => 39 | 286 => 40 | 129 => 47 | 317 => 46 | 318 => 48 | 319 => 49 | 320 => 50 | 337 => 61 | 338 => 62 | n => n, fun | 2 => 2 | 3 => 3 | 9 => 9 | 4 => 4 | 171 => 71 | 0 => 0 | 53 => 29 | 37 => 40 | 5 => 5 | 173 => 74 | 212 => 83 | 51 => 84 | 20 => 20 | 213 => 85 | 46 => 87 | 232 => 114 | 233 => 126 | n => n, fun | 17 => 1 | 18 => 5 | 19 => 6 | n => n⟩
theorem Tryz.laysM173 : Go.Proofs.LaysM.n173 Tryz.prog Tryz.laysM173_ren := {
  mixed := by kernel_rfl
  f129 := Tryz.func47.trans (congrArg some (by kernel_rfl))
  f173 := Tryz.func14.trans (congrArg some (by kernel_rfl))
  f246 := Tryz.func26.trans (congrArg some (by kernel_rfl))
  f283 := Tryz.func37.trans (congrArg some (by kernel_rfl))
  f284 := Tryz.func38.trans (congrArg some (by kernel_rfl))
  f285 := Tryz.func39.trans (congrArg some (by kernel_rfl))
  f286 := Tryz.func40.trans (congrArg some (by kernel_rfl))
  f317 := Tryz.func46.trans (congrArg some (by kernel_rfl))
  f318 := Tryz.func48.trans (congrArg some (by kernel_rfl))
  f319 := Tryz.func49.trans (congrArg some (by kernel_rfl))
  f320 := Tryz.func50.trans (congrArg some (by kernel_rfl))
  f337 := Tryz.func61.trans (congrArg some (by kernel_rfl))
  f338 := Tryz.func62.trans (congrArg some (by kernel_rfl))
  t0 := Tryz.underlying0
  a0 := Tryz.isAgg0
  z0 := Tryz.sizeOf0
  v0 := Tryz.zeroValue0
  t2 := Tryz.underlying2
  a2 := Tryz.isAgg2
  z2 := Tryz.sizeOf2
  v2 := Tryz.zeroValue2
  t3 := Tryz.underlying3
  a3 := Tryz.isAgg3
  z3 := Tryz.sizeOf3
  v3 := Tryz.zeroValue3
  t4 := Tryz.underlying4
  a4 := Tryz.isAgg4
  z4 := Tryz.sizeOf4
  v4 := Tryz.zeroValue4
  t5 := Tryz.underlying5
  a5 := Tryz.isAgg5
  z5 := Tryz.sizeOf5
  v5 := Tryz.zeroValue5
  t9 := Tryz.underlying9
  a9 := Tryz.isAgg9
  z9 := Tryz.sizeOf9
  v9 := Tryz.zeroValue9
  t20 := Tryz.underlying20
  a20 := Tryz.isAgg20
  z20 := Tryz.sizeOf20
  v20 := Tryz.zeroValue20
  t37 := Tryz.underlying40
  a37 := Tryz.isAgg40
  z37 := Tryz.sizeOf40
  v37 := Tryz.zeroValue40
  t46 := Tryz.underlying87
  a46 := Tryz.isAgg87
  z46 := Tryz.sizeOf87
  v46 := Tryz.zeroValue87
  t51 := Tryz.underlying84
  a51 := Tryz.isAgg84
  z51 := Tryz.sizeOf84
  v51 := Tryz.zeroValue84
  t53 := Tryz.underlying29
  a53 := Tryz.isAgg29
  z53 := Tryz.sizeOf29
  v53 := Tryz.zeroValue29
  t171 := Tryz.underlying71
  a171 := Tryz.isAgg71
  z171 := Tryz.sizeOf71
  v171 := Tryz.zeroValue71
  t173 := Tryz.underlying74
  a173 := Tryz.isAgg74
  z173 := Tryz.sizeOf74
  v173 := Tryz.zeroValue74
  t212 := Tryz.underlying83
  a212 := Tryz.isAgg83
  z212 := Tryz.sizeOf83
  v212 := Tryz.zeroValue83
  t213 := Tryz.underlying85
  a213 := Tryz.isAgg85
  z213 := Tryz.sizeOf85
  t232 := Tryz.underlying114
  a232 := Tryz.isAgg114
  z232 := Tryz.sizeOf114
  v232 := Tryz.zeroValue114
  t233 := Tryz.underlying126
  a233 := Tryz.isAgg126
  z233 := Tryz.sizeOf126
  v233 := Tryz.zeroValue126
  g17 := by kernel_rfl
  g18 := by kernel_rfl
  g19 := by kernel_rfl
  i0 := by kernel_rfl
  i2 := by kernel_rfl
  i3 := by kernel_rfl
  i4 := by kernel_rfl
  i5 := by kernel_rfl
  i9 := by kernel_rfl
  i20 := by kernel_rfl
  i37 := by kernel_rfl
  i46 := by kernel_rfl
  i51 := by kernel_rfl
  i53 := by kernel_rfl
  i171 := by kernel_rfl
  i173 := by kernel_rfl
  i212 := by kernel_rfl
  i232 := by kernel_rfl
  i233 := by kernel_rfl
  m17 := by kernel_rfl
  m18 := by kernel_rfl
  m19 := by kernel_rfl }
open Go.RowKit Go.Sort Go.Lib in
/-- strconv.FormatInt: "FormatInt returns the string representation of i in the given base": AT BASE 10: i's decimal numeral, for every int64. (LAID: no walk: one application.) -/
theorem Tryz.strconv_FormatInt_10 (n : Int) (h0 : -9223372036854775808 ≤ n) (h1 : n ≤ 9223372036854775807) (w : World) (htab : Lib.TabIs Tryz.prog w "internal/strconv.uint64pow10" .u64 Lib.pow10Tab) :
    Calls Tryz.prog 14 #[.int .i64 n, .int .i64 10] w fun e w' => e = .returned (.string ⟨(Lib.itoa n).toArray⟩) ∧ ∃ k os, w' = grow (w.drewN k) os := Any.strconv_FormatInt_10 Tryz.laysM173 n h0 h1 w htab
def Tryz.lays173_ren : Go.Shelf.Ren := ⟨fun | 173 => 14 | 246 => 26 | 283 => 37 | 284 => 38 | 285 => 39 | 286 => 40 | 129 => 47 | 317 => 46 | 318 => 48 | 319 => 49 | 320 => 50 | 337 => 61 | 338 => 62 | n => n, fun | 2 => 2 | 3 => 3 | 9 => 9 | 4 => 4 | 171 => 71 | 0 => 0 | 53 => 29 | 37 => 40 | 5 => 5 | 173 => 74 | 212 => 83 | 51 => 84 | 20 => 20 | 213 => 85 | 46 => 87 | 232 => 114 | 233 => 126 | n => n, fun | 17 => 1 | 18 => 5 | 19 => 6 | n => n⟩
theorem Tryz.lays173 : Go.Proofs.Lays.n173 Tryz.prog Tryz.lays173_ren := {
  mixed := by kernel_rfl
  f129 := Tryz.func47.trans (congrArg some (by kernel_rfl))
  f173 := Tryz.func14.trans (congrArg some (by kernel_rfl))
  f246 := Tryz.func26.trans (congrArg some (by kernel_rfl))
  f283 := Tryz.func37.trans (congrArg some (by kernel_rfl))
  f284 := Tryz.func38.trans (congrArg some (by kernel_rfl))
  f285 := Tryz.func39.trans (congrArg some (by kernel_rfl))
  f286 := Tryz.func40.trans (congrArg some (by kernel_rfl))
  f317 := Tryz.func46.trans (congrArg some (by kernel_rfl))
  f318 := Tryz.func48.trans (congrArg some (by kernel_rfl))
  f319 := Tryz.func49.trans (congrArg some (by kernel_rfl))
  f320 := Tryz.func50.trans (congrArg some (by kernel_rfl))
  f337 := Tryz.func61.trans (congrArg some (by kernel_rfl))
  f338 := Tryz.func62.trans (congrArg some (by kernel_rfl))
  t0 := Tryz.underlying0
  a0 := Tryz.isAgg0
  z0 := Tryz.sizeOf0
  v0 := Tryz.zeroValue0
  t2 := Tryz.underlying2
  a2 := Tryz.isAgg2
  z2 := Tryz.sizeOf2
  v2 := Tryz.zeroValue2
  t3 := Tryz.underlying3
  a3 := Tryz.isAgg3
  z3 := Tryz.sizeOf3
  v3 := Tryz.zeroValue3
  t4 := Tryz.underlying4
  a4 := Tryz.isAgg4
  z4 := Tryz.sizeOf4
  v4 := Tryz.zeroValue4
  t5 := Tryz.underlying5
  a5 := Tryz.isAgg5
  z5 := Tryz.sizeOf5
  v5 := Tryz.zeroValue5
  t9 := Tryz.underlying9
  a9 := Tryz.isAgg9
  z9 := Tryz.sizeOf9
  v9 := Tryz.zeroValue9
  t20 := Tryz.underlying20
  a20 := Tryz.isAgg20
  z20 := Tryz.sizeOf20
  v20 := Tryz.zeroValue20
  t37 := Tryz.underlying40
  a37 := Tryz.isAgg40
  z37 := Tryz.sizeOf40
  v37 := Tryz.zeroValue40
  t46 := Tryz.underlying87
  a46 := Tryz.isAgg87
  z46 := Tryz.sizeOf87
  v46 := Tryz.zeroValue87
  t51 := Tryz.underlying84
  a51 := Tryz.isAgg84
  z51 := Tryz.sizeOf84
  v51 := Tryz.zeroValue84
  t53 := Tryz.underlying29
  a53 := Tryz.isAgg29
  z53 := Tryz.sizeOf29
  v53 := Tryz.zeroValue29
  t171 := Tryz.underlying71
  a171 := Tryz.isAgg71
  z171 := Tryz.sizeOf71
  v171 := Tryz.zeroValue71
  t173 := Tryz.underlying74
  a173 := Tryz.isAgg74
  z173 := Tryz.sizeOf74
  v173 := Tryz.zeroValue74
  t212 := Tryz.underlying83
  a212 := Tryz.isAgg83
  z212 := Tryz.sizeOf83
  v212 := Tryz.zeroValue83
  t213 := Tryz.underlying85
  a213 := Tryz.isAgg85
  z213 := Tryz.sizeOf85
  t232 := Tryz.underlying114
  a232 := Tryz.isAgg114
  z232 := Tryz.sizeOf114
  v232 := Tryz.zeroValue114
  t233 := Tryz.underlying126
  a233 := Tryz.isAgg126
  z233 := Tryz.sizeOf126
  v233 := Tryz.zeroValue126
  g17 := by kernel_rfl
  g18 := by kernel_rfl
  g19 := by kernel_rfl }
open Go.RowKit Go.Sort Go.Lib in
/-- THE ROAD WITHOUT THE TABLE: 0 <= i < 100. (LAID: no walk: one application.) -/
theorem Tryz.strconv_FormatInt_10_small (i : Nat) (hi : i < 100) (w : World) :
    Calls Tryz.prog 14 #[.int .i64 i, .int .i64 10] w fun e w' => e = .returned (.string ⟨(Lib.decDigits i).toArray⟩) ∧ w' = w := Any.strconv_FormatInt_10_small Tryz.lays173 i hi w
def Tryz.lays321_ren : Go.Shelf.Ren := ⟨fun | 321 => 59 | n => n, fun | 5 => 5 | n => n, fun | n => n⟩
theorem Tryz.lays321 : Go.Proofs.Lays.n321 Tryz.prog Tryz.lays321_ren := {
  mixed := by kernel_rfl
  f321 := Tryz.func59.trans (congrArg some (by kernel_rfl))
  t5 := Tryz.underlying5
  a5 := Tryz.isAgg5
  z5 := Tryz.sizeOf5
  v5 := Tryz.zeroValue5 }
open Go.RowKit in
/-- internal/strconv.lower: 'c | ('x' - 'X')': the bit 32 set. The world is as it was. (LAID: no walk: one application.) -/
theorem Tryz.internal_strconv_lower (c : Int) (w : World) :
    Calls Tryz.prog 59 #[.int .u8 c] w fun e w' => e = .returned (.int .u8 (bits .or .u8 c 32)) ∧ w' = w := Any.internal_strconv_lower Tryz.lays321 c w
def Tryz.laysPu14_ren : Go.Shelf.Ren := ⟨fun | 14 => 34 | 16 => 45 | 17 => 43 | 19 => 59 | 20 => 60 | 21 => 53 | 22 => 54 | 23 => 55 | 24 => 56 | 25 => 67 | 27 => 68 | 26 => 28 | 28 => 99 | 29 => 26 | 30 => 37 | 31 => 38 | 32 => 39 | 33 => 40 | 35 => 47 | 34 => 46 | 36 => 48 | 37 => 49 | 38 => 50 | 39 => 61 | 40 => 62 | n => n, fun | 9 => 9 | 3 => 3 | 22 => 29 | 24 => 42 | 25 => 62 | 4 => 4 | 34 => 92 | 5 => 5 | 36 => 87 | 37 => 40 | 0 => 0 | 39 => 93 | 21 => 21 | 44 => 109 | 47 => 147 | 50 => 79 | 48 => 77 | 2 => 2 | 52 => 71 | 55 => 74 | 59 => 83 | 60 => 84 | 20 => 20 | 61 => 85 | 65 => 114 | 66 => 126 | 67 => 48 | n => n, fun | 0 => 2 | 1 => 3 | 2 => 1 | 3 => 5 | 4 => 6 | n => n⟩
theorem Tryz.laysPu14 : Go.Proofs.LaysPu.n14 Tryz.prog Tryz.laysPu14_ren := {
  mixed := by kernel_rfl
  f14 := Tryz.func34.trans (congrArg some (by kernel_rfl))
  f16 := Tryz.func45.trans (congrArg some (by kernel_rfl))
  f17 := Tryz.func43.trans (congrArg some (by kernel_rfl))
  f19 := Tryz.func59.trans (congrArg some (by kernel_rfl))
  f20 := Tryz.func60.trans (congrArg some (by kernel_rfl))
  f21 := Tryz.func53.trans (congrArg some (by kernel_rfl))
  f22 := Tryz.func54.trans (congrArg some (by kernel_rfl))
  f23 := Tryz.func55.trans (congrArg some (by kernel_rfl))
  f24 := Tryz.func56.trans (congrArg some (by kernel_rfl))
  f25 := Tryz.func67.trans (congrArg some (by kernel_rfl))
  f26 := Tryz.func28.trans (congrArg some (by kernel_rfl))
  f27 := Tryz.func68.trans (congrArg some (by kernel_rfl))
  f28 := Tryz.func99.trans (congrArg some (by kernel_rfl))
  f29 := Tryz.func26.trans (congrArg some (by kernel_rfl))
  f30 := Tryz.func37.trans (congrArg some (by kernel_rfl))
  f31 := Tryz.func38.trans (congrArg some (by kernel_rfl))
  f32 := Tryz.func39.trans (congrArg some (by kernel_rfl))
  f33 := Tryz.func40.trans (congrArg some (by kernel_rfl))
  f34 := Tryz.func46.trans (congrArg some (by kernel_rfl))
  f35 := Tryz.func47.trans (congrArg some (by kernel_rfl))
  f36 := Tryz.func48.trans (congrArg some (by kernel_rfl))
  f37 := Tryz.func49.trans (congrArg some (by kernel_rfl))
  f38 := Tryz.func50.trans (congrArg some (by kernel_rfl))
  f39 := Tryz.func61.trans (congrArg some (by kernel_rfl))
  f40 := Tryz.func62.trans (congrArg some (by kernel_rfl))
  t0 := Tryz.underlying0
  a0 := Tryz.isAgg0
  z0 := Tryz.sizeOf0
  v0 := Tryz.zeroValue0
  i0 := by kernel_rfl
  t2 := Tryz.underlying2
  a2 := Tryz.isAgg2
  z2 := Tryz.sizeOf2
  v2 := Tryz.zeroValue2
  i2 := by kernel_rfl
  t3 := Tryz.underlying3
  a3 := Tryz.isAgg3
  z3 := Tryz.sizeOf3
  v3 := Tryz.zeroValue3
  i3 := by kernel_rfl
  t4 := Tryz.underlying4
  a4 := Tryz.isAgg4
  z4 := Tryz.sizeOf4
  v4 := Tryz.zeroValue4
  i4 := by kernel_rfl
  t5 := Tryz.underlying5
  a5 := Tryz.isAgg5
  z5 := Tryz.sizeOf5
  v5 := Tryz.zeroValue5
  i5 := by kernel_rfl
  t9 := Tryz.underlying9
  a9 := Tryz.isAgg9
  z9 := Tryz.sizeOf9
  v9 := Tryz.zeroValue9
  i9 := by kernel_rfl
  t20 := Tryz.underlying20
  a20 := Tryz.isAgg20
  z20 := Tryz.sizeOf20
  v20 := Tryz.zeroValue20
  i20 := by kernel_rfl
  t21 := Tryz.underlying21
  a21 := Tryz.isAgg21
  z21 := Tryz.sizeOf21
  v21 := Tryz.zeroValue21
  i21 := by kernel_rfl
  t22 := Tryz.underlying29
  a22 := Tryz.isAgg29
  z22 := Tryz.sizeOf29
  v22 := Tryz.zeroValue29
  i22 := by kernel_rfl
  t24 := Tryz.underlying42
  a24 := Tryz.isAgg42
  z24 := Tryz.sizeOf42
  v24 := Tryz.zeroValue42
  i24 := by kernel_rfl
  t25 := Tryz.underlying62
  a25 := Tryz.isAgg62
  z25 := Tryz.sizeOf62
  v25 := Tryz.zeroValue62
  i25 := by kernel_rfl
  t34 := Tryz.underlying92
  a34 := Tryz.isAgg92
  z34 := Tryz.sizeOf92
  v34 := Tryz.zeroValue92
  i34 := by kernel_rfl
  c34 := by kernel_rfl
  t36 := Tryz.underlying87
  a36 := Tryz.isAgg87
  z36 := Tryz.sizeOf87
  v36 := Tryz.zeroValue87
  i36 := by kernel_rfl
  t37 := Tryz.underlying40
  a37 := Tryz.isAgg40
  z37 := Tryz.sizeOf40
  v37 := Tryz.zeroValue40
  i37 := by kernel_rfl
  t39 := Tryz.underlying93
  a39 := Tryz.isAgg93
  z39 := Tryz.sizeOf93
  v39 := Tryz.zeroValue93
  i39 := by kernel_rfl
  t44 := Tryz.underlying109
  a44 := Tryz.isAgg109
  z44 := Tryz.sizeOf109
  v44 := Tryz.zeroValue109
  i44 := by kernel_rfl
  t47 := Tryz.underlying147
  a47 := Tryz.isAgg147
  z47 := Tryz.sizeOf147
  v47 := Tryz.zeroValue147
  i47 := by kernel_rfl
  t48 := Tryz.underlying77
  a48 := Tryz.isAgg77
  z48 := Tryz.sizeOf77
  v48 := Tryz.zeroValue77
  i48 := by kernel_rfl
  t50 := Tryz.underlying79
  a50 := Tryz.isAgg79
  z50 := Tryz.sizeOf79
  v50 := Tryz.zeroValue79
  i50 := by kernel_rfl
  t52 := Tryz.underlying71
  a52 := Tryz.isAgg71
  z52 := Tryz.sizeOf71
  v52 := Tryz.zeroValue71
  i52 := by kernel_rfl
  t55 := Tryz.underlying74
  a55 := Tryz.isAgg74
  z55 := Tryz.sizeOf74
  v55 := Tryz.zeroValue74
  i55 := by kernel_rfl
  t59 := Tryz.underlying83
  a59 := Tryz.isAgg83
  z59 := Tryz.sizeOf83
  v59 := Tryz.zeroValue83
  i59 := by kernel_rfl
  t60 := Tryz.underlying84
  a60 := Tryz.isAgg84
  z60 := Tryz.sizeOf84
  v60 := Tryz.zeroValue84
  i60 := by kernel_rfl
  t61 := Tryz.underlying85
  a61 := Tryz.isAgg85
  z61 := Tryz.sizeOf85
  t65 := Tryz.underlying114
  a65 := Tryz.isAgg114
  z65 := Tryz.sizeOf114
  v65 := Tryz.zeroValue114
  i65 := by kernel_rfl
  t66 := Tryz.underlying126
  a66 := Tryz.isAgg126
  z66 := Tryz.sizeOf126
  v66 := Tryz.zeroValue126
  i66 := by kernel_rfl
  t67 := Tryz.underlying48
  a67 := Tryz.isAgg48
  z67 := Tryz.sizeOf48
  v67 := Tryz.zeroValue48
  i67 := by kernel_rfl
  g0 := by kernel_rfl
  m0 := by kernel_rfl
  g1 := by kernel_rfl
  m1 := by kernel_rfl
  g2 := by kernel_rfl
  m2 := by kernel_rfl
  g3 := by kernel_rfl
  m3 := by kernel_rfl
  g4 := by kernel_rfl
  m4 := by kernel_rfl }
open Go.RowKit in
/-- strconv.ParseUint(s, 10, 0), AT EVERY STRING THAT SPELLS A uint64 ('Lib.parseUintB 64 s.data.toList = .ok u'): u, AND NO ERROR. (LAID: no walk: one application.) -/
theorem Tryz.strconv_ParseUint_10_at0_ok (s : ByteArray) (hmax : s.size ≤ 9223372036854775806) (u : Nat) (h : Lib.parseUintB 64 s.data.toList = .ok u) (w : World) :
    Calls Tryz.prog 34 #[.string s, .int .i64 10, .int .i64 0] w fun e w' => e = .returned (.tuple #[.int .u64 u, .nilIface]) ∧ (w' = w ∨ w' = Lib.bytesWorld w 5 s) := Any.strconv_ParseUint_10_at0_ok Tryz.laysPu14 s hmax u h w

open Go.RowKit in
/-- strconv.ParseUint(s, 10, 64), AT EVERY STRING THAT SPELLS A uint64 ('Lib.parseUintB 64 s.data.toList = .ok u'): u, AND NO ERROR. (LAID: no walk: one application.) -/
theorem Tryz.strconv_ParseUint_10_at64_ok (s : ByteArray) (hmax : s.size ≤ 9223372036854775806) (u : Nat) (h : Lib.parseUintB 64 s.data.toList = .ok u) (w : World) :
    Calls Tryz.prog 34 #[.string s, .int .i64 10, .int .i64 64] w fun e w' => e = .returned (.tuple #[.int .u64 u, .nilIface]) ∧ (w' = w ∨ w' = Lib.bytesWorld w 5 s) := Any.strconv_ParseUint_10_at64_ok Tryz.laysPu14 s hmax u h w

open Go.RowKit in
/-- strconv.ParseUint(s, 10, 32), AT EVERY STRING THAT SPELLS A uint32 ('Lib.parseUintB 32 s.data.toList = .ok u'): u, AND NO ERROR. (LAID: no walk: one application.) -/
theorem Tryz.strconv_ParseUint_10_at32_ok (s : ByteArray) (hmax : s.size ≤ 9223372036854775806) (u : Nat) (h : Lib.parseUintB 32 s.data.toList = .ok u) (w : World) :
    Calls Tryz.prog 34 #[.string s, .int .i64 10, .int .i64 32] w fun e w' => e = .returned (.tuple #[.int .u64 u, .nilIface]) ∧ (w' = w ∨ w' = Lib.bytesWorld w 5 s) := Any.strconv_ParseUint_10_at32_ok Tryz.laysPu14 s hmax u h w

open Go.RowKit in
/-- strconv.ParseUint(s, 10, 16), AT EVERY STRING THAT SPELLS A uint16 ('Lib.parseUintB 16 s.data.toList = .ok u'): u, AND NO ERROR. (LAID: no walk: one application.) -/
theorem Tryz.strconv_ParseUint_10_at16_ok (s : ByteArray) (hmax : s.size ≤ 9223372036854775806) (u : Nat) (h : Lib.parseUintB 16 s.data.toList = .ok u) (w : World) :
    Calls Tryz.prog 34 #[.string s, .int .i64 10, .int .i64 16] w fun e w' => e = .returned (.tuple #[.int .u64 u, .nilIface]) ∧ (w' = w ∨ w' = Lib.bytesWorld w 5 s) := Any.strconv_ParseUint_10_at16_ok Tryz.laysPu14 s hmax u h w

open Go.RowKit in
/-- strconv.ParseUint(s, 10, 8), AT EVERY STRING THAT SPELLS A uint8 ('Lib.parseUintB 8 s.data.toList = .ok u'): u, AND NO ERROR. (LAID: no walk: one application.) -/
theorem Tryz.strconv_ParseUint_10_at8_ok (s : ByteArray) (hmax : s.size ≤ 9223372036854775806) (u : Nat) (h : Lib.parseUintB 8 s.data.toList = .ok u) (w : World) :
    Calls Tryz.prog 34 #[.string s, .int .i64 10, .int .i64 8] w fun e w' => e = .returned (.tuple #[.int .u64 u, .nilIface]) ∧ (w' = w ∨ w' = Lib.bytesWorld w 5 s) := Any.strconv_ParseUint_10_at8_ok Tryz.laysPu14 s hmax u h w

def Tryz.lays197_ren : Go.Shelf.Ren := ⟨fun | 197 => 63 | 260 => 81 | n => n, fun | 9 => 9 | 21 => 21 | 3 => 3 | 4 => 4 | 5 => 5 | 105 => 102 | 119 => 162 | 0 => 0 | 46 => 87 | 139 => 165 | 138 => 164 | n => n, fun | 3 => 9 | 4 => 10 | n => n⟩
theorem Tryz.lays197 : Go.Proofs.Lays.n197 Tryz.prog Tryz.lays197_ren := {
  mixed := by kernel_rfl
  f197 := Tryz.func63.trans (congrArg some (by kernel_rfl))
  f260 := Tryz.func81.trans (congrArg some (by kernel_rfl))
  t0 := Tryz.underlying0
  a0 := Tryz.isAgg0
  z0 := Tryz.sizeOf0
  v0 := Tryz.zeroValue0
  t3 := Tryz.underlying3
  a3 := Tryz.isAgg3
  z3 := Tryz.sizeOf3
  v3 := Tryz.zeroValue3
  t4 := Tryz.underlying4
  a4 := Tryz.isAgg4
  z4 := Tryz.sizeOf4
  v4 := Tryz.zeroValue4
  t5 := Tryz.underlying5
  a5 := Tryz.isAgg5
  z5 := Tryz.sizeOf5
  v5 := Tryz.zeroValue5
  t9 := Tryz.underlying9
  a9 := Tryz.isAgg9
  z9 := Tryz.sizeOf9
  v9 := Tryz.zeroValue9
  t21 := Tryz.underlying21
  a21 := Tryz.isAgg21
  z21 := Tryz.sizeOf21
  v21 := Tryz.zeroValue21
  t46 := Tryz.underlying87
  a46 := Tryz.isAgg87
  z46 := Tryz.sizeOf87
  v46 := Tryz.zeroValue87
  t105 := Tryz.underlying102
  a105 := Tryz.isAgg102
  z105 := Tryz.sizeOf102
  v105 := Tryz.zeroValue102
  t119 := Tryz.underlying162
  a119 := Tryz.isAgg162
  z119 := Tryz.sizeOf162
  t138 := Tryz.underlying164
  a138 := Tryz.isAgg164
  z138 := Tryz.sizeOf164
  v138 := Tryz.zeroValue164
  t139 := Tryz.underlying165
  a139 := Tryz.isAgg165
  z139 := Tryz.sizeOf165
  v139 := Tryz.zeroValue165
  g3 := by kernel_rfl
  g4 := by kernel_rfl }
open Go.RowKit Go.Lib in
/-- unicode/utf8.DecodeRuneInString: "DecodeRuneInString is like DecodeRune but its input is a string.": ("DecodeRune unpacks the first UTF-8 encoding in p and returns the rune and its width in bytes."): WHERE s BEGINS WITH AN ASCII BYTE x: (x, 1). (LAID: no walk: one application.) -/
theorem Tryz.utf8_DecodeRuneInString_ascii (s : ByteArray) (x : UInt8) (w : World) (h0 : s.data.toList[0]? = some x) (hx : x.toNat < 128) :
    Calls Tryz.prog 63 #[.string s] w fun e w' => e = .returned (.tuple #[.int .i32 x.toNat, .int .i64 1]) ∧ w' = w := Any.utf8_DecodeRuneInString_ascii Tryz.lays197 s x w h0 hx
def Tryz.lays264_ren : Go.Shelf.Ren := ⟨fun | 264 => 127 | n => n, fun | 53 => 29 | 46 => 87 | n => n, fun | n => n⟩
theorem Tryz.lays264 : Go.Proofs.Lays.n264 Tryz.prog Tryz.lays264_ren := {
  mixed := by kernel_rfl
  f264 := Tryz.func127.trans (congrArg some (by kernel_rfl))
  t46 := Tryz.underlying87
  a46 := Tryz.isAgg87
  z46 := Tryz.sizeOf87
  v46 := Tryz.zeroValue87
  t53 := Tryz.underlying29
  a53 := Tryz.isAgg29
  z53 := Tryz.sizeOf29
  v53 := Tryz.zeroValue29 }
open Go.RowKit Go.Lib in
theorem Tryz.bits_Mul64 (x y : Nat) (hx : x < 18446744073709551616) (hy : y < 18446744073709551616) (w : World) :
    Calls Tryz.prog 127 #[.int .u64 x, .int .u64 y] w fun e w' => e = .returned (.tuple #[.int .u64 ((x * y / 18446744073709551616 : Nat) : Int), .int .u64 ((x * y % 18446744073709551616 : Nat) : Int)]) ∧ w' = w := Any.bits_Mul64 Tryz.lays264 x y hx hy w
def Tryz.lays260_ren : Go.Shelf.Ren := ⟨fun | 260 => 81 | n => n, fun | 9 => 9 | 21 => 21 | 3 => 3 | 4 => 4 | 5 => 5 | 119 => 162 | 0 => 0 | 46 => 87 | 139 => 165 | 138 => 164 | n => n, fun | 3 => 9 | 4 => 10 | n => n⟩
theorem Tryz.lays260 : Go.Proofs.Lays.n260 Tryz.prog Tryz.lays260_ren := {
  mixed := by kernel_rfl
  f260 := Tryz.func81.trans (congrArg some (by kernel_rfl))
  t0 := Tryz.underlying0
  a0 := Tryz.isAgg0
  z0 := Tryz.sizeOf0
  v0 := Tryz.zeroValue0
  t3 := Tryz.underlying3
  a3 := Tryz.isAgg3
  z3 := Tryz.sizeOf3
  v3 := Tryz.zeroValue3
  t4 := Tryz.underlying4
  a4 := Tryz.isAgg4
  z4 := Tryz.sizeOf4
  v4 := Tryz.zeroValue4
  t5 := Tryz.underlying5
  a5 := Tryz.isAgg5
  z5 := Tryz.sizeOf5
  v5 := Tryz.zeroValue5
  t9 := Tryz.underlying9
  a9 := Tryz.isAgg9
  z9 := Tryz.sizeOf9
  v9 := Tryz.zeroValue9
  t21 := Tryz.underlying21
  a21 := Tryz.isAgg21
  z21 := Tryz.sizeOf21
  v21 := Tryz.zeroValue21
  t46 := Tryz.underlying87
  a46 := Tryz.isAgg87
  z46 := Tryz.sizeOf87
  v46 := Tryz.zeroValue87
  t119 := Tryz.underlying162
  a119 := Tryz.isAgg162
  z119 := Tryz.sizeOf162
  t138 := Tryz.underlying164
  a138 := Tryz.isAgg164
  z138 := Tryz.sizeOf164
  v138 := Tryz.zeroValue164
  t139 := Tryz.underlying165
  a139 := Tryz.isAgg165
  z139 := Tryz.sizeOf165
  v139 := Tryz.zeroValue165
  g3 := by kernel_rfl
  g4 := by kernel_rfl }
open Go.RowKit Go.Lib in
theorem Tryz.utf8_decodeRuneInStringSlow (s : ByteArray) (w : World) (hT : Lib.Utf8Tabs 9 10 w) :
    Calls Tryz.prog 81 #[.string s] w fun e w' => e = .returned (.tuple #[.int .i32 (Lib.decodeGo s).1, .int .i64 (Lib.decodeGo s).2]) ∧ Below w.heap.size w w' := Any.utf8_decodeRuneInStringSlow Tryz.lays260 s w hT
open Go.RowKit Go.Lib in
/-- **unicode/utf8.DecodeRuneInString AT EVERY STRING.** (LAID: no walk: one application.) -/
theorem Tryz.utf8_DecodeRuneInString (s : ByteArray) (w : World) (hT : Lib.Utf8Tabs 9 10 w) :
    Calls Tryz.prog 63 #[.string s] w fun e w' => e = .returned (.tuple #[.int .i32 (Lib.decodeGo s).1, .int .i64 (Lib.decodeGo s).2]) ∧ Below w.heap.size w w' := Any.utf8_DecodeRuneInString Tryz.lays197 s w hT
end Go.Proofs
