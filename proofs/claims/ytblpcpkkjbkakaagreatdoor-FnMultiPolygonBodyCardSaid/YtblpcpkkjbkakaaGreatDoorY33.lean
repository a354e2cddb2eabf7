/- Lemmas towards the seat's laws: 1 texts joined. -/
import Derived.Shelf.Utf8.AppendRune
import Derived.Shelf.Strconv.IsPrint
import Derived.Shelf.Unicode.Decode
import Derived.Test.YtblpcpkkjbkakaaGreatDoorY08
/-
  Three contracts more of the shelf, laid at this dump in plain words (by the shelf's own two programs): AppendRune, IsPrint at Latin-1, DecodeRuneInString at ASCII.
-/
namespace Go.Proofs
open Go.Shelf
def Tryz.lays242_ren : Go.Shelf.Ren := ⟨fun | 242 => 215 | 278 => 219 | n => n, fun | 37 => 85 | 21 => 21 | 51 => 199 | 4 => 4 | 5 => 5 | 46 => 94 | n => n, fun | n => n⟩
theorem Tryz.lays242 : Go.Proofs.Lays.n242 Tryz.prog Tryz.lays242_ren := {
  mixed := by kernel_rfl
  f242 := Tryz.func215.trans (congrArg some (by kernel_rfl))
  f278 := Tryz.func219.trans (congrArg some (by kernel_rfl))
  t4 := Tryz.underlying4
  a4 := Tryz.isAgg4
  z4 := Tryz.sizeOf4
  v4 := Tryz.zeroValue4
  t5 := Tryz.underlying5
  a5 := Tryz.isAgg5
  z5 := Tryz.sizeOf5
  v5 := Tryz.zeroValue5
  t21 := Tryz.underlying21
  a21 := Tryz.isAgg21
  z21 := Tryz.sizeOf21
  v21 := Tryz.zeroValue21
  t37 := Tryz.underlying85
  a37 := Tryz.isAgg85
  z37 := Tryz.sizeOf85
  v37 := Tryz.zeroValue85
  t46 := Tryz.underlying94
  a46 := Tryz.isAgg94
  z46 := Tryz.sizeOf94
  v46 := Tryz.zeroValue94
  t51 := Tryz.underlying199
  a51 := Tryz.isAgg199
  z51 := Tryz.sizeOf199
  v51 := Tryz.zeroValue199 }
open Go.RowKit in
/-- unicode/utf8.AppendRune: "AppendRune appends the UTF-8 encoding of r to the end of p and returns the extended buffer. If the rune is out of range, it appends the encoding of RuneError.": ONTO A ROW OF BYTES THAT THE CALL OWNS (its head frozen or not): EVERY int32: 'Lib.runeCells r' goes in behind what the row holds; the world: one new block (the bytes as the call's variadic argument), then what 'append' does to the row. (LAID: no walk: one application.) -/
theorem Tryz.utf8_AppendRune_row (B : Nat) (v : Value) (n : Nat) (xs : List Value) (r : Int) (hr0 : -2147483648 ≤ r) (hr1 : r ≤ 2147483647) (w : World) (hown : w.ownsRowF B 5 1 v n xs) (hlen : n + 4 ≤ 140737488355328) (hBw : B ≤ w.heap.size) :
    Calls Tryz.prog 215 #[v, .int .i32 r] w fun e w' => ∃ v', e = .returned v' ∧ w'.ownsRowF B 5 1 v' (n + (Lib.runeCells r).length) (xs ++ Lib.runeCells r) ∧ ∃ o, (w.alloc o).grownBy w' v.ownBlock := Any.utf8_AppendRune_row Tryz.lays242 (by kernel_rfl) B v n xs r hr0 hr1 w hown hlen hBw
def Tryz.lays339_ren : Go.Shelf.Ren := ⟨fun | 339 => 213 | 345 => 217 | 346 => 218 | n => n, fun | 21 => 21 | 4 => 4 | 49 => 291 | 234 => 292 | 131 => 189 | 3 => 3 | 0 => 0 | 51 => 199 | 236 => 294 | 46 => 94 | n => n, fun | 20 => 19 | 21 => 20 | 22 => 21 | 23 => 22 | n => n⟩
theorem Tryz.lays339 : Go.Proofs.Lays.n339 Tryz.prog Tryz.lays339_ren := {
  mixed := by kernel_rfl
  f339 := Tryz.func213.trans (congrArg some (by kernel_rfl))
  f345 := Tryz.func217.trans (congrArg some (by kernel_rfl))
  f346 := Tryz.func218.trans (congrArg some (by kernel_rfl))
  t0 := Tryz.underlying0
  a0 := Tryz.isAgg0
  z0 := Tryz.sizeOf0
  v0 := Tryz.zeroValue0
  t3 := Tryz.underlying3
  a3 := Tryz.isAgg3
  z3 := Tryz.sizeOf3
  v3 := Tryz.zeroValue3
  t4 := Tryz.underlying4
  a4 := Tryz.isAgg4
  z4 := Tryz.sizeOf4
  v4 := Tryz.zeroValue4
  t21 := Tryz.underlying21
  a21 := Tryz.isAgg21
  z21 := Tryz.sizeOf21
  v21 := Tryz.zeroValue21
  t46 := Tryz.underlying94
  a46 := Tryz.isAgg94
  z46 := Tryz.sizeOf94
  v46 := Tryz.zeroValue94
  t49 := Tryz.underlying291
  a49 := Tryz.isAgg291
  z49 := Tryz.sizeOf291
  v49 := Tryz.zeroValue291
  t51 := Tryz.underlying199
  a51 := Tryz.isAgg199
  z51 := Tryz.sizeOf199
  v51 := Tryz.zeroValue199
  t131 := Tryz.underlying189
  a131 := Tryz.isAgg189
  z131 := Tryz.sizeOf189
  v131 := Tryz.zeroValue189
  t234 := Tryz.underlying292
  a234 := Tryz.isAgg292
  z234 := Tryz.sizeOf292
  v234 := Tryz.zeroValue292
  t236 := Tryz.underlying294
  a236 := Tryz.isAgg294
  z236 := Tryz.sizeOf294
  v236 := Tryz.zeroValue294
  g20 := by kernel_rfl
  g21 := by kernel_rfl
  g22 := by kernel_rfl
  g23 := by kernel_rfl }
open Go.RowKit in
/-- strconv.IsPrint AT r ≤ 0xFF, negative ones too ('Fast check for Latin-1'): no table is read; nothing turns. (LAID: no walk: one application.) -/
theorem Tryz.strconv_IsPrint_latin (r : Int) (w : World) (hr : r ≤ 255) :
    Calls Tryz.prog 213 #[.int .i32 r] w fun e w' => e = .returned (.bool (Lib.isPrintLatin r)) ∧ w' = w := Any.strconv_IsPrint_latin Tryz.lays339 r w hr
open Go.RowKit Go.Lib in
theorem Tryz.utf8_DecodeRuneInString_ascii (s : ByteArray) (x : UInt8) (w : World) (h0 : s.data.toList[0]? = some x) (hx : x.toNat < 128) :
    Calls Tryz.prog 210 #[.string s] w fun e w' => e = .returned (.tuple #[.int .i32 x.toNat, .int .i64 1]) ∧ w' = w := Any.utf8_DecodeRuneInString_ascii Tryz.lays197 s x w h0 hx
end Go.Proofs
