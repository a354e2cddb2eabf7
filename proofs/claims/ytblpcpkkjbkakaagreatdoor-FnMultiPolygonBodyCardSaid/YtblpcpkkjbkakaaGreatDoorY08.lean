/- Lemmas towards the seat's laws: 1 texts joined. -/
import Derived.Shelf.Small.Utf8
import Derived.Ground.FneProg
import Derived.Shelf.Strconv.NumErrorText
import Derived.Shelf.Strconv.Itoa0
import Derived.Shelf.LaysM
import Derived.Shelf.Bytes.GrowSliceCatch
import Derived.Shelf.Bytes.GrowSlice
import Derived.Shelf.Strconv.Clone
import Derived.Shelf.Strconv.SyntaxError
import Derived.Shelf.LaysC
import Derived.Shelf.Strconv.ToError
import Derived.Shelf.Strconv.RangeError
import Derived.Shelf.Strconv.ToErrorRange
import Derived.Shelf.Bytes.LenAt
import Derived.Shelf.Bytes.StringAt
import Derived.Shelf.Bytes.TryGrowAt
import Derived.Shelf.Bytes.GrowRow0At
import Derived.Shelf.Bytes.GrowRowAt
import Derived.Shelf.Bytes.GrowNilAt
import Derived.Shelf.Bytes.GrowAt
import Derived.Shelf.Bytes.WriteAt
import Derived.Shelf.Bits.Mul64
import Derived.Shelf.Unicode.DecodeSlow
import Derived.Shelf.Unicode.DecodeAny
import Derived.Test.YtblpcpkkjbkakaaGreatDoorProg
/-
  DERIVED: THE SHELF's CONTRACTS AT THIS DUMP, IN PLAIN WORDS (tools/lay-plain.mjs out of 'TryzShelf.lean', which tools/lay-shelf.mjs wrote): THE SAME DECLARATIONS UNDER THE SAME NAMES: 'import', 'namespace', 'open', 'def', 'theorem' AND NOTHING ELSE: no command of the shelf's: FOR A HAND-IN. Each laying: the table of numbers ('.._ren') and one theorem, a field a fact of the dump's own or the kernel's comparison; each contract: ONE APPLICATION.
-/
namespace Go.Proofs
open Go.Shelf
def Tryz.lays119_ren : Go.Shelf.Ren := ⟨fun | 119 => 216 | n => n, fun | 21 => 21 | 4 => 4 | n => n, fun | n => n⟩
theorem Tryz.lays119 : Go.Proofs.Lays.n119 Tryz.prog Tryz.lays119_ren := {
  mixed := by kernel_rfl
  f119 := Tryz.func216.trans (congrArg some (by kernel_rfl))
  t4 := Tryz.underlying4
  a4 := Tryz.isAgg4
  z4 := Tryz.sizeOf4
  v4 := Tryz.zeroValue4
  t21 := Tryz.underlying21
  a21 := Tryz.isAgg21
  z21 := Tryz.sizeOf21
  v21 := Tryz.zeroValue21 }
/-- utf8.ValidRune: "ValidRune reports whether r can be legally encoded as UTF-8. Code points that are out of range or a surrogate half are illegal.": IT RETURNS 'Lib.validRune r'; the world is as it was. (LAID: no walk: one application.) -/
theorem Tryz.utf8_ValidRune (r : Int) (w : World) :
    Calls Tryz.prog 216 #[.int .i32 r] w fun e w' => e = .returned (.bool (Lib.validRune r)) ∧ w' = w := Any.utf8_ValidRune Tryz.lays119 r w
def Tryz.laysFn4_ren : Go.Shelf.Ren := ⟨fun | 4 => 206 | 5 => 207 | 6 => 208 | 7 => 209 | 8 => 210 | 9 => 211 | 10 => 212 | 11 => 213 | 12 => 214 | 13 => 215 | 14 => 216 | 15 => 217 | 16 => 218 | 17 => 219 | n => n, fun | 22 => 138 | 9 => 9 | 0 => 0 | 28 => 168 | 26 => 37 | 5 => 5 | 4 => 4 | 3 => 3 | 31 => 85 | 21 => 21 | 33 => 183 | 35 => 94 | 39 => 223 | 42 => 226 | 41 => 225 | 43 => 291 | 44 => 292 | 45 => 189 | 47 => 199 | 48 => 294 | 23 => 107 | n => n, fun | 0 => 8 | 1 => 9 | 2 => 19 | 3 => 20 | 4 => 21 | 5 => 22 | 6 => 23 | n => n⟩
theorem Tryz.laysFn4 : Go.Proofs.LaysFn.n4 Tryz.prog Tryz.laysFn4_ren := {
  mixed := by kernel_rfl
  f4 := Tryz.func206.trans (congrArg some (by kernel_rfl))
  f5 := Tryz.func207.trans (congrArg some (by kernel_rfl))
  f6 := Tryz.func208.trans (congrArg some (by kernel_rfl))
  f7 := Tryz.func209.trans (congrArg some (by kernel_rfl))
  f8 := Tryz.func210.trans (congrArg some (by kernel_rfl))
  f9 := Tryz.func211.trans (congrArg some (by kernel_rfl))
  f10 := Tryz.func212.trans (congrArg some (by kernel_rfl))
  f11 := Tryz.func213.trans (congrArg some (by kernel_rfl))
  f12 := Tryz.func214.trans (congrArg some (by kernel_rfl))
  f13 := Tryz.func215.trans (congrArg some (by kernel_rfl))
  f14 := Tryz.func216.trans (congrArg some (by kernel_rfl))
  f15 := Tryz.func217.trans (congrArg some (by kernel_rfl))
  f16 := Tryz.func218.trans (congrArg some (by kernel_rfl))
  f17 := Tryz.func219.trans (congrArg some (by kernel_rfl))
  t0 := Tryz.underlying0
  a0 := Tryz.isAgg0
  z0 := Tryz.sizeOf0
  v0 := Tryz.zeroValue0
  i0 := by kernel_rfl
  t3 := Tryz.underlying3
  a3 := Tryz.isAgg3
  z3 := Tryz.sizeOf3
  v3 := Tryz.zeroValue3
  i3 := by kernel_rfl
  t4 := Tryz.underlying4
  a4 := Tryz.isAgg4
  z4 := Tryz.sizeOf4
  v4 := Tryz.zeroValue4
  i4 := by kernel_rfl
  t5 := Tryz.underlying5
  a5 := Tryz.isAgg5
  z5 := Tryz.sizeOf5
  v5 := Tryz.zeroValue5
  i5 := by kernel_rfl
  t9 := Tryz.underlying9
  a9 := Tryz.isAgg9
  z9 := Tryz.sizeOf9
  v9 := Tryz.zeroValue9
  i9 := by kernel_rfl
  t21 := Tryz.underlying21
  a21 := Tryz.isAgg21
  z21 := Tryz.sizeOf21
  v21 := Tryz.zeroValue21
  i21 := by kernel_rfl
  t22 := Tryz.underlying138
  a22 := Tryz.isAgg138
  z22 := Tryz.sizeOf138
  v22 := Tryz.zeroValue138
  i22 := by kernel_rfl
  t23 := Tryz.underlying107
  a23 := Tryz.isAgg107
  z23 := Tryz.sizeOf107
  v23 := Tryz.zeroValue107
  i23 := by kernel_rfl
  t26 := Tryz.underlying37
  a26 := Tryz.isAgg37
  z26 := Tryz.sizeOf37
  v26 := Tryz.zeroValue37
  i26 := by kernel_rfl
  t28 := Tryz.underlying168
  a28 := Tryz.isAgg168
  z28 := Tryz.sizeOf168
  v28 := Tryz.zeroValue168
  i28 := by kernel_rfl
  t31 := Tryz.underlying85
  a31 := Tryz.isAgg85
  z31 := Tryz.sizeOf85
  v31 := Tryz.zeroValue85
  i31 := by kernel_rfl
  t33 := Tryz.underlying183
  a33 := Tryz.isAgg183
  z33 := Tryz.sizeOf183
  v33 := Tryz.zeroValue183
  i33 := by kernel_rfl
  t35 := Tryz.underlying94
  a35 := Tryz.isAgg94
  z35 := Tryz.sizeOf94
  v35 := Tryz.zeroValue94
  i35 := by kernel_rfl
  t39 := Tryz.underlying223
  a39 := Tryz.isAgg223
  z39 := Tryz.sizeOf223
  t41 := Tryz.underlying225
  a41 := Tryz.isAgg225
  z41 := Tryz.sizeOf225
  v41 := Tryz.zeroValue225
  i41 := by kernel_rfl
  t42 := Tryz.underlying226
  a42 := Tryz.isAgg226
  z42 := Tryz.sizeOf226
  v42 := Tryz.zeroValue226
  i42 := by kernel_rfl
  t43 := Tryz.underlying291
  a43 := Tryz.isAgg291
  z43 := Tryz.sizeOf291
  v43 := Tryz.zeroValue291
  i43 := by kernel_rfl
  t44 := Tryz.underlying292
  a44 := Tryz.isAgg292
  z44 := Tryz.sizeOf292
  v44 := Tryz.zeroValue292
  i44 := by kernel_rfl
  t45 := Tryz.underlying189
  a45 := Tryz.isAgg189
  z45 := Tryz.sizeOf189
  v45 := Tryz.zeroValue189
  i45 := by kernel_rfl
  t47 := Tryz.underlying199
  a47 := Tryz.isAgg199
  z47 := Tryz.sizeOf199
  v47 := Tryz.zeroValue199
  i47 := by kernel_rfl
  t48 := Tryz.underlying294
  a48 := Tryz.isAgg294
  z48 := Tryz.sizeOf294
  v48 := Tryz.zeroValue294
  i48 := by kernel_rfl
  g0 := by kernel_rfl
  m0 := by kernel_rfl
  g1 := by kernel_rfl
  m1 := by kernel_rfl
  g2 := by kernel_rfl
  m2 := by kernel_rfl
  g3 := by kernel_rfl
  m3 := by kernel_rfl
  g4 := by kernel_rfl
  m4 := by kernel_rfl
  g5 := by kernel_rfl
  m5 := by kernel_rfl
  g6 := by kernel_rfl
  m6 := by kernel_rfl }
open Go.RowKit Go.Sort in
theorem Tryz.NumError_Error (b o : Nat) (fn num q txt : ByteArray) (u : TypeId) (v0 : Value) (g : FuncId) (rv : Value) (w : World) (c0 : w.cell? ⟨b, o, none⟩ = some (.string fn)) (c1 : w.cell? ⟨b, o + 1, none⟩ = some (.string num)) (c2 : w.cell? ⟨b, o + 2, none⟩ = some (.iface u v0)) (hsum : fn.size + q.size + txt.size + 20 ≤ 9223372036854775807) (hQ : ∀ W, Below w.heap.size w W → Calls Tryz.prog 207 #[.string num] W fun e w' => e = .returned (.string q) ∧ Below W.heap.size W w') (hm : ∀ W, (method (Tryz.prog.types.size + 100) u v0 "Error").run Tryz.prog W = .ok (g, rv) W) (eg : ∀ args W, (callFunc g args).run Tryz.prog W = .ok (.enter g args) W) (hE : ∀ W, Below w.heap.size w W → Calls Tryz.prog g #[rv] W fun e w' => e = .returned (.string txt) ∧ Below W.heap.size W w') :
    Calls Tryz.prog 206 #[.pointer (some ⟨b, o, none⟩)] w fun e w' => e = .returned (.string ("strconv.".toUTF8 ++ fn ++ ": ".toUTF8 ++ "parsing ".toUTF8 ++ q ++ ": ".toUTF8 ++ txt)) ∧ Below w.heap.size w w' := Any.NumError_Error Tryz.laysFn4 b o fn num q txt u v0 g rv w c0 c1 c2 hsum hQ hm eg hE
def Tryz.lays129_ren : Go.Shelf.Ren := ⟨fun | 129 => 152 | n => n, fun | 53 => 30 | 3 => 3 | 4 => 4 | 46 => 94 | 5 => 5 | 9 => 9 | n => n, fun | n => n⟩
theorem Tryz.lays129 : Go.Proofs.Lays.n129 Tryz.prog Tryz.lays129_ren := {
  mixed := by kernel_rfl
  f129 := Tryz.func152.trans (congrArg some (by kernel_rfl))
  t3 := Tryz.underlying3
  a3 := Tryz.isAgg3
  z3 := Tryz.sizeOf3
  v3 := Tryz.zeroValue3
  t4 := Tryz.underlying4
  a4 := Tryz.isAgg4
  z4 := Tryz.sizeOf4
  v4 := Tryz.zeroValue4
  t5 := Tryz.underlying5
  a5 := Tryz.isAgg5
  z5 := Tryz.sizeOf5
  v5 := Tryz.zeroValue5
  t9 := Tryz.underlying9
  a9 := Tryz.isAgg9
  z9 := Tryz.sizeOf9
  v9 := Tryz.zeroValue9
  t46 := Tryz.underlying94
  a46 := Tryz.isAgg94
  z46 := Tryz.sizeOf94
  v46 := Tryz.zeroValue94
  t53 := Tryz.underlying30
  a53 := Tryz.isAgg30
  z53 := Tryz.sizeOf30
  v53 := Tryz.zeroValue30 }
/-- bits.Len64: "Len64 returns the minimum number of bits required to represent x; the result is 0 for x == 0.": IT RETURNS 'Lib.bitLen x'; the world is as it was. ('h0', 'h1': x is a uint64.) (LAID: no walk: one application.) -/
theorem Tryz.bits_Len64 (x : Int) (w : World) (h0 : 0 ≤ x) (h1 : x ≤ 18446744073709551615) :
    Calls Tryz.prog 152 #[.int .u64 x] w fun e w' => e = .returned (.int .i64 (Lib.bitLen x.toNat)) ∧ w' = w := Any.bits_Len64 Tryz.lays129 x w h0 h1
def Tryz.laysM324_ren : Go.Shelf.Ren := ⟨fun | 324 => 165 | n => n, fun | 20 => 20 | 4 => 4 | 75 => 37 | 0 => 0 | 80 => 107 | 9 => 9 | n => n, fun | 14 => 10 | n => n⟩
theorem Tryz.laysM324 : Go.Proofs.LaysM.n324 Tryz.prog Tryz.laysM324_ren := {
  mixed := by kernel_rfl
  f324 := Tryz.func165.trans (congrArg some (by kernel_rfl))
  t0 := Tryz.underlying0
  a0 := Tryz.isAgg0
  z0 := Tryz.sizeOf0
  v0 := Tryz.zeroValue0
  t4 := Tryz.underlying4
  a4 := Tryz.isAgg4
  z4 := Tryz.sizeOf4
  v4 := Tryz.zeroValue4
  t20 := Tryz.underlying20
  a20 := Tryz.isAgg20
  z20 := Tryz.sizeOf20
  v20 := Tryz.zeroValue20
  t75 := Tryz.underlying37
  a75 := Tryz.isAgg37
  z75 := Tryz.sizeOf37
  v75 := Tryz.zeroValue37
  g14 := by kernel_rfl
  t9 := Tryz.underlying9
  a9 := Tryz.isAgg9
  z9 := Tryz.sizeOf9
  v9 := Tryz.zeroValue9
  t80 := Tryz.underlying107
  a80 := Tryz.isAgg107
  z80 := Tryz.sizeOf107
  v80 := Tryz.zeroValue107
  i0 := by kernel_rfl
  i4 := by kernel_rfl
  i9 := by kernel_rfl
  i20 := by kernel_rfl
  i75 := by kernel_rfl
  i80 := by kernel_rfl
  m14 := by kernel_rfl }
theorem Tryz.growSlice_catch_idle (w : World) :
    CallsD Tryz.prog 165 #[] .returning w fun e u' w' => e = .returned (.tuple #[]) ∧ u' = .returning ∧ w' = w := Any.growSlice_catch_idle Tryz.laysM324 w
def Tryz.laysM290_ren : Go.Shelf.Ren := ⟨fun | 290 => 146 | 324 => 165 | n => n, fun | 37 => 85 | 3 => 3 | 0 => 0 | 4 => 4 | 20 => 20 | 75 => 37 | 5 => 5 | 80 => 107 | 9 => 9 | n => n, fun | 14 => 10 | n => n⟩
theorem Tryz.laysM290 : Go.Proofs.LaysM.n290 Tryz.prog Tryz.laysM290_ren := {
  mixed := by kernel_rfl
  f290 := Tryz.func146.trans (congrArg some (by kernel_rfl))
  f324 := Tryz.func165.trans (congrArg some (by kernel_rfl))
  t0 := Tryz.underlying0
  a0 := Tryz.isAgg0
  z0 := Tryz.sizeOf0
  v0 := Tryz.zeroValue0
  t3 := Tryz.underlying3
  a3 := Tryz.isAgg3
  z3 := Tryz.sizeOf3
  v3 := Tryz.zeroValue3
  t4 := Tryz.underlying4
  a4 := Tryz.isAgg4
  z4 := Tryz.sizeOf4
  v4 := Tryz.zeroValue4
  t20 := Tryz.underlying20
  a20 := Tryz.isAgg20
  z20 := Tryz.sizeOf20
  v20 := Tryz.zeroValue20
  t37 := Tryz.underlying85
  a37 := Tryz.isAgg85
  z37 := Tryz.sizeOf85
  v37 := Tryz.zeroValue85
  t75 := Tryz.underlying37
  a75 := Tryz.isAgg37
  z75 := Tryz.sizeOf37
  v75 := Tryz.zeroValue37
  g14 := by kernel_rfl
  t5 := Tryz.underlying5
  a5 := Tryz.isAgg5
  z5 := Tryz.sizeOf5
  v5 := Tryz.zeroValue5
  t9 := Tryz.underlying9
  a9 := Tryz.isAgg9
  z9 := Tryz.sizeOf9
  v9 := Tryz.zeroValue9
  t80 := Tryz.underlying107
  a80 := Tryz.isAgg107
  z80 := Tryz.sizeOf107
  v80 := Tryz.zeroValue107
  i0 := by kernel_rfl
  i3 := by kernel_rfl
  i4 := by kernel_rfl
  i5 := by kernel_rfl
  i9 := by kernel_rfl
  i20 := by kernel_rfl
  i37 := by kernel_rfl
  i75 := by kernel_rfl
  i80 := by kernel_rfl
  m14 := by kernel_rfl }
open Go.RowKit in
/-- bytes.growSlice: "growSlice grows b by n, preserving the original content of b.": OF A SLICE THAT LIES AT THE HEAD OF A ROW: a new row, number 'w.heap.size': it begins with b's l cells; its capacity has room for n more; whatever lay below is as it was. (LAID: no walk: one application.) -/
theorem Tryz.bytes_growSlice_row (g l c n : Nat) (cur : Array Value) (w : World) (hg : w.heap[g]? = some (.cells cur 5 (0, 0))) (hcs : cur.size = c) (hlc : l ≤ c) (hn : 1 ≤ n) (hlim : l + n ≤ 140737488355328) (hc2 : c ≤ 140737488355328) (h1 : ∀ v ∈ cur.toList.take l, v.oneCell' = true) :
    Calls Tryz.prog 146 #[.slice (some ⟨g, 0, none⟩) l c, .int .i64 n] w fun e w' => ∃ cap2 cells, e = .returned (.slice (some ⟨w.heap.size, 0, none⟩) l cap2) ∧ w'.heap[w.heap.size]? = some (.cells cells 5 (0, 0)) ∧
      cells.size = cap2 ∧ cells.toList.take l = cur.toList.take l ∧ l + n ≤ cap2 ∧ cap2 ≤ maxLen ∧ Below w.heap.size w w' := Any.bytes_growSlice_row Tryz.laysM290 g l c n cur w hg hcs hlc hn hlim hc2 h1
open Go.RowKit in
/-- .. OF THE NIL SLICE: a new row with room for n. (LAID: no walk: one application.) -/
theorem Tryz.bytes_growSlice_nil (n : Nat) (w : World) (hn : 1 ≤ n) (hlim : n ≤ 140737488355328) :
    Calls Tryz.prog 146 #[.slice none 0 0, .int .i64 n] w fun e w' => ∃ cap2 cells, e = .returned (.slice (some ⟨w.heap.size, 0, none⟩) 0 cap2) ∧ w'.heap[w.heap.size]? = some (.cells cells 5 (0, 0)) ∧
      cells.size = cap2 ∧ n ≤ cap2 ∧ cap2 ≤ maxLen ∧ Below w.heap.size w w' := Any.bytes_growSlice_nil Tryz.laysM290 n w hn hlim
def Tryz.laysM316_ren : Go.Shelf.Ren := ⟨fun | 316 => 102 | n => n, fun | 9 => 9 | 3 => 3 | 4 => 4 | 37 => 85 | 0 => 0 | 127 => 214 | 5 => 5 | n => n, fun | n => n⟩
theorem Tryz.laysM316 : Go.Proofs.LaysM.n316 Tryz.prog Tryz.laysM316_ren := {
  mixed := by kernel_rfl
  f316 := Tryz.func102.trans (congrArg some (by kernel_rfl))
  t0 := Tryz.underlying0
  a0 := Tryz.isAgg0
  z0 := Tryz.sizeOf0
  v0 := Tryz.zeroValue0
  t3 := Tryz.underlying3
  a3 := Tryz.isAgg3
  z3 := Tryz.sizeOf3
  v3 := Tryz.zeroValue3
  t4 := Tryz.underlying4
  a4 := Tryz.isAgg4
  z4 := Tryz.sizeOf4
  v4 := Tryz.zeroValue4
  t9 := Tryz.underlying9
  a9 := Tryz.isAgg9
  z9 := Tryz.sizeOf9
  v9 := Tryz.zeroValue9
  t37 := Tryz.underlying85
  a37 := Tryz.isAgg85
  z37 := Tryz.sizeOf85
  v37 := Tryz.zeroValue85
  t127 := Tryz.underlying214
  a127 := Tryz.isAgg214
  z127 := Tryz.sizeOf214
  v127 := Tryz.zeroValue214
  t5 := Tryz.underlying5
  a5 := Tryz.isAgg5
  z5 := Tryz.sizeOf5
  v5 := Tryz.zeroValue5
  i0 := by kernel_rfl
  i3 := by kernel_rfl
  i4 := by kernel_rfl
  i5 := by kernel_rfl
  i9 := by kernel_rfl
  i37 := by kernel_rfl
  i127 := by kernel_rfl }
open Go.RowKit in
/-- internal/stringslite.Clone (what strings.Clone calls): "Clone returns a fresh copy of s.": THE SAME BYTES. Of what was there nothing has turned (a new row is laid, and frozen, where s is not empty). (LAID: no walk: one application.) -/
theorem Tryz.stringslite_Clone (s : ByteArray) (w : World) (hlim : s.size ≤ 281474976710656) :
    Calls Tryz.prog 102 #[.string s] w fun e w' => e = .returned (.string s) ∧ Below w.heap.size w w' := Any.stringslite_Clone Tryz.laysM316 s w hlim
def Tryz.laysM279_ren : Go.Shelf.Ren := ⟨fun | 279 => 71 | 316 => 102 | n => n, fun | 9 => 9 | 168 => 138 | 75 => 37 | 210 => 168 | 3 => 3 | 4 => 4 | 37 => 85 | 0 => 0 | 127 => 214 | 80 => 107 | 5 => 5 | n => n, fun | 15 => 2 | n => n⟩
theorem Tryz.laysM279 : Go.Proofs.LaysM.n279 Tryz.prog Tryz.laysM279_ren := {
  mixed := by kernel_rfl
  f279 := Tryz.func71.trans (congrArg some (by kernel_rfl))
  f316 := Tryz.func102.trans (congrArg some (by kernel_rfl))
  t0 := Tryz.underlying0
  a0 := Tryz.isAgg0
  z0 := Tryz.sizeOf0
  v0 := Tryz.zeroValue0
  t3 := Tryz.underlying3
  a3 := Tryz.isAgg3
  z3 := Tryz.sizeOf3
  v3 := Tryz.zeroValue3
  t4 := Tryz.underlying4
  a4 := Tryz.isAgg4
  z4 := Tryz.sizeOf4
  v4 := Tryz.zeroValue4
  t9 := Tryz.underlying9
  a9 := Tryz.isAgg9
  z9 := Tryz.sizeOf9
  v9 := Tryz.zeroValue9
  t37 := Tryz.underlying85
  a37 := Tryz.isAgg85
  z37 := Tryz.sizeOf85
  v37 := Tryz.zeroValue85
  t75 := Tryz.underlying37
  a75 := Tryz.isAgg37
  z75 := Tryz.sizeOf37
  v75 := Tryz.zeroValue37
  t127 := Tryz.underlying214
  a127 := Tryz.isAgg214
  z127 := Tryz.sizeOf214
  v127 := Tryz.zeroValue214
  t168 := Tryz.underlying138
  a168 := Tryz.isAgg138
  z168 := Tryz.sizeOf138
  v168 := Tryz.zeroValue138
  t210 := Tryz.underlying168
  a210 := Tryz.isAgg168
  z210 := Tryz.sizeOf168
  v210 := Tryz.zeroValue168
  g15 := by kernel_rfl
  t5 := Tryz.underlying5
  a5 := Tryz.isAgg5
  z5 := Tryz.sizeOf5
  v5 := Tryz.zeroValue5
  t80 := Tryz.underlying107
  a80 := Tryz.isAgg107
  z80 := Tryz.sizeOf107
  v80 := Tryz.zeroValue107
  i0 := by kernel_rfl
  i3 := by kernel_rfl
  i4 := by kernel_rfl
  i5 := by kernel_rfl
  i9 := by kernel_rfl
  i37 := by kernel_rfl
  i75 := by kernel_rfl
  i80 := by kernel_rfl
  i127 := by kernel_rfl
  i168 := by kernel_rfl
  i210 := by kernel_rfl
  m15 := by kernel_rfl }
open Go.RowKit in
/-- strconv.syntaxError: '&NumError{fn, stringslite.Clone(str), ErrSyntax}': A POINTER TO A NEW BLOCK that holds fn, str's bytes, and what the variable ErrSyntax holds. Of what was there nothing has turned. (LAID: no walk: one application.) -/
theorem Tryz.strconv_syntaxError (fn s : ByteArray) (ev : Value) (w : World) (hlim : s.size ≤ 281474976710656) (hv : w.cell? ⟨2, 0, none⟩ = some ev) (hev : ev = .nilIface ∨ ∃ te pe, ev = .iface te pe) :
    Calls Tryz.prog 71 #[.string fn, .string s] w fun e w' => ∃ N, e = .returned (.pointer (some ⟨N, 0, none⟩)) ∧ w.heap.size ≤ N ∧ w'.heap[N]? = some (.cells #[.string fn, .string s, ev] 168 (0, 0)) ∧ Below w.heap.size w w' := Any.strconv_syntaxError Tryz.laysM279 fn s ev w hlim hv hev
def Tryz.laysC245_ren : Go.Shelf.Ren := ⟨fun | 245 => 46 | 279 => 71 | 280 => 72 | 281 => 73 | 282 => 74 | 316 => 102 | 171 => 104 | 205 => 103 | 243 => 137 | 246 => 163 | 283 => 170 | 284 => 171 | 285 => 172 | 286 => 173 | 129 => 152 | 317 => 176 | 318 => 156 | 319 => 177 | 320 => 178 | 337 => 179 | 338 => 180 | n => n, fun | 9 => 9 | 3 => 3 | 75 => 37 | 167 => 137 | 4 => 4 | 168 => 138 | 210 => 168 | 37 => 85 | 0 => 0 | 127 => 214 | 145 => 217 | 143 => 215 | 2 => 2 | 171 => 258 | 53 => 30 | 5 => 5 | 173 => 260 | 212 => 267 | 51 => 199 | 20 => 20 | 213 => 268 | 46 => 94 | 232 => 271 | 233 => 272 | 80 => 107 | n => n, fun | 15 => 2 | 16 => 3 | 17 => 16 | 18 => 17 | 19 => 18 | n => n⟩
theorem Tryz.laysC245 : Go.Proofs.LaysC.n245 Tryz.prog Tryz.laysC245_ren := {
  mixed := by kernel_rfl
  f129 := Tryz.func152.trans (congrArg some (by kernel_rfl))
  f171 := Tryz.func104.trans (congrArg some (by kernel_rfl))
  f205 := Tryz.func103.trans (congrArg some (by kernel_rfl))
  f243 := Tryz.func137.trans (congrArg some (by kernel_rfl))
  f245 := Tryz.func46.trans (congrArg some (by kernel_rfl))
  f246 := Tryz.func163.trans (congrArg some (by kernel_rfl))
  f279 := Tryz.func71.trans (congrArg some (by kernel_rfl))
  f280 := Tryz.func72.trans (congrArg some (by kernel_rfl))
  f281 := Tryz.func73.trans (congrArg some (by kernel_rfl))
  f282 := Tryz.func74.trans (congrArg some (by kernel_rfl))
  f283 := Tryz.func170.trans (congrArg some (by kernel_rfl))
  f284 := Tryz.func171.trans (congrArg some (by kernel_rfl))
  f285 := Tryz.func172.trans (congrArg some (by kernel_rfl))
  f286 := Tryz.func173.trans (congrArg some (by kernel_rfl))
  f316 := Tryz.func102.trans (congrArg some (by kernel_rfl))
  f317 := Tryz.func176.trans (congrArg some (by kernel_rfl))
  f318 := Tryz.func156.trans (congrArg some (by kernel_rfl))
  f319 := Tryz.func177.trans (congrArg some (by kernel_rfl))
  f320 := Tryz.func178.trans (congrArg some (by kernel_rfl))
  f337 := Tryz.func179.trans (congrArg some (by kernel_rfl))
  f338 := Tryz.func180.trans (congrArg some (by kernel_rfl))
  t0 := Tryz.underlying0
  a0 := Tryz.isAgg0
  z0 := Tryz.sizeOf0
  v0 := Tryz.zeroValue0
  t2 := Tryz.underlying2
  a2 := Tryz.isAgg2
  z2 := Tryz.sizeOf2
  v2 := Tryz.zeroValue2
  t3 := Tryz.underlying3
  a3 := Tryz.isAgg3
  z3 := Tryz.sizeOf3
  v3 := Tryz.zeroValue3
  t4 := Tryz.underlying4
  a4 := Tryz.isAgg4
  z4 := Tryz.sizeOf4
  v4 := Tryz.zeroValue4
  t5 := Tryz.underlying5
  a5 := Tryz.isAgg5
  z5 := Tryz.sizeOf5
  v5 := Tryz.zeroValue5
  t9 := Tryz.underlying9
  a9 := Tryz.isAgg9
  z9 := Tryz.sizeOf9
  v9 := Tryz.zeroValue9
  t20 := Tryz.underlying20
  a20 := Tryz.isAgg20
  z20 := Tryz.sizeOf20
  v20 := Tryz.zeroValue20
  t37 := Tryz.underlying85
  a37 := Tryz.isAgg85
  z37 := Tryz.sizeOf85
  v37 := Tryz.zeroValue85
  t46 := Tryz.underlying94
  a46 := Tryz.isAgg94
  z46 := Tryz.sizeOf94
  v46 := Tryz.zeroValue94
  t51 := Tryz.underlying199
  a51 := Tryz.isAgg199
  z51 := Tryz.sizeOf199
  v51 := Tryz.zeroValue199
  t53 := Tryz.underlying30
  a53 := Tryz.isAgg30
  z53 := Tryz.sizeOf30
  v53 := Tryz.zeroValue30
  t75 := Tryz.underlying37
  a75 := Tryz.isAgg37
  z75 := Tryz.sizeOf37
  v75 := Tryz.zeroValue37
  t127 := Tryz.underlying214
  a127 := Tryz.isAgg214
  z127 := Tryz.sizeOf214
  v127 := Tryz.zeroValue214
  t143 := Tryz.underlying215
  a143 := Tryz.isAgg215
  z143 := Tryz.sizeOf215
  v143 := Tryz.zeroValue215
  t145 := Tryz.underlying217
  a145 := Tryz.isAgg217
  z145 := Tryz.sizeOf217
  v145 := Tryz.zeroValue217
  t167 := Tryz.underlying137
  a167 := Tryz.isAgg137
  z167 := Tryz.sizeOf137
  v167 := Tryz.zeroValue137
  t168 := Tryz.underlying138
  a168 := Tryz.isAgg138
  z168 := Tryz.sizeOf138
  v168 := Tryz.zeroValue138
  t171 := Tryz.underlying258
  a171 := Tryz.isAgg258
  z171 := Tryz.sizeOf258
  v171 := Tryz.zeroValue258
  t173 := Tryz.underlying260
  a173 := Tryz.isAgg260
  z173 := Tryz.sizeOf260
  v173 := Tryz.zeroValue260
  t210 := Tryz.underlying168
  a210 := Tryz.isAgg168
  z210 := Tryz.sizeOf168
  v210 := Tryz.zeroValue168
  t212 := Tryz.underlying267
  a212 := Tryz.isAgg267
  z212 := Tryz.sizeOf267
  v212 := Tryz.zeroValue267
  t213 := Tryz.underlying268
  a213 := Tryz.isAgg268
  z213 := Tryz.sizeOf268
  t232 := Tryz.underlying271
  a232 := Tryz.isAgg271
  z232 := Tryz.sizeOf271
  v232 := Tryz.zeroValue271
  t233 := Tryz.underlying272
  a233 := Tryz.isAgg272
  z233 := Tryz.sizeOf272
  v233 := Tryz.zeroValue272
  g15 := by kernel_rfl
  g16 := by kernel_rfl
  g17 := by kernel_rfl
  g18 := by kernel_rfl
  g19 := by kernel_rfl
  t80 := Tryz.underlying107
  a80 := Tryz.isAgg107
  z80 := Tryz.sizeOf107
  v80 := Tryz.zeroValue107
  i0 := by kernel_rfl
  i2 := by kernel_rfl
  i3 := by kernel_rfl
  i4 := by kernel_rfl
  i5 := by kernel_rfl
  i9 := by kernel_rfl
  i20 := by kernel_rfl
  i37 := by kernel_rfl
  i46 := by kernel_rfl
  i51 := by kernel_rfl
  i53 := by kernel_rfl
  i75 := by kernel_rfl
  i80 := by kernel_rfl
  i127 := by kernel_rfl
  i143 := by kernel_rfl
  i145 := by kernel_rfl
  i167 := by kernel_rfl
  i168 := by kernel_rfl
  i171 := by kernel_rfl
  i173 := by kernel_rfl
  i210 := by kernel_rfl
  i212 := by kernel_rfl
  i232 := by kernel_rfl
  i233 := by kernel_rfl
  m15 := by kernel_rfl
  m16 := by kernel_rfl
  m17 := by kernel_rfl
  m18 := by kernel_rfl
  m19 := by kernel_rfl
  c0 := by kernel_rfl
  c2 := by kernel_rfl
  c3 := by kernel_rfl
  c4 := by kernel_rfl
  c5 := by kernel_rfl
  c9 := by kernel_rfl
  c20 := by kernel_rfl
  c37 := by kernel_rfl
  c46 := by kernel_rfl
  c51 := by kernel_rfl
  c53 := by kernel_rfl
  c75 := by kernel_rfl
  c80 := by kernel_rfl
  c127 := by kernel_rfl
  c143 := by kernel_rfl
  c145 := by kernel_rfl
  c167 := by kernel_rfl
  c168 := by kernel_rfl
  c171 := by kernel_rfl
  c173 := by kernel_rfl
  c210 := by kernel_rfl
  c212 := by kernel_rfl
  c213 := by kernel_rfl
  c232 := by kernel_rfl
  c233 := by kernel_rfl }
open Go.RowKit in
/-- strconv.toError, at the inner package's ErrSyntax: 'syntaxError(fn, s)' as an error: A *NumError IN A NEW BLOCK. (LAID: no walk: one application.) -/
theorem Tryz.strconv_toError_syntax (fn s : ByteArray) (base bits : Int) (ev : Value) (w : World) (hlim : s.size ≤ 281474976710656) (hv : w.cell? ⟨2, 0, none⟩ = some ev) (hev : ev = .nilIface ∨ ∃ te pe, ev = .iface te pe) :
    Calls Tryz.prog 46 #[.string fn, .string s, .int .i64 base, .int .i64 bits, .iface 137 (.int .i64 2)] w fun e w' => ∃ N, e = .returned (.iface 138 (.pointer (some ⟨N, 0, none⟩))) ∧ w.heap.size ≤ N ∧ w'.heap[N]? = some (.cells #[.string fn, .string s, ev] 168 (0, 0)) ∧ Below w.heap.size w w' := Any.strconv_toError_syntax Tryz.laysC245 fn s base bits ev w hlim hv hev
def Tryz.laysM280_ren : Go.Shelf.Ren := ⟨fun | 280 => 72 | 316 => 102 | n => n, fun | 9 => 9 | 168 => 138 | 75 => 37 | 210 => 168 | 3 => 3 | 4 => 4 | 37 => 85 | 0 => 0 | 127 => 214 | 80 => 107 | 5 => 5 | n => n, fun | 16 => 3 | n => n⟩
theorem Tryz.laysM280 : Go.Proofs.LaysM.n280 Tryz.prog Tryz.laysM280_ren := {
  mixed := by kernel_rfl
  f280 := Tryz.func72.trans (congrArg some (by kernel_rfl))
  f316 := Tryz.func102.trans (congrArg some (by kernel_rfl))
  t0 := Tryz.underlying0
  a0 := Tryz.isAgg0
  z0 := Tryz.sizeOf0
  v0 := Tryz.zeroValue0
  t3 := Tryz.underlying3
  a3 := Tryz.isAgg3
  z3 := Tryz.sizeOf3
  v3 := Tryz.zeroValue3
  t4 := Tryz.underlying4
  a4 := Tryz.isAgg4
  z4 := Tryz.sizeOf4
  v4 := Tryz.zeroValue4
  t9 := Tryz.underlying9
  a9 := Tryz.isAgg9
  z9 := Tryz.sizeOf9
  v9 := Tryz.zeroValue9
  t37 := Tryz.underlying85
  a37 := Tryz.isAgg85
  z37 := Tryz.sizeOf85
  v37 := Tryz.zeroValue85
  t75 := Tryz.underlying37
  a75 := Tryz.isAgg37
  z75 := Tryz.sizeOf37
  v75 := Tryz.zeroValue37
  t127 := Tryz.underlying214
  a127 := Tryz.isAgg214
  z127 := Tryz.sizeOf214
  v127 := Tryz.zeroValue214
  t168 := Tryz.underlying138
  a168 := Tryz.isAgg138
  z168 := Tryz.sizeOf138
  v168 := Tryz.zeroValue138
  t210 := Tryz.underlying168
  a210 := Tryz.isAgg168
  z210 := Tryz.sizeOf168
  v210 := Tryz.zeroValue168
  g16 := by kernel_rfl
  t5 := Tryz.underlying5
  a5 := Tryz.isAgg5
  z5 := Tryz.sizeOf5
  v5 := Tryz.zeroValue5
  t80 := Tryz.underlying107
  a80 := Tryz.isAgg107
  z80 := Tryz.sizeOf107
  v80 := Tryz.zeroValue107
  i0 := by kernel_rfl
  i3 := by kernel_rfl
  i4 := by kernel_rfl
  i5 := by kernel_rfl
  i9 := by kernel_rfl
  i37 := by kernel_rfl
  i75 := by kernel_rfl
  i80 := by kernel_rfl
  i127 := by kernel_rfl
  i168 := by kernel_rfl
  i210 := by kernel_rfl
  m16 := by kernel_rfl }
open Go.RowKit in
/-- strconv.rangeError: '&NumError{fn, stringslite.Clone(str), ErrRange}': A POINTER TO A NEW BLOCK that holds fn, str's bytes, and what the variable ErrRange holds. Of what was there nothing has turned. (LAID: no walk: one application.) -/
theorem Tryz.strconv_rangeError (fn s : ByteArray) (ev : Value) (w : World) (hlim : s.size ≤ 281474976710656) (hv : w.cell? ⟨3, 0, none⟩ = some ev) (hev : ev = .nilIface ∨ ∃ te pe, ev = .iface te pe) :
    Calls Tryz.prog 72 #[.string fn, .string s] w fun e w' => ∃ N, e = .returned (.pointer (some ⟨N, 0, none⟩)) ∧ w.heap.size ≤ N ∧ w'.heap[N]? = some (.cells #[.string fn, .string s, ev] 168 (0, 0)) ∧ Below w.heap.size w w' := Any.strconv_rangeError Tryz.laysM280 fn s ev w hlim hv hev
open Go.RowKit in
/-- strconv.toError, at the inner package's ErrRange: 'rangeError(fn, s)' as an error: A *NumError IN A NEW BLOCK. (LAID: no walk: one application.) -/
theorem Tryz.strconv_toError_range (fn s : ByteArray) (base bits : Int) (ev : Value) (w : World) (hlim : s.size ≤ 281474976710656) (hv : w.cell? ⟨3, 0, none⟩ = some ev) (hev : ev = .nilIface ∨ ∃ te pe, ev = .iface te pe) :
    Calls Tryz.prog 46 #[.string fn, .string s, .int .i64 base, .int .i64 bits, .iface 137 (.int .i64 1)] w fun e w' => ∃ N, e = .returned (.iface 138 (.pointer (some ⟨N, 0, none⟩))) ∧ w.heap.size ≤ N ∧ w'.heap[N]? = some (.cells #[.string fn, .string s, ev] 168 (0, 0)) ∧ Below w.heap.size w w' := Any.strconv_toError_range Tryz.laysC245 fn s base bits ev w hlim hv hev
def Tryz.laysM181_ren : Go.Shelf.Ren := ⟨fun | 181 => 96 | n => n, fun | 130 => 185 | 3 => 3 | 0 => 0 | 93 => 92 | 37 => 85 | 91 => 90 | 5 => 5 | n => n, fun | n => n⟩
theorem Tryz.laysM181 : Go.Proofs.LaysM.n181 Tryz.prog Tryz.laysM181_ren := {
  mixed := by kernel_rfl
  f181 := Tryz.func96.trans (congrArg some (by kernel_rfl))
  t0 := Tryz.underlying0
  a0 := Tryz.isAgg0
  z0 := Tryz.sizeOf0
  v0 := Tryz.zeroValue0
  t3 := Tryz.underlying3
  a3 := Tryz.isAgg3
  z3 := Tryz.sizeOf3
  v3 := Tryz.zeroValue3
  t37 := Tryz.underlying85
  a37 := Tryz.isAgg85
  z37 := Tryz.sizeOf85
  v37 := Tryz.zeroValue85
  t93 := Tryz.underlying92
  a93 := Tryz.isAgg92
  z93 := Tryz.sizeOf92
  v93 := Tryz.zeroValue92
  t130 := Tryz.underlying185
  a130 := Tryz.isAgg185
  z130 := Tryz.sizeOf185
  v130 := Tryz.zeroValue185
  t5 := Tryz.underlying5
  a5 := Tryz.isAgg5
  z5 := Tryz.sizeOf5
  v5 := Tryz.zeroValue5
  t91 := Tryz.underlying90
  a91 := Tryz.isAgg90
  z91 := Tryz.sizeOf90
  v91 := Tryz.zeroValue90
  i0 := by kernel_rfl
  i3 := by kernel_rfl
  i5 := by kernel_rfl
  i37 := by kernel_rfl
  i91 := by kernel_rfl
  i93 := by kernel_rfl
  i130 := by kernel_rfl }
open Go.RowKit in
/-- (*bytes.Buffer).Len: "Len returns the number of bytes of the unread portion of the buffer; b.Len() == len(b.Bytes()).": the world is as it was but for the count of draws (the statement has two reads: its order is drawn). (LAID: no walk: one application.) -/
theorem Tryz.Buffer_Len_at (T : TypeId) (R : Nat → Option Value) (B b q : Nat) (bs : List Value) (w : World) (h : LibA.IsBuffer T R 5 B b q bs w) :
    Calls Tryz.prog 96 #[.pointer (some ⟨b, q, none⟩)] w fun e w' => e = .returned (.int .i64 bs.length) ∧ ∃ n, w' = w.drewN n := Any.Buffer_Len_at Tryz.laysM181 T R B b q bs w h
def Tryz.laysM182_ren : Go.Shelf.Ren := ⟨fun | 182 => 98 | n => n, fun | 130 => 185 | 9 => 9 | 4 => 4 | 0 => 0 | 93 => 92 | 37 => 85 | 3 => 3 | 91 => 90 | 5 => 5 | n => n, fun | n => n⟩
theorem Tryz.laysM182 : Go.Proofs.LaysM.n182 Tryz.prog Tryz.laysM182_ren := {
  mixed := by kernel_rfl
  f182 := Tryz.func98.trans (congrArg some (by kernel_rfl))
  t0 := Tryz.underlying0
  a0 := Tryz.isAgg0
  z0 := Tryz.sizeOf0
  v0 := Tryz.zeroValue0
  t3 := Tryz.underlying3
  a3 := Tryz.isAgg3
  z3 := Tryz.sizeOf3
  v3 := Tryz.zeroValue3
  t4 := Tryz.underlying4
  a4 := Tryz.isAgg4
  z4 := Tryz.sizeOf4
  v4 := Tryz.zeroValue4
  t9 := Tryz.underlying9
  a9 := Tryz.isAgg9
  z9 := Tryz.sizeOf9
  v9 := Tryz.zeroValue9
  t37 := Tryz.underlying85
  a37 := Tryz.isAgg85
  z37 := Tryz.sizeOf85
  v37 := Tryz.zeroValue85
  t93 := Tryz.underlying92
  a93 := Tryz.isAgg92
  z93 := Tryz.sizeOf92
  v93 := Tryz.zeroValue92
  t130 := Tryz.underlying185
  a130 := Tryz.isAgg185
  z130 := Tryz.sizeOf185
  v130 := Tryz.zeroValue185
  t5 := Tryz.underlying5
  a5 := Tryz.isAgg5
  z5 := Tryz.sizeOf5
  v5 := Tryz.zeroValue5
  t91 := Tryz.underlying90
  a91 := Tryz.isAgg90
  z91 := Tryz.sizeOf90
  v91 := Tryz.zeroValue90
  i0 := by kernel_rfl
  i3 := by kernel_rfl
  i4 := by kernel_rfl
  i5 := by kernel_rfl
  i9 := by kernel_rfl
  i37 := by kernel_rfl
  i91 := by kernel_rfl
  i93 := by kernel_rfl
  i130 := by kernel_rfl }
open Go.RowKit in
/-- (*bytes.Buffer).String: "String returns the contents of the unread portion of the buffer as a string.": THE BYTES THAT WERE WRITTEN. The world is as it was but for the count of draws (the statement has two reads: its order is drawn). (LAID: no walk: one application.) -/
theorem Tryz.Buffer_String_at (T : TypeId) (R : Nat → Option Value) (B b q : Nat) (l : List UInt8) (w : World) (h : LibA.IsBuffer T R 5 B b q (Lib.byteCells l) w) :
    Calls Tryz.prog 98 #[.pointer (some ⟨b, q, none⟩)] w fun e w' => e = .returned (.string ⟨l.toArray⟩) ∧ ∃ n, w' = w.drewN n := Any.Buffer_String_at Tryz.laysM182 T R B b q l w h
def Tryz.laysM251_ren : Go.Shelf.Ren := ⟨fun | 251 => 122 | n => n, fun | 130 => 185 | 3 => 3 | 4 => 4 | 0 => 0 | 93 => 92 | 37 => 85 | 91 => 90 | 5 => 5 | n => n, fun | n => n⟩
theorem Tryz.laysM251 : Go.Proofs.LaysM.n251 Tryz.prog Tryz.laysM251_ren := {
  mixed := by kernel_rfl
  f251 := Tryz.func122.trans (congrArg some (by kernel_rfl))
  t0 := Tryz.underlying0
  a0 := Tryz.isAgg0
  z0 := Tryz.sizeOf0
  v0 := Tryz.zeroValue0
  t3 := Tryz.underlying3
  a3 := Tryz.isAgg3
  z3 := Tryz.sizeOf3
  v3 := Tryz.zeroValue3
  t4 := Tryz.underlying4
  a4 := Tryz.isAgg4
  z4 := Tryz.sizeOf4
  v4 := Tryz.zeroValue4
  t37 := Tryz.underlying85
  a37 := Tryz.isAgg85
  z37 := Tryz.sizeOf85
  v37 := Tryz.zeroValue85
  t93 := Tryz.underlying92
  a93 := Tryz.isAgg92
  z93 := Tryz.sizeOf92
  v93 := Tryz.zeroValue92
  t130 := Tryz.underlying185
  a130 := Tryz.isAgg185
  z130 := Tryz.sizeOf185
  v130 := Tryz.zeroValue185
  t5 := Tryz.underlying5
  a5 := Tryz.isAgg5
  z5 := Tryz.sizeOf5
  v5 := Tryz.zeroValue5
  t91 := Tryz.underlying90
  a91 := Tryz.isAgg90
  z91 := Tryz.sizeOf90
  v91 := Tryz.zeroValue90
  i0 := by kernel_rfl
  i3 := by kernel_rfl
  i4 := by kernel_rfl
  i5 := by kernel_rfl
  i37 := by kernel_rfl
  i91 := by kernel_rfl
  i93 := by kernel_rfl
  i130 := by kernel_rfl }
open Go.RowKit in
/-- (*bytes.Buffer).tryGrowByReslice: "tryGrowByReslice is an inlineable version of grow for the fast-case where the internal buffer only needs to be resliced. It returns the index where bytes should be written and whether it succeeded.": THERE IS ROOM: 'buf' is resliced to l + n. (LAID: no walk: one application.) -/
theorem Tryz.Buffer_tryGrow_room_at (b q : Nat) (ao : Option Addr) (l cap n : Nat) (w : World) (c0 : w.cell? ⟨b, q, none⟩ = some (.slice ao l cap)) (f0 : w.frozen? ⟨b, q, none⟩ = false) (hlc : l ≤ cap) (hcap : cap ≤ maxLen) (hn : n ≤ cap - l) :
    Calls Tryz.prog 122 #[.pointer (some ⟨b, q, none⟩), .int .i64 n] w fun e w' => e = .returned (.tuple #[.int .i64 l, .bool true]) ∧ w' = w.setCell ⟨b, q, none⟩ (.slice ao (l + n) cap) := Any.Buffer_tryGrow_room_at Tryz.laysM251 b q ao l cap n w c0 f0 hlc hcap hn
open Go.RowKit in
/-- .. THERE IS NONE: nothing turns. (LAID: no walk: one application.) -/
theorem Tryz.Buffer_tryGrow_none_at (b q : Nat) (ao : Option Addr) (l cap n : Nat) (w : World) (c0 : w.cell? ⟨b, q, none⟩ = some (.slice ao l cap)) (hlc : l ≤ cap) (hcap : cap ≤ maxLen) (hn : cap - l < n) :
    Calls Tryz.prog 122 #[.pointer (some ⟨b, q, none⟩), .int .i64 n] w fun e w' => e = .returned (.tuple #[.int .i64 0, .bool false]) ∧ w' = w := Any.Buffer_tryGrow_none_at Tryz.laysM251 b q ao l cap n w c0 hlc hcap hn
def Tryz.laysM252_ren : Go.Shelf.Ren := ⟨fun | 252 => 123 | 181 => 96 | 184 => 87 | 251 => 122 | 290 => 146 | 324 => 165 | n => n, fun | 130 => 185 | 3 => 3 | 4 => 4 | 0 => 0 | 93 => 92 | 131 => 189 | 37 => 85 | 75 => 37 | 91 => 90 | 20 => 20 | 5 => 5 | 80 => 107 | 9 => 9 | n => n, fun | 14 => 10 | n => n⟩
theorem Tryz.laysM252 : Go.Proofs.LaysM.n252 Tryz.prog Tryz.laysM252_ren := {
  mixed := by kernel_rfl
  f181 := Tryz.func96.trans (congrArg some (by kernel_rfl))
  f184 := Tryz.func87.trans (congrArg some (by kernel_rfl))
  f251 := Tryz.func122.trans (congrArg some (by kernel_rfl))
  f252 := Tryz.func123.trans (congrArg some (by kernel_rfl))
  f290 := Tryz.func146.trans (congrArg some (by kernel_rfl))
  f324 := Tryz.func165.trans (congrArg some (by kernel_rfl))
  t0 := Tryz.underlying0
  a0 := Tryz.isAgg0
  z0 := Tryz.sizeOf0
  v0 := Tryz.zeroValue0
  t3 := Tryz.underlying3
  a3 := Tryz.isAgg3
  z3 := Tryz.sizeOf3
  v3 := Tryz.zeroValue3
  t4 := Tryz.underlying4
  a4 := Tryz.isAgg4
  z4 := Tryz.sizeOf4
  v4 := Tryz.zeroValue4
  t20 := Tryz.underlying20
  a20 := Tryz.isAgg20
  z20 := Tryz.sizeOf20
  v20 := Tryz.zeroValue20
  t37 := Tryz.underlying85
  a37 := Tryz.isAgg85
  z37 := Tryz.sizeOf85
  v37 := Tryz.zeroValue85
  t75 := Tryz.underlying37
  a75 := Tryz.isAgg37
  z75 := Tryz.sizeOf37
  v75 := Tryz.zeroValue37
  t91 := Tryz.underlying90
  a91 := Tryz.isAgg90
  z91 := Tryz.sizeOf90
  v91 := Tryz.zeroValue90
  t93 := Tryz.underlying92
  a93 := Tryz.isAgg92
  z93 := Tryz.sizeOf92
  v93 := Tryz.zeroValue92
  t130 := Tryz.underlying185
  a130 := Tryz.isAgg185
  z130 := Tryz.sizeOf185
  v130 := Tryz.zeroValue185
  t131 := Tryz.underlying189
  a131 := Tryz.isAgg189
  z131 := Tryz.sizeOf189
  v131 := Tryz.zeroValue189
  g14 := by kernel_rfl
  t5 := Tryz.underlying5
  a5 := Tryz.isAgg5
  z5 := Tryz.sizeOf5
  v5 := Tryz.zeroValue5
  t9 := Tryz.underlying9
  a9 := Tryz.isAgg9
  z9 := Tryz.sizeOf9
  v9 := Tryz.zeroValue9
  t80 := Tryz.underlying107
  a80 := Tryz.isAgg107
  z80 := Tryz.sizeOf107
  v80 := Tryz.zeroValue107
  i0 := by kernel_rfl
  i3 := by kernel_rfl
  i4 := by kernel_rfl
  i5 := by kernel_rfl
  i9 := by kernel_rfl
  i20 := by kernel_rfl
  i37 := by kernel_rfl
  i75 := by kernel_rfl
  i80 := by kernel_rfl
  i91 := by kernel_rfl
  i93 := by kernel_rfl
  i130 := by kernel_rfl
  i131 := by kernel_rfl
  m14 := by kernel_rfl }
open Go.RowKit in
/-- grow, WHERE THE BUFFER HOLDS A ROW, NO BYTE IN IT (behind a Reset), AND THE ROW HAS NO ROOM: growSlice. (THE TEXT OF 'Buffer_grow_row' WITH 0 FOR l, BY PROGRAM: the walk parts on 'm == 0' and writes 0 for l throughout the goal: facts that still say l then do not strike: so l is laid in ahead of the walk.) (LAID: no walk: one application.) -/
theorem Tryz.Buffer_grow_row0_at (T : TypeId) (R : Nat → Option Value) (B b q g cap n : Nat) (lr : Int) (cur : Array Value) (bs : List Value) (w : World) (hB : B ≤ b) (hBw : B ≤ w.heap.size) (hbk : LibA.Three w b q T R (.slice (some ⟨g, 0, none⟩) 0 cap) (.int .i64 0) (.int .i8 lr)) (hl : bs.length = 0) (hBg : B ≤ g) (hg : w.heap[g]? = some (.cells cur 5 (0, 0))) (hlc : 0 ≤ cap) (hcm : cap ≤ maxLen) (hcs : cur.size = cap) (htake : cur.toList.take 0 = bs) (hgb : g ≠ b) (h1 : ∀ v ∈ bs, v.oneCell' = true) (hn : 1 ≤ n) (hroom : cap - 0 < n) (hlim : 0 + n ≤ 140737488355328) :
    Calls Tryz.prog 123 #[.pointer (some ⟨b, q, none⟩), .int .i64 n] w fun e w' => e = .returned (.int .i64 0) ∧ ∃ xs, xs.length = n ∧ LibA.IsBuffer T R 5 B b q (bs ++ xs) w' ∧ Below B w w' ∧ Lib.OthersKept 5 (some b) w w' ∧ w.grownBy w' (some b) := Any.Buffer_grow_row0_at Tryz.laysM252 T R B b q g cap n lr cur bs w hB hBw hbk hl hBg hg hlc hcm hcs htake hgb h1 hn hroom hlim
open Go.RowKit in
/-- grow, WHERE THE BUFFER HOLDS A ROW THAT HAS NO ROOM: growSlice. (LAID: no walk: one application.) -/
theorem Tryz.Buffer_grow_row_at (T : TypeId) (R : Nat → Option Value) (B b q g l cap n : Nat) (lr : Int) (cur : Array Value) (bs : List Value) (w : World) (hB : B ≤ b) (hBw : B ≤ w.heap.size) (hbk : LibA.Three w b q T R (.slice (some ⟨g, 0, none⟩) l cap) (.int .i64 0) (.int .i8 lr)) (hl : bs.length = l) (hBg : B ≤ g) (hg : w.heap[g]? = some (.cells cur 5 (0, 0))) (hlc : l ≤ cap) (hcm : cap ≤ maxLen) (hcs : cur.size = cap) (htake : cur.toList.take l = bs) (hgb : g ≠ b) (h1 : ∀ v ∈ bs, v.oneCell' = true) (hn : 1 ≤ n) (hroom : cap - l < n) (hlim : l + n ≤ 140737488355328) :
    Calls Tryz.prog 123 #[.pointer (some ⟨b, q, none⟩), .int .i64 n] w fun e w' => e = .returned (.int .i64 l) ∧ ∃ xs, xs.length = n ∧ LibA.IsBuffer T R 5 B b q (bs ++ xs) w' ∧ Below B w w' ∧ Lib.OthersKept 5 (some b) w w' ∧ w.grownBy w' (some b) := Any.Buffer_grow_row_at Tryz.laysM252 T R B b q g l cap n lr cur bs w hB hBw hbk hl hBg hg hlc hcm hcs htake hgb h1 hn hroom hlim
open Go.RowKit in
/-- grow, 'buf' nil, n AT MOST 64: 'b.buf = make([]byte, n, smallBufferSize)'. (LAID: no walk: one application.) -/
theorem Tryz.Buffer_grow_nil_small_at (T : TypeId) (R : Nat → Option Value) (B b q n : Nat) (lr : Int) (w : World) (hB : B ≤ b) (hBw : B ≤ w.heap.size) (hbk : LibA.Three w b q T R (.slice none 0 0) (.int .i64 0) (.int .i8 lr)) (hn : 1 ≤ n) (h64 : n ≤ 64) :
    Calls Tryz.prog 123 #[.pointer (some ⟨b, q, none⟩), .int .i64 n] w fun e w' => e = .returned (.int .i64 0) ∧ ∃ xs, xs.length = n ∧ LibA.IsBuffer T R 5 B b q xs w' ∧ Below B w w' ∧ Lib.OthersKept 5 (some b) w w' ∧ w.grownBy w' (some b) := Any.Buffer_grow_nil_small_at Tryz.laysM252 T R B b q n lr w hB hBw hbk hn h64
open Go.RowKit in
/-- grow, 'buf' nil, n ABOVE 64: growSlice of the nil slice. (LAID: no walk: one application.) -/
theorem Tryz.Buffer_grow_nil_big_at (T : TypeId) (R : Nat → Option Value) (B b q n : Nat) (lr : Int) (w : World) (hB : B ≤ b) (hBw : B ≤ w.heap.size) (hbk : LibA.Three w b q T R (.slice none 0 0) (.int .i64 0) (.int .i8 lr)) (h64 : 64 < n) (hlim : n ≤ 140737488355328) :
    Calls Tryz.prog 123 #[.pointer (some ⟨b, q, none⟩), .int .i64 n] w fun e w' => e = .returned (.int .i64 0) ∧ ∃ xs, xs.length = n ∧ LibA.IsBuffer T R 5 B b q xs w' ∧ Below B w w' ∧ Lib.OthersKept 5 (some b) w w' ∧ w.grownBy w' (some b) := Any.Buffer_grow_nil_big_at Tryz.laysM252 T R B b q n lr w hB hBw hbk h64 hlim
open Go.RowKit in
/-- tryGrowByReslice: EITHER there is room: the place to write at is the old length, and the buffer holds the old bytes and n more of whatever lay there; OR there is none: nothing turns, and 'Lib.NoRoom' is what grow asks. (LAID: no walk: one application.) -/
theorem Tryz.Buffer_tryGrow_at (T : TypeId) (R : Nat → Option Value) (B b q n : Nat) (bs : List Value) (w : World) (h : LibA.IsBuffer T R 5 B b q bs w) :
    Calls Tryz.prog 122 #[.pointer (some ⟨b, q, none⟩), .int .i64 n] w fun e w' =>
      (e = .returned (.tuple #[.int .i64 bs.length, .bool true]) ∧ ∃ xs, xs.length = n ∧ LibA.IsBuffer T R 5 B b q (bs ++ xs) w' ∧ Below B w w' ∧ Lib.OthersKept 5 (some b) w w' ∧ w.grownBy w' (some b)) ∨
      (e = .returned (.tuple #[.int .i64 0, .bool false]) ∧ w' = w ∧ LibA.NoRoom b q n w) := Any.Buffer_tryGrow_at Tryz.laysM251 T R B b q n bs w h
open Go.RowKit in
/-- (*bytes.Buffer).grow: "grow grows the buffer to guarantee space for n more bytes. It returns the index where bytes should be written.": WHERE THERE IS NO ROOM; UNDER Go's OWN LIMIT (the new length takes at most 2^47 bytes): the old length; the buffer holds the old bytes and n more of whatever. (LAID: no walk: one application.) -/
theorem Tryz.Buffer_grow_at (T : TypeId) (R : Nat → Option Value) (B b q n : Nat) (bs : List Value) (w : World) (h : LibA.IsBuffer T R 5 B b q bs w) (hnr : LibA.NoRoom b q n w) (hBw : B ≤ w.heap.size) (h1 : ∀ v ∈ bs, v.oneCell' = true) (hlim : bs.length + n ≤ 140737488355328) :
    Calls Tryz.prog 123 #[.pointer (some ⟨b, q, none⟩), .int .i64 n] w fun e w' => e = .returned (.int .i64 bs.length) ∧ ∃ xs, xs.length = n ∧ LibA.IsBuffer T R 5 B b q (bs ++ xs) w' ∧ Below B w w' ∧ Lib.OthersKept 5 (some b) w w' ∧ w.grownBy w' (some b) := Any.Buffer_grow_at Tryz.laysM252 T R B b q n bs w h hnr hBw h1 hlim
def Tryz.laysM180_ren : Go.Shelf.Ren := ⟨fun | 180 => 97 | 251 => 122 | 252 => 123 | 181 => 96 | 184 => 87 | 290 => 146 | 324 => 165 | n => n, fun | 130 => 185 | 37 => 85 | 3 => 3 | 75 => 37 | 0 => 0 | 93 => 92 | 91 => 90 | 131 => 189 | 4 => 4 | 20 => 20 | 5 => 5 | 80 => 107 | 9 => 9 | n => n, fun | 14 => 10 | n => n⟩
theorem Tryz.laysM180 : Go.Proofs.LaysM.n180 Tryz.prog Tryz.laysM180_ren := {
  mixed := by kernel_rfl
  f180 := Tryz.func97.trans (congrArg some (by kernel_rfl))
  f181 := Tryz.func96.trans (congrArg some (by kernel_rfl))
  f184 := Tryz.func87.trans (congrArg some (by kernel_rfl))
  f251 := Tryz.func122.trans (congrArg some (by kernel_rfl))
  f252 := Tryz.func123.trans (congrArg some (by kernel_rfl))
  f290 := Tryz.func146.trans (congrArg some (by kernel_rfl))
  f324 := Tryz.func165.trans (congrArg some (by kernel_rfl))
  t0 := Tryz.underlying0
  a0 := Tryz.isAgg0
  z0 := Tryz.sizeOf0
  v0 := Tryz.zeroValue0
  t3 := Tryz.underlying3
  a3 := Tryz.isAgg3
  z3 := Tryz.sizeOf3
  v3 := Tryz.zeroValue3
  t4 := Tryz.underlying4
  a4 := Tryz.isAgg4
  z4 := Tryz.sizeOf4
  v4 := Tryz.zeroValue4
  t20 := Tryz.underlying20
  a20 := Tryz.isAgg20
  z20 := Tryz.sizeOf20
  v20 := Tryz.zeroValue20
  t37 := Tryz.underlying85
  a37 := Tryz.isAgg85
  z37 := Tryz.sizeOf85
  v37 := Tryz.zeroValue85
  t75 := Tryz.underlying37
  a75 := Tryz.isAgg37
  z75 := Tryz.sizeOf37
  v75 := Tryz.zeroValue37
  t91 := Tryz.underlying90
  a91 := Tryz.isAgg90
  z91 := Tryz.sizeOf90
  v91 := Tryz.zeroValue90
  t93 := Tryz.underlying92
  a93 := Tryz.isAgg92
  z93 := Tryz.sizeOf92
  v93 := Tryz.zeroValue92
  t130 := Tryz.underlying185
  a130 := Tryz.isAgg185
  z130 := Tryz.sizeOf185
  v130 := Tryz.zeroValue185
  t131 := Tryz.underlying189
  a131 := Tryz.isAgg189
  z131 := Tryz.sizeOf189
  v131 := Tryz.zeroValue189
  g14 := by kernel_rfl
  t5 := Tryz.underlying5
  a5 := Tryz.isAgg5
  z5 := Tryz.sizeOf5
  v5 := Tryz.zeroValue5
  t9 := Tryz.underlying9
  a9 := Tryz.isAgg9
  z9 := Tryz.sizeOf9
  v9 := Tryz.zeroValue9
  t80 := Tryz.underlying107
  a80 := Tryz.isAgg107
  z80 := Tryz.sizeOf107
  v80 := Tryz.zeroValue107
  i0 := by kernel_rfl
  i3 := by kernel_rfl
  i4 := by kernel_rfl
  i5 := by kernel_rfl
  i9 := by kernel_rfl
  i20 := by kernel_rfl
  i37 := by kernel_rfl
  i75 := by kernel_rfl
  i80 := by kernel_rfl
  i91 := by kernel_rfl
  i93 := by kernel_rfl
  i130 := by kernel_rfl
  i131 := by kernel_rfl
  m14 := by kernel_rfl }
open Go.RowKit in
/-- (*bytes.Buffer).Write: "Write appends the contents of p to the buffer, growing the buffer as needed. The return value n is the length of p; err is always nil." (LAID: no walk: one application.) -/
theorem Tryz.Buffer_Write_at (T : TypeId) (R : Nat → Option Value) (B b q : Nat) (bs cs : List Value) (a : Addr) (n c : Nat) (w : World) (h : LibA.IsBuffer T R 5 B b q bs w) (hBw : B ≤ w.heap.size) (h1 : ∀ v ∈ bs, v.oneCell' = true) (hn : cs.length = n) (hab : a.block ≠ b) (hsrc : ∀ j v, cs[j]? = some v → w.cell? (a.add j) = some v) (h1c : ∀ v ∈ cs, v.oneCell' = true) (hlim : bs.length + n ≤ 140737488355328) :
    Calls Tryz.prog 97 #[.pointer (some ⟨b, q, none⟩), .slice (some a) n c] w fun e w' => e = .returned (.tuple #[.int .i64 n, .nilIface]) ∧ LibA.IsBuffer T R 5 B b q (bs ++ cs) w' ∧ Below B w w' ∧ Lib.OthersKept 5 (some b) w w' := Any.Buffer_Write_at Tryz.laysM180 T R B b q bs cs a n c w h hBw h1 hn hab hsrc h1c hlim
def Tryz.lays264_ren : Go.Shelf.Ren := ⟨fun | 264 => 166 | n => n, fun | 53 => 30 | 46 => 94 | n => n, fun | n => n⟩
theorem Tryz.lays264 : Go.Proofs.Lays.n264 Tryz.prog Tryz.lays264_ren := {
  mixed := by kernel_rfl
  f264 := Tryz.func166.trans (congrArg some (by kernel_rfl))
  t46 := Tryz.underlying94
  a46 := Tryz.isAgg94
  z46 := Tryz.sizeOf94
  v46 := Tryz.zeroValue94
  t53 := Tryz.underlying30
  a53 := Tryz.isAgg30
  z53 := Tryz.sizeOf30
  v53 := Tryz.zeroValue30 }
open Go.RowKit Go.Lib in
theorem Tryz.bits_Mul64 (x y : Nat) (hx : x < 18446744073709551616) (hy : y < 18446744073709551616) (w : World) :
    Calls Tryz.prog 166 #[.int .u64 x, .int .u64 y] w fun e w' => e = .returned (.tuple #[.int .u64 ((x * y / 18446744073709551616 : Nat) : Int), .int .u64 ((x * y % 18446744073709551616 : Nat) : Int)]) ∧ w' = w := Any.bits_Mul64 Tryz.lays264 x y hx hy w
def Tryz.lays260_ren : Go.Shelf.Ren := ⟨fun | 260 => 212 | n => n, fun | 9 => 9 | 21 => 21 | 3 => 3 | 4 => 4 | 5 => 5 | 119 => 223 | 0 => 0 | 46 => 94 | 139 => 226 | 138 => 225 | n => n, fun | 3 => 8 | 4 => 9 | n => n⟩
theorem Tryz.lays260 : Go.Proofs.Lays.n260 Tryz.prog Tryz.lays260_ren := {
  mixed := by kernel_rfl
  f260 := Tryz.func212.trans (congrArg some (by kernel_rfl))
  t0 := Tryz.underlying0
  a0 := Tryz.isAgg0
  z0 := Tryz.sizeOf0
  v0 := Tryz.zeroValue0
  t3 := Tryz.underlying3
  a3 := Tryz.isAgg3
  z3 := Tryz.sizeOf3
  v3 := Tryz.zeroValue3
  t4 := Tryz.underlying4
  a4 := Tryz.isAgg4
  z4 := Tryz.sizeOf4
  v4 := Tryz.zeroValue4
  t5 := Tryz.underlying5
  a5 := Tryz.isAgg5
  z5 := Tryz.sizeOf5
  v5 := Tryz.zeroValue5
  t9 := Tryz.underlying9
  a9 := Tryz.isAgg9
  z9 := Tryz.sizeOf9
  v9 := Tryz.zeroValue9
  t21 := Tryz.underlying21
  a21 := Tryz.isAgg21
  z21 := Tryz.sizeOf21
  v21 := Tryz.zeroValue21
  t46 := Tryz.underlying94
  a46 := Tryz.isAgg94
  z46 := Tryz.sizeOf94
  v46 := Tryz.zeroValue94
  t119 := Tryz.underlying223
  a119 := Tryz.isAgg223
  z119 := Tryz.sizeOf223
  t138 := Tryz.underlying225
  a138 := Tryz.isAgg225
  z138 := Tryz.sizeOf225
  v138 := Tryz.zeroValue225
  t139 := Tryz.underlying226
  a139 := Tryz.isAgg226
  z139 := Tryz.sizeOf226
  v139 := Tryz.zeroValue226
  g3 := by kernel_rfl
  g4 := by kernel_rfl }
open Go.RowKit Go.Lib in
theorem Tryz.utf8_decodeRuneInStringSlow (s : ByteArray) (w : World) (hT : Lib.Utf8Tabs 8 9 w) :
    Calls Tryz.prog 212 #[.string s] w fun e w' => e = .returned (.tuple #[.int .i32 (Lib.decodeGo s).1, .int .i64 (Lib.decodeGo s).2]) ∧ Below w.heap.size w w' := Any.utf8_decodeRuneInStringSlow Tryz.lays260 s w hT
def Tryz.lays197_ren : Go.Shelf.Ren := ⟨fun | 197 => 210 | 260 => 212 | n => n, fun | 9 => 9 | 21 => 21 | 3 => 3 | 4 => 4 | 5 => 5 | 105 => 183 | 119 => 223 | 0 => 0 | 46 => 94 | 139 => 226 | 138 => 225 | n => n, fun | 3 => 8 | 4 => 9 | n => n⟩
theorem Tryz.lays197 : Go.Proofs.Lays.n197 Tryz.prog Tryz.lays197_ren := {
  mixed := by kernel_rfl
  f197 := Tryz.func210.trans (congrArg some (by kernel_rfl))
  f260 := Tryz.func212.trans (congrArg some (by kernel_rfl))
  t0 := Tryz.underlying0
  a0 := Tryz.isAgg0
  z0 := Tryz.sizeOf0
  v0 := Tryz.zeroValue0
  t3 := Tryz.underlying3
  a3 := Tryz.isAgg3
  z3 := Tryz.sizeOf3
  v3 := Tryz.zeroValue3
  t4 := Tryz.underlying4
  a4 := Tryz.isAgg4
  z4 := Tryz.sizeOf4
  v4 := Tryz.zeroValue4
  t5 := Tryz.underlying5
  a5 := Tryz.isAgg5
  z5 := Tryz.sizeOf5
  v5 := Tryz.zeroValue5
  t9 := Tryz.underlying9
  a9 := Tryz.isAgg9
  z9 := Tryz.sizeOf9
  v9 := Tryz.zeroValue9
  t21 := Tryz.underlying21
  a21 := Tryz.isAgg21
  z21 := Tryz.sizeOf21
  v21 := Tryz.zeroValue21
  t46 := Tryz.underlying94
  a46 := Tryz.isAgg94
  z46 := Tryz.sizeOf94
  v46 := Tryz.zeroValue94
  t105 := Tryz.underlying183
  a105 := Tryz.isAgg183
  z105 := Tryz.sizeOf183
  v105 := Tryz.zeroValue183
  t119 := Tryz.underlying223
  a119 := Tryz.isAgg223
  z119 := Tryz.sizeOf223
  t138 := Tryz.underlying225
  a138 := Tryz.isAgg225
  z138 := Tryz.sizeOf225
  v138 := Tryz.zeroValue225
  t139 := Tryz.underlying226
  a139 := Tryz.isAgg226
  z139 := Tryz.sizeOf226
  v139 := Tryz.zeroValue226
  g3 := by kernel_rfl
  g4 := by kernel_rfl }
open Go.RowKit Go.Lib in
/-- **unicode/utf8.DecodeRuneInString AT EVERY STRING.** (LAID: no walk: one application.) -/
theorem Tryz.utf8_DecodeRuneInString (s : ByteArray) (w : World) (hT : Lib.Utf8Tabs 8 9 w) :
    Calls Tryz.prog 210 #[.string s] w fun e w' => e = .returned (.tuple #[.int .i32 (Lib.decodeGo s).1, .int .i64 (Lib.decodeGo s).2]) ∧ Below w.heap.size w w' := Any.utf8_DecodeRuneInString Tryz.lays197 s w hT
end Go.Proofs
