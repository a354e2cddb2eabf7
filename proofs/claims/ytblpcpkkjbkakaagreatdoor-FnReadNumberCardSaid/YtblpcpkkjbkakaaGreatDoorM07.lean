/- Lemmas towards the seat's laws: 6 texts joined. -/
import Derived.Test.YtblpcpkkjbkakaaGreatDoorM06
import Derived.Test.YtblpcpkkjbkakaaGreatDoorM01
import Derived.Lib.BufSteps
import Derived.Laws.BytesArg
import Derived.Laws.DeepStrings4
import Derived.OwnWalk
import Derived.Laws.FloatArith
import Derived.Test.YtblpcpkkjbkakaaGreatDoorM04
import Derived.Laws.Externs
import Derived.Laws.Bits64b
import Derived.WalkSmall
import Derived.Test.YtblpcpkkjbkakaaGreatDoorM02
/- strconv.Quote on a text of plain printable bytes. -/
namespace Go.Proofs.YtblpcpkkjbkakaaGreatDoor
open Go Go.RowKit
set_option linter.unusedVariables false
set_option linter.unusedSimpArgs false

def PlainB (x : Nat) : Prop := 32 ≤ x ∧ x ≤ 126 ∧ x ≠ 34 ∧ x ≠ 92
def numsOf (s : ByteArray) : List Int := s.data.toList.map fun c => (c.toNat : Int)
def u8c (l : List Int) : List Value := l.map (Value.int .u8)
theorem byte5 : (Tryz.prog.info? 5).map (fun i => (i.zero, i.size, i.bytes)) = some (some (.int .u8 0), 1, 1) := by kernel_rfl

set_option maxHeartbeats 1000000 in
theorem esc_plain (B : Nat) (v : Value) (n : Nat) (xs : List Value) (r : Nat) (W0 w : World) (hb : Lib.OwnBuf B 5 v n xs W0 w) (hlen : n + 10 ≤ 140737488355328) (hr : PlainB r) :
    Calls Tryz.prog 211 #[v, .int .i32 r, .int .u8 34, .bool false, .bool false] w fun e w' => ∃ v', e = .returned v' ∧ Lib.OwnBuf B 5 v' (n + 1) (xs ++ [.int .u8 r]) W0 w' := by
  obtain ⟨h1, h2, h3, h4⟩ := hr
  have e1 : ((r : Int) == 34) = false := beq_false_of_ne (by omega)
  have e2 : ((r : Int) == 92) = false := beq_false_of_ne (by omega)
  have hp : Lib.isPrintLatin (r : Int) = true := by
    unfold Lib.isPrintLatin
    rw [decide_eq_true (by omega : (32 : Int) ≤ r), decide_eq_true (by omega : (r : Int) ≤ 126)]; rfl
  have hc := fun W => Tryz.strconv_IsPrint_latin (r : Int) W (by omega)
  rw [hp] at hc
  have HC := Lib.hid hc; clear hc hp
  have ha := Tryz.utf8_AppendRune_row B v n xs (r : Int) (by omega) (by omega) w hb.1 (by omega) hb.2.2
  have hrc : Lib.runeCells (r : Int) = [.int .u8 r] := by unfold Lib.runeCells; rw [Lib.encodeRuneZ_one (by omega) (by omega)]; rfl
  rw [hrc] at ha
  have HA := Lib.hid ha; clear ha hrc
  have HB := Lib.hid hb; clear hb
  go_enter Tryz.func211, Tryz.ntmps211
  go_wp2_with (first | (go_at_call 213; refine (HC.out _).mono ?_; rintro e w' ⟨rfl, rfl⟩) | (go_at_call 215; refine HA.out.mono ?_; rintro e w' ⟨v', rfl, k1, o, k2⟩))
  go_ret
  exact ⟨v', rfl, (HB.out.alloc o).grown k1 k2⟩

theorem size_drop (s : ByteArray) (k : Nat) (h : k ≤ s.size) : (s.extract k s.size).size = s.size - k := by
  rw [ByteArray.size_extract]; omega

set_option maxRecDepth 1000000 in
set_option maxHeartbeats 4000000 in
theorem quoted_plain (B : Nat) (a : Option Addr) (c : Nat) (s : ByteArray) (W0 w : World) (hb : Lib.OwnBuf B 5 (.slice a 0 c) 0 [] W0 w) (hroom : s.size ≤ c) (hc : c ≤ 9223372036854775807) (hlen : s.size ≤ 1000000)
    (hp : ∀ x ∈ s.data.toList, PlainB x.toNat) :
    Calls Tryz.prog 209 #[.slice a 0 c, .string s, .int .u8 34, .bool false, .bool false] w fun e w' => ∃ v', e = .returned v' ∧ Lib.OwnBuf B 5 v' (s.size + 2) (u8c ([34] ++ numsOf s ++ [34])) W0 w' := by
  obtain ⟨i0, hi, hz0, hz1, hz2⟩ := info_parts byte5
  have HP := Lib.hid hp; clear hp
  obtain ⟨LL, hLL⟩ : ∃ L, L = u8c ([34] ++ numsOf s ++ [34]) := ⟨_, rfl⟩
  rw [← hLL]
  have HLL := Lib.hid hLL; clear hLL
  go_enter Tryz.func209, Tryz.ntmps209
  go_wp2_with (at_builtin; refine Lib.wpList_append_byte rfl _ _ 85 rfl B 5 i0 Tryz.underlying85 hi hz0 hz1 hz2 _ _ _ rfl W0 _ _ (by assumption) rfl (by omega) ?_; intro _ _ hb)
  have Hb := Lib.hid hb
  clear hb
  go_loopw [0, 1, 12, 13] (fun vb vs _ _ wr => ∃ (rest : ByteArray) (k : Nat), vs = .string rest ∧ k + rest.size = s.size ∧ RowKit.Hid (rest.data.toList = s.data.toList.drop k) ∧ RowKit.Hid (Lib.OwnBuf B 5 vb (1 + k) (u8c ([34] ++ (numsOf s).take k)) W0 wr))
    (fun _ vs _ _ _ => match vs with | .string r => r.size | _ => 0)
  case atStart => exact ⟨s, 0, rfl, by omega, Lib.hid rfl, Lib.hid (by simpa [u8c] using Hb.out)⟩
  case round =>
    obtain ⟨rest, k, rfl, hk, hr, hbr⟩ := hrel
    by_cases h0 : 0 < rest.size
    · obtain ⟨x, hx⟩ : ∃ x, rest.data.toList[0]? = some x := ⟨rest[0], get_at rest 0 h0⟩
      have hxs : s.data.toList[k]? = some x := by rw [hr.out, List.getElem?_drop] at hx; exact hx
      have hpl := HP.out x (List.mem_of_getElem? hxs)
      have hD := fun W => Tryz.utf8_DecodeRuneInString_ascii rest x W hx (by have := hpl.2.1; omega)
      have hE := esc_plain B _ _ _ x.toNat W0 wr hbr.out (by omega) hpl
      have hn : (numsOf s).take (k + 1) = (numsOf s).take k ++ [(x.toNat : Int)] := by
        rw [List.take_add_one]
        unfold numsOf
        rw [List.getElem?_map, hxs]; rfl
      have hv : u8c ([34] ++ (numsOf s).take k) ++ [.int .u8 (x.toNat : Int)] = u8c ([34] ++ (numsOf s).take (k + 1)) := by rw [hn]; simp [u8c]
      rw [hv] at hE
      have hre : (rest.extract 1 rest.size).data.toList = s.data.toList.drop (k + 1) := by
        rw [extract_drop, hr.out, List.drop_drop]
      have hse := size_drop rest 1 (by omega)
      obtain ⟨X, hX⟩ : ∃ X, X = x.toNat := ⟨_, rfl⟩
      rw [← hX] at hD hE
      have e1 : ((X : Int) == 65533) = false := beq_false_of_ne (by have := hpl.2.1; omega)
      have HD := Lib.hid hD; clear hD
      have HE := Lib.hid hE; clear hE
      have HX := Lib.hid (And.intro hre hse)
      clear hx hxs hpl hn hv hre hX
      go_wp2_with (first | (go_at_call 210; refine (HD.out _).mono ?_; rintro e w' ⟨rfl, rfl⟩) | (go_at_call 211; refine HE.out.mono ?_; rintro e w' ⟨v', rfl, k1⟩))
      go_roundw
      case rel => exact ⟨_, k + 1, rfl, by omega, Lib.hid HX.out.1, Lib.hid (by rw [show 1 + (k + 1) = 1 + k + 1 by omega]; assumption)⟩
      case measure => simp only []; omega
    · have hks : k = s.size := by omega
      have hbx := hbr.out
      rw [hks, show (numsOf s).take s.size = numsOf s by
        apply List.take_of_length_le
        unfold numsOf
        rw [List.length_map, ← Lib.size_eq]; exact Nat.le_refl _] at hbx
      have hsz : (rest.size : Int) = 0 := by omega
      clear hbr hks
      go_wp2_with (at_builtin; refine Lib.wpList_append_byte rfl _ _ 85 rfl B 5 i0 Tryz.underlying85 hi hz0 hz1 hz2 _ _ _ rfl W0 _ _ (by assumption) rfl (by omega) ?_; intro _ _ hb)
      go_ret
      refine ⟨_, rfl, ?_⟩
      rw [show s.size + 2 = 1 + s.size + 1 by omega, HLL.out, show u8c ([34] ++ numsOf s ++ [34]) = u8c ([34] ++ numsOf s) ++ [.int .u8 34] by simp [u8c]]
      assumption

/-- What is at the head of a row of bytes. -/
theorem row_cells {B : Nat} {v : Value} {n : Nat} {l : List Int} {W0 w : World} (h : Lib.OwnBuf B 5 v n (u8c l) W0 w) (hl : 0 < n) (hn : l.length = n) :
    ∃ g cap, v = .slice (some ⟨g, 0, none⟩) n cap ∧ ∀ i, i < n → w.cell? ⟨g, 0 + i, none⟩ = some (.int .u8 (l.getD i 0)) := by
  rcases h.1.2 with ⟨_, h0⟩ | ⟨g, cap, cur, fz, rfl, _⟩
  · omega
  · refine ⟨g, cap, by simp, fun i hi => ?_⟩
    have := h.1.cells (g := g) (by simp [Value.ownBlock]) i (.int .u8 (l.getD i 0)) (by simp [u8c, List.getD, List.getElem?_eq_getElem (show i < l.length by omega)])
    by_cases hi0 : i = 0 <;> simpa [Addr.add, hi0] using this

set_option maxHeartbeats 4000000 in
set_option maxRecDepth 1000000 in
theorem quoteWith_plain (s : ByteArray) (w : World) (hlen : s.size ≤ 1000000) (hp : ∀ x ∈ s.data.toList, PlainB x.toNat) :
    Calls Tryz.prog 208 #[.string s, .int .u8 34, .bool false, .bool false] w fun e w' => e = .returned (.string (strOfNums ([34] ++ numsOf s ++ [34]))) ∧ Below w.heap.size w w' := by
  obtain ⟨i0, hi, hz0, hz1, hz2⟩ := info_parts byte5
  obtain ⟨c, hc⟩ : ∃ c, c = 3 * s.size / 2 := ⟨_, rfl⟩
  have hcI : 3 * (s.size : Int) / 2 = (c : Int) := by omega
  have hc1 : s.size ≤ c := by omega
  have hc2 : c ≤ 140737488355328 := by omega
  have cQ := fun w1 (hb : Lib.OwnBuf w.heap.size 5 (.slice (some ⟨w.heap.size, 0, none⟩) 0 c) 0 [] w w1) => quoted_plain w.heap.size _ c s w w1 hb hc1 (by omega) hlen hp
  have Hc := Lib.hid hc
  have HQ := Lib.hid cQ
  clear hc hp cQ
  go_enter Tryz.func208, Tryz.ntmps208
  go_wp2_with (first
    | (at_make; refine wpList_make_own _ rfl _ _ 85 rfl w.heap.size 5 i0 (.int .u8 0) 1 Tryz.underlying85 hi hz0 hz1 _ _ _ c rfl rfl (by first | rfl | assumption) (by rw [hz2]; omega) (by unfold maxLen; omega) (Nat.le_refl _) ?_; intro w1 hown hg)
    | (go_at_call 209; refine (HQ.out _ ⟨World.ownsRowF_of hown, (Below.refl _ _).grown hg (Nat.le_refl _) (by intro k hk; cases hk), hg.size⟩).mono ?_; rintro e w2 ⟨v2, rfl, hb2⟩))
  obtain ⟨g, cap, rfl, hcells⟩ := row_cells hb2 (by omega) (by simp [numsOf])
  have hcv := run_convert_bytes_arg w2 85 5 Tryz.underlying85 Tryz.underlying5 g 0 _ cap ([34] ++ numsOf s ++ [34]) (by simp [numsOf]) hcells 9 Tryz.underlying9
  rw [hcv]
  obtain ⟨R, hR⟩ : ∃ R, R = strOfNums ([34] ++ numsOf s ++ [34]) := ⟨_, rfl⟩
  rw [← hR]
  go_wp2
  go_ret
  exact ⟨rfl, hb2.2.1⟩

def quoteP (s : ByteArray) : ByteArray := strOfNums ([34] ++ numsOf s ++ [34])
theorem quoteP_size (s : ByteArray) : (quoteP s).size = s.size + 2 := by
  unfold quoteP
  rw [strOfNums_size]
  simp [numsOf]
theorem quote_plain (s : ByteArray) (w : World) (hlen : s.size ≤ 1000000) (hp : ∀ x ∈ s.data.toList, PlainB x.toNat) :
    Calls Tryz.prog 207 #[.string s] w fun e w' => e = .returned (.string (quoteP s)) ∧ Below w.heap.size w w' := by
  have HQ := Lib.hid (quoteWith_plain s w hlen hp)
  clear hp
  go_enter Tryz.func207, Tryz.ntmps207
  go_wp2_with (go_at_call 208; refine HQ.out.mono ?_; rintro e w2 ⟨rfl, hb⟩)
  go_ret
  exact ⟨rfl, hb⟩

end Go.Proofs.YtblpcpkkjbkakaaGreatDoor
/- The floats' own laws: signs in products, quotients and comparisons; what is finite. No program in sight. -/
namespace Go.Proofs.YtblpcpkkjbkakaaGreatDoor
open Go Ieee
set_option linter.unusedVariables false
set_option linter.unusedSimpArgs false

def SW : Nat := 9223372036854775808
/-- The word of a sign over a rung. -/
def sg (neg : Bool) (x : Nat) : Nat := if neg then SW + x else x

def mk (neg : Bool) (rung : Nat) : Datum :=
  if rung < double.binade then .number neg rung double.leastPlace
  else if rung < double.infRung then .number neg (double.binade + rung % double.binade) (double.leastPlace + (rung / double.binade - 1 : Nat))
  else if rung = double.infRung then .infinity neg
  else .nan neg (rung - double.infRung)

theorem sw : double.signWeight = SW := by decide +kernel
theorem read_sg (neg : Bool) (x : Nat) (h : x < SW) : double.read (sg neg x) = mk neg x := by
  unfold Format.read mk
  rw [sw]
  have h1 : (sg neg x / SW % 2 == 1) = neg := by
    unfold sg SW at *; cases neg
    · simp; omega
    · simp; omega
  have h2 : sg neg x % SW = x := by unfold sg SW at *; cases neg <;> simp <;> omega
  rw [h1, h2]
theorem read_plain (x : Nat) (h : x < SW) : double.read x = mk false x := read_sg false x h

theorem word_sg (neg : Bool) (r : Nat) : double.word neg r = sg neg r := by unfold Format.word sg; rw [sw]
theorem cut_even (neg : Bool) (n d : Nat) : Toward.even.cut neg n d = Toward.even.cut false n d := by unfold Toward.cut; simp only
theorem sg_false (r : Nat) : sg false r = r := rfl
theorem near_gen (f : Format) (neg : Bool) (m : Nat) (p : Int) : ∃ r, r ≤ f.infRung ∧ f.nearest neg m p = f.word neg r ∧ f.nearest false m p = f.word false r := by
  unfold Format.nearest
  by_cases h : m = 0
  · rw [if_pos h, if_pos h]; exact ⟨0, Nat.zero_le _, rfl, rfl⟩
  · rw [if_neg h, if_neg h]
    dsimp only
    rw [cut_even neg]
    exact ⟨_, Nat.min_le_right _ _, rfl, rfl⟩
theorem infRung_sw : double.infRung < SW := by decide +kernel
theorem nearest_sg (neg : Bool) (m : Nat) (p : Int) : double.nearest neg m p = sg neg (double.nearest false m p) := by
  obtain ⟨r, h0, h1, h2⟩ := near_gen double neg m p
  rw [h1, h2, word_sg, word_sg, sg_false]
theorem nearest_lt_sw (m : Nat) (p : Int) : double.nearest false m p < SW := by
  obtain ⟨r, h0, h1, h2⟩ := near_gen double false m p
  have := infRung_sw
  rw [h2, word_sg, sg_false]; omega

theorem mul_sg (neg : Bool) (x y : Nat) (hx : x < SW) (hy : y < SW) : double.mul (sg neg x) y = (double.mul x y).map (sg neg) := by
  unfold Format.mul
  rw [read_sg neg x hx, read_plain x hx, read_plain y hy]
  unfold mk
  split <;> (try split) <;> (try split) <;> (try split) <;> (try split) <;> (try split) <;>
    simp [Datum.product, Format.write, word_sg, nearest_sg neg] <;> (try split) <;> simp [Format.write, word_sg, nearest_sg neg, sg]

theorem div_sg (neg : Bool) (x y : Nat) (hx : x < SW) (hy : y < SW) : double.div (sg neg x) y = (double.div x y).map (sg neg) := by
  unfold Format.div
  rw [read_sg neg x hx, read_plain x hx, read_plain y hy]
  unfold mk
  split <;> (try split) <;> (try split) <;> (try split) <;> (try split) <;> (try split) <;>
    simp [Datum.quotient, Format.write, word_sg, nearest_sg neg] <;> (try split) <;> (try split) <;> simp [Format.write, word_sg, nearest_sg neg, sg]

theorem ord_neg (a b : Int) : (compare (-a) (-b) == Ordering.eq) = (compare a b == Ordering.eq) := by
  simp only [compare, compareOfLessAndEq]
  split <;> split <;> (try split) <;> (try split) <;> first | rfl | omega
theorem signed_true (m u : Nat) : signed true m u = -signed false m u := rfl

theorem ord_sg (neg : Bool) (x y : Nat) (hx : x < SW) (hy : y < SW) : (double.order (sg neg x) (sg neg y) == some Ordering.eq) = (double.order x y == some Ordering.eq) := by
  unfold Format.order
  rw [read_sg neg x hx, read_sg neg y hy, read_plain x hx, read_plain y hy]
  cases neg
  · rfl
  · unfold mk
    split <;> (try split) <;> (try split) <;> (try split) <;> (try split) <;> (try split) <;>
      simp [Datum.order, signed_true, ord_neg]

end Go.Proofs.YtblpcpkkjbkakaaGreatDoor
/- Floats from bits: the sign's bit in masks; the last step of the fast reading. -/
namespace Go.Proofs.YtblpcpkkjbkakaaGreatDoor
open Go Go.RowKit
set_option linter.unusedVariables false
set_option linter.unusedSimpArgs false

theorem call134 (n : Int) (w : World) : (callFunc 134 #[.int .u64 n]).run Tryz.prog w = .ok (.value (.float .f64 n.toNat)) w := by
  rw [run_callFunc_extern Tryz.func134 (by kernel_rfl) (by kernel_rfl) (by kernel_rfl) (show Extern.find _ = some Extern.MathFloatBits.float64frombits by kernel_rfl)]
  rfl

def sgn (neg : Bool) : Nat := if neg then SW else 0
theorem sw_pow : SW = 2 ^ 63 := rfl
theorem sg_or (neg : Bool) (r : Nat) (h : r < SW) : sgn neg ||| r = sg neg r := by
  cases neg
  · show 0 ||| r = r
    simp
  · show SW ||| r = SW + r
    rw [sw_pow] at *
    exact (Nat.two_pow_add_eq_or_of_lt h 1 |>.symm |> fun e => by simpa using e)
theorem sg_and (neg : Bool) (r k : Nat) (h : r < SW) (hk : k < SW) : sg neg r &&& k = r &&& k := by
  rw [← sg_or neg r h, Nat.and_or_distrib_right]
  cases neg
  · show (0 &&& k) ||| _ = _
    simp
  · show (SW &&& k) ||| _ = _
    have : SW &&& k = 0 := by
      rw [sw_pow] at *
      apply Nat.eq_of_testBit_eq
      intro i
      rw [Nat.testBit_and, Nat.testBit_two_pow, Nat.zero_testBit]
      by_cases hi : 63 = i
      · subst hi
        rw [Nat.testBit_lt_two_pow hk]; simp
      · simp [hi]
    rw [this]; simp
theorem sg_mask (neg : Bool) (r : Nat) (h : r < SW) : sg neg r &&& SW = sgn neg := by
  rw [← sg_or neg r h, Nat.and_or_distrib_right]
  have h2 : r &&& SW = 0 := by
    rw [sw_pow] at *
    apply Nat.eq_of_testBit_eq
    intro i
    rw [Nat.testBit_and, Nat.testBit_two_pow, Nat.zero_testBit]
    by_cases hi : 63 = i
    · subst hi
      rw [Nat.testBit_lt_two_pow h]; simp
    · simp [hi]
  rw [h2]
  cases neg
  · show (0 &&& SW) ||| 0 = 0; simp
  · show (SW &&& SW) ||| 0 = SW; simp
theorem sg_or2 (neg : Bool) (a b : Nat) (ha : a < SW) (hb : b < SW) : sg neg a ||| b = sg neg (a ||| b) := by
  rw [← sg_or neg a ha, ← sg_or neg (a ||| b) (by rw [sw_pow] at *; exact Nat.or_lt_two_pow ha hb), Nat.or_assoc]
theorem sg_lt (neg : Bool) (r : Nat) (h : r < SW) : sg neg r < 18446744073709551616 := by
  unfold sg SW at *; split <;> omega

/-- All bits but the 53rd. -/
def M52 : Nat := 18442240474082181119
theorem sg_and_not (neg : Bool) (r : Nat) (h : r < SW) : sg neg r &&& M52 = sg neg (r &&& M52) := by
  rw [← sg_or neg r h, ← sg_or neg (r &&& M52) (Nat.lt_of_le_of_lt Nat.and_le_left h), Nat.and_or_distrib_right]
  cases neg
  · show (0 &&& M52) ||| _ = 0 ||| _; simp
  · show (SW &&& M52) ||| _ = SW ||| _
    have : SW &&& M52 = SW := by decide +kernel
    rw [this]

theorem andNot52 (a : Nat) (ha : a < 18446744073709551616) : bits BinOp.andNot IntKind.u64 (a : Int) 4503599627370496 = ((a &&& M52 : Nat) : Int) := by
  have h1 : (BitVec.ofInt 64 (a : Int)) = BitVec.ofNat 64 a := by simp
  have h2 : ~~~ (BitVec.ofInt 64 (4503599627370496 : Int)) = BitVec.ofNat 64 M52 := by decide +kernel
  unfold bits
  show IntKind.u64.wrap (((BitVec.ofInt 64 (a : Int)) &&& ~~~ (BitVec.ofInt 64 (4503599627370496 : Int))).toNat : Int) = _
  rw [h1, h2, BitVec.toNat_and, BitVec.toNat_ofNat, BitVec.toNat_ofNat, Nat.mod_eq_of_lt (by simpa using ha), Nat.mod_eq_of_lt (by decide +kernel)]
  have h3 : a &&& M52 ≤ a := Nat.and_le_left
  simp only [IntKind.wrap_u64]
  omega
theorem and_m52 (r : Nat) (h : r < 2 ^ 53) : r &&& M52 = r % 2 ^ 52 := by
  have h1 : r &&& M52 < 2 ^ 53 := Nat.lt_of_le_of_lt Nat.and_le_left h
  have h2 : (r &&& M52) % 2 ^ 53 = r &&& (2 ^ 52 - 1) := by
    rw [Nat.and_mod_two_pow, Nat.mod_eq_of_lt h]
    congr 1
  rw [Nat.mod_eq_of_lt h1, Nat.and_two_pow_sub_one_eq_mod] at h2
  exact h2

/-- The error of a number, by its sign: 0 none, 1 out of range, 2 no number. -/
def ev (c : Nat) : Value := if c = 0 then .nilIface else .iface 137 (.int .i64 c)

def packR (r : Nat) (e : Int) : Nat × Nat :=
  if r &&& 4503599627370496 = 0 then (r, 0) else if 972 ≤ e then (9218868437227405312, 1) else ((r &&& M52) ||| (1075 + e).toNat * 4503599627370496, 0)

set_option maxRecDepth 100000 in
theorem pack_any (neg : Bool) (r : Nat) (e : Int) (hr : r < SW) (he : -1075 ≤ e) (he2 : e ≤ 100000) (w : World) :
    Calls Tryz.prog 162 #[.int .u64 (sg neg r : Nat), .int .i64 e] w (fun en w' => en = .returned (.tuple #[.float .f64 (sg neg (packR r e).1), ev (packR r e).2]) ∧ w = w') := by
  have hl := sg_lt neg r hr
  have ha1 : bits BinOp.and IntKind.u64 ((sg neg r : Nat) : Int) 4503599627370496 = ((r &&& 4503599627370496 : Nat) : Int) := by
    rw [← sg_and neg r 4503599627370496 hr (by decide)]; exact bits_and_u64_nat _ _ hl (by decide)
  have h134 := call134
  obtain ⟨S, hS⟩ : ∃ S : Int, S = ((sg neg r : Nat) : Int) := ⟨_, rfl⟩
  have HS := Lib.hid hS
  by_cases h0 : r &&& 4503599627370496 = 0
  · have hp : packR r e = (r, 0) := by unfold packR; rw [if_pos h0]
    rw [hp]
    rw [h0, ← hS] at ha1
    rw [← hS]
    clear hS
    go_enter Tryz.func162, Tryz.ntmps162
    go_wp2_with fail
    go_ret2
    refine ⟨?_, rfl⟩
    rw [HS.out]
    rfl
  · have hb : ((((r &&& 4503599627370496 : Nat) : Int)) == 0) = false := beq_false_of_ne (by omega)
    rw [← hS] at ha1
    by_cases h9 : 972 ≤ e
    · have hp : packR r e = (9218868437227405312, 1) := by unfold packR; rw [if_neg h0, if_pos h9]
      have ha2 : bits BinOp.and IntKind.u64 S 9223372036854775808 = ((sgn neg : Nat) : Int) := by
        rw [hS, ← sg_mask neg r hr]; exact bits_and_u64_nat _ _ hl (by decide)
      have ha3 : bits BinOp.or IntKind.u64 ((sgn neg : Nat) : Int) 9218868437227405312 = ((sg neg 9218868437227405312 : Nat) : Int) := by
        rw [← sg_or neg 9218868437227405312 (by decide)]; exact bits_or_u64_nat _ _ (by unfold sgn SW; split <;> omega) (by decide)
      rw [hp, ← hS]
      clear hS
      obtain ⟨S2, hS2⟩ : ∃ S2 : Int, S2 = ((sg neg 9218868437227405312 : Nat) : Int) := ⟨_, rfl⟩
      rw [← hS2] at ha3
      have HS2 := Lib.hid hS2; clear hS2
      go_enter Tryz.func162, Tryz.ntmps162
      go_wp2_with fail
      go_ret2
      refine ⟨?_, rfl⟩
      rw [HS2.out]
      rfl
    · have hp : packR r e = ((r &&& M52) ||| (1075 + e).toNat * 4503599627370496, 0) := by unfold packR; rw [if_neg h0, if_neg h9]
      have ha2 : bits BinOp.andNot IntKind.u64 S 4503599627370496 = ((sg neg (r &&& M52) : Nat) : Int) := by
        rw [hS, andNot52 _ hl, sg_and_not neg r hr]
      obtain ⟨E, hEn⟩ : ∃ E : Nat, E = (1075 + e).toNat := ⟨_, rfl⟩
      rw [← hEn] at hp
      have hQ : (1075 + e) * 4503599627370496 = ((E * 4503599627370496 : Nat) : Int) := by omega
      have hlt : E * 4503599627370496 < SW := by unfold SW; omega
      have ha3 : bits BinOp.or IntKind.u64 ((sg neg (r &&& M52) : Nat) : Int) ((1075 + e) * 4503599627370496) = ((sg neg ((r &&& M52) ||| E * 4503599627370496) : Nat) : Int) := by
        have hrm : r &&& M52 < SW := Nat.lt_of_le_of_lt Nat.and_le_left hr
        rw [← sg_or2 neg _ _ hrm hlt, hQ]
        exact bits_or_u64_nat _ _ (sg_lt neg _ hrm) (by unfold SW at hlt; omega)
      clear hQ hlt hEn
      rw [hp, ← hS]
      clear hS
      obtain ⟨S2, hS2⟩ : ∃ S2 : Int, S2 = ((sg neg ((r &&& M52) ||| E * 4503599627370496) : Nat) : Int) := ⟨_, rfl⟩
      rw [← hS2] at ha3
      have HS2 := Lib.hid hS2; clear hS2
      go_enter Tryz.func162, Tryz.ntmps162
      go_wp2_with fail
      go_ret2
      refine ⟨?_, rfl⟩
      rw [HS2.out]
      rfl

end Go.Proofs.YtblpcpkkjbkakaaGreatDoor
/- special: the words of floats. -/
namespace Go.Proofs.YtblpcpkkjbkakaaGreatDoor
open Go Go.RowKit
set_option linter.unusedVariables false
set_option linter.unusedSimpArgs false

/-- The common beginning's length. -/
theorem cpl_any (s p : ByteArray) (w : World) (hs : s.size ≤ 100000) (hp : p.size ≤ 100000) :
    Calls Tryz.prog 147 #[.string s, .string p] w (fun e w' => (∃ n : Nat, n ≤ p.size ∧ e = .returned (.int .i64 n)) ∧ w = w') := by
  go_enter Tryz.func147, Tryz.ntmps147
  obtain ⟨M, hM⟩ : ∃ M : Nat, min (p.size : Int) (s.size : Int) = M := ⟨min p.size s.size, by omega⟩
  have hM1 : M ≤ p.size := by omega
  have hM2 : M ≤ s.size := by omega
  go_wp2_with fail
  go_loop [6] (fun i => ∃ k : Nat, k ≤ M ∧ i = .int .i64 k) (fun i => M - (intOf i).toNat)
  case atStart => exact ⟨0, by omega, rfl⟩
  case round =>
    obtain ⟨k, hk, rfl⟩ := hrel
    by_cases hlt : k < M
    · have h1 : k < s.size := by omega
      have h2 : k < p.size := by omega
      go_wp2
      all_goals first | (go_ret; exact ⟨⟨k, by omega, rfl⟩, rfl⟩) | skip
      all_goals go_round
      all_goals first | (case rel => exact ⟨k + 1, by omega, by go_num⟩) | skip
      all_goals first | (case measure => simp [intOf]; omega) | skip
    · go_wp2
      go_ret
      exact ⟨⟨M, hM1, rfl⟩, rfl⟩

theorem cpl_zero (s p : ByteArray) (w : World) (hs : s.size ≤ 100000) (hp : p.size ≤ 100000) (hp0 : 0 < p.size)
    (h : ∀ h0 : 0 < s.size, ((s[0].toNat : Int) < 65 ∨ 90 < (s[0].toNat : Int)) ∧ (s[0].toNat : Int) ≠ (p[0].toNat : Int)) :
    Calls Tryz.prog 147 #[.string s, .string p] w (fun e w' => e = .returned (.int .i64 0) ∧ w = w') := by
  have HH := Lib.hid h; clear h
  go_enter Tryz.func147, Tryz.ntmps147
  obtain ⟨M, hM⟩ : ∃ M : Nat, min (p.size : Int) (s.size : Int) = M := ⟨min p.size s.size, by omega⟩
  have hM1 : M ≤ p.size := by omega
  have hM2 : M ≤ s.size := by omega
  have hM3 : s.size = 0 → M = 0 := by omega
  go_wp2_with fail
  go_loop [6] (fun i => i = .int .i64 0) (fun i => 0)
  case atStart => rfl
  case round =>
    subst hrel
    by_cases hlt : 0 < M
    · have h1 : 0 < s.size := by omega
      obtain ⟨ha, hb⟩ := HH.out h1
      have hn : ((s[0].toNat : Int) == (p[0].toNat : Int)) = false := beq_false_of_ne hb
      have hn2 : ((s[0].toNat : Int) != (p[0].toNat : Int)) = true := by simpa using hb
      rcases ha with ha | ha
      · go_wp2
        go_ret
        exact ⟨rfl, rfl⟩
      · go_wp2
        go_ret
        exact ⟨rfl, rfl⟩
    · have hM0 : M = 0 := by omega
      subst hM0
      go_wp2
      go_ret
      exact ⟨rfl, rfl⟩

def specialWord (f : Nat) : Prop := f = 9218868437227405312 ∨ f = 18442240474082181120 ∨ f = 9221120237041090561
theorem inf_any (k : Int) (w : World) : Calls Tryz.prog 148 #[.int .i64 k] w (fun e w' => (∃ f, specialWord f ∧ e = .returned (.float .f64 f)) ∧ w = w') := by
  have h134 := call134
  go_enter Tryz.func148, Tryz.ntmps148
  by_cases h : 0 ≤ k
  · go_wp2_with fail
    go_ret
    exact ⟨⟨_, .inl rfl, rfl⟩, rfl⟩
  · go_wp2_with fail
    go_ret
    exact ⟨⟨_, .inr (.inl rfl), rfl⟩, rfl⟩
theorem nan_any (w : World) : Calls Tryz.prog 149 #[] w (fun e w' => (∃ f, specialWord f ∧ e = .returned (.float .f64 f)) ∧ w = w') := by
  have h134 := call134
  go_enter Tryz.func149, Tryz.ntmps149
  go_wp2_with fail
  go_ret
  exact ⟨⟨_, .inr (.inr rfl), rfl⟩, rfl⟩

theorem results_tmp3 {fn : Func} {a b c : Tmp} (h : fn.results = #[.tmp a, .tmp b, .tmp c]) (tmps : Array Value) (P : Program) (w : World) :
    (results fn tmps).run P w = .ok (.tuple #[tmps.getD a undef, tmps.getD b undef, tmps.getD c undef]) w := by
  simp [results, h]
def SpPost (w : World) (e : Ending) (w' : World) : Prop :=
  (∃ f n ok, e = .returned (.tuple #[.float .f64 f, .int .i64 n, .bool ok]) ∧ (ok = true → specialWord f) ∧ 0 ≤ n ∧ n ≤ 100) ∧ w = w'

set_option maxRecDepth 100000 in
set_option maxHeartbeats 2000000 in
theorem special_any (s : ByteArray) (w : World) (hs : s.size ≤ 100000) (h0 : 0 < s.size) : Calls Tryz.prog 124 #[.string s] w (SpPost w) := by
  have hemp : (s = ByteArray.empty) = False := eq_false (fun e => by rw [e] at h0; exact absurd h0 (by decide))
  go_enter Tryz.func124, Tryz.ntmps124
  have hext : ∀ k, (s.extract k s.size).size ≤ 100000 := fun k => by rw [size_ext]; omega
  have i1 := fun (t : ByteArray) (W : World) (h : t.size ≤ 100000) => cpl_any t ⟨#[105, 110, 102, 105, 110, 105, 116, 121]⟩ W h (by decide)
  have i2 := fun (t : ByteArray) (W : World) (h : t.size ≤ 100000) => cpl_any t ⟨#[110, 97, 110]⟩ W h (by decide)
  have I1 := Lib.hid i1; clear i1
  have I2 := Lib.hid i2; clear i2
  have HX := Lib.hid hext; clear hext
  have HS := Lib.hid hs
  by_cases c1 : s[0] = 43
  · have e1 : ((s[0].toNat : Int) == 43) = true := by rw [c1]; rfl
    have e2 : ((s[0].toNat : Int) == 45) = false := by rw [c1]; rfl
    clear c1
    go_upto_region 17 with (go_at_call 147; refine (I1.out _ _ (HX.out 1)).mono ?_; rintro e w' ⟨⟨n, hn, rfl⟩, rfl⟩)
    have hn8 : n ≤ 8 := hn
    have hn9 : n = 0 ∨ n = 1 ∨ n = 2 ∨ n = 3 ∨ n = 4 ∨ n = 5 ∨ n = 6 ∨ n = 7 ∨ n = 8 := by omega
    clear hn hn8
    rcases hn9 with rfl | rfl | rfl | rfl | rfl | rfl | rfl | rfl | rfl
    all_goals go_wp2_with (go_at_call 148; refine (inf_any _ _).mono ?_; rintro e w' ⟨⟨f, hf, rfl⟩, rfl⟩)
    all_goals first | exact bodyPost_ret_by (results_tmp3 rfl _ _ _) rfl ⟨⟨0, 0, false, rfl, (fun h => by cases h), by omega, by omega⟩, rfl⟩ | exact bodyPost_ret_by (results_tmp3 rfl _ _ _) rfl ⟨⟨f, _, true, rfl, fun _ => hf, by omega, by omega⟩, rfl⟩
  · have d1 : ((s[0].toNat : Int) == 43) = false := beq_false_of_ne (fun e => c1 ((byte_eq _ _).2 e))
    by_cases c2 : s[0] = 45
    · have e2 : ((s[0].toNat : Int) == 45) = true := by rw [c2]; rfl
      clear c1 c2
      go_upto_region 17 with (go_at_call 147; refine (I1.out _ _ (HX.out 1)).mono ?_; rintro e w' ⟨⟨n, hn, rfl⟩, rfl⟩)
      have hn8 : n ≤ 8 := hn
      have hn9 : n = 0 ∨ n = 1 ∨ n = 2 ∨ n = 3 ∨ n = 4 ∨ n = 5 ∨ n = 6 ∨ n = 7 ∨ n = 8 := by omega
      clear hn hn8
      rcases hn9 with rfl | rfl | rfl | rfl | rfl | rfl | rfl | rfl | rfl
      all_goals go_wp2_with (go_at_call 148; refine (inf_any _ _).mono ?_; rintro e w' ⟨⟨f, hf, rfl⟩, rfl⟩)
      all_goals first | exact bodyPost_ret_by (results_tmp3 rfl _ _ _) rfl ⟨⟨0, 0, false, rfl, (fun h => by cases h), by omega, by omega⟩, rfl⟩ | exact bodyPost_ret_by (results_tmp3 rfl _ _ _) rfl ⟨⟨f, _, true, rfl, fun _ => hf, by omega, by omega⟩, rfl⟩
    · have d2 : ((s[0].toNat : Int) == 45) = false := beq_false_of_ne (fun e => c2 ((byte_eq _ _).2 e))
      by_cases c3 : s[0] = 105
      · have e3 : ((s[0].toNat : Int) == 105) = true := by rw [c3]; rfl
        clear c1 c2 c3
        go_upto_region 17 with (go_at_call 147; refine (I1.out _ _ HS.out).mono ?_; rintro e w' ⟨⟨n, hn, rfl⟩, rfl⟩)
        have hn8 : n ≤ 8 := hn
        have hn9 : n = 0 ∨ n = 1 ∨ n = 2 ∨ n = 3 ∨ n = 4 ∨ n = 5 ∨ n = 6 ∨ n = 7 ∨ n = 8 := by omega
        clear hn hn8
        rcases hn9 with rfl | rfl | rfl | rfl | rfl | rfl | rfl | rfl | rfl
        all_goals go_wp2_with (go_at_call 148; refine (inf_any _ _).mono ?_; rintro e w' ⟨⟨f, hf, rfl⟩, rfl⟩)
        all_goals first | exact bodyPost_ret_by (results_tmp3 rfl _ _ _) rfl ⟨⟨0, 0, false, rfl, (fun h => by cases h), by omega, by omega⟩, rfl⟩ | exact bodyPost_ret_by (results_tmp3 rfl _ _ _) rfl ⟨⟨f, _, true, rfl, fun _ => hf, by omega, by omega⟩, rfl⟩
      · have d3 : ((s[0].toNat : Int) == 105) = false := beq_false_of_ne (fun e => c3 ((byte_eq _ _).2 e))
        by_cases c4 : s[0] = 73
        · have e4 : ((s[0].toNat : Int) == 73) = true := by rw [c4]; rfl
          clear c1 c2 c3 c4
          go_upto_region 17 with (go_at_call 147; refine (I1.out _ _ HS.out).mono ?_; rintro e w' ⟨⟨n, hn, rfl⟩, rfl⟩)
          have hn8 : n ≤ 8 := hn
          have hn9 : n = 0 ∨ n = 1 ∨ n = 2 ∨ n = 3 ∨ n = 4 ∨ n = 5 ∨ n = 6 ∨ n = 7 ∨ n = 8 := by omega
          clear hn hn8
          rcases hn9 with rfl | rfl | rfl | rfl | rfl | rfl | rfl | rfl | rfl
          all_goals go_wp2_with (go_at_call 148; refine (inf_any _ _).mono ?_; rintro e w' ⟨⟨f, hf, rfl⟩, rfl⟩)
          all_goals first | exact bodyPost_ret_by (results_tmp3 rfl _ _ _) rfl ⟨⟨0, 0, false, rfl, (fun h => by cases h), by omega, by omega⟩, rfl⟩ | exact bodyPost_ret_by (results_tmp3 rfl _ _ _) rfl ⟨⟨f, _, true, rfl, fun _ => hf, by omega, by omega⟩, rfl⟩
        · have d4 : ((s[0].toNat : Int) == 73) = false := beq_false_of_ne (fun e => c4 ((byte_eq _ _).2 e))
          have hor : ((s[0].toNat : Int) == 110) = true ∨ (((s[0].toNat : Int) == 110) = false ∧ ((s[0].toNat : Int) == 78) = true) ∨ (((s[0].toNat : Int) == 110) = false ∧ ((s[0].toNat : Int) == 78) = false) := by
            cases ((s[0].toNat : Int) == 110) <;> cases ((s[0].toNat : Int) == 78) <;> simp
          clear c1 c2 c3 c4
          rcases hor with e5 | ⟨d5, e6⟩ | ⟨d5, d6⟩
          · go_wp2_with fail
            refine (I2.out s _ HS.out).mono ?_
            rintro e w' ⟨⟨n, hn, rfl⟩, rfl⟩
            have hn3 : n ≤ 3 := hn
            have hn9 : n = 0 ∨ n = 1 ∨ n = 2 ∨ n = 3 := by omega
            clear hn hn3
            rcases hn9 with rfl | rfl | rfl | rfl
            all_goals go_wp2_with (go_at_call 149; refine (nan_any _).mono ?_; rintro e w' ⟨⟨f, hf, rfl⟩, rfl⟩)
            all_goals first | exact bodyPost_ret_by (results_tmp3 rfl _ _ _) rfl ⟨⟨0, 0, false, rfl, (fun h => by cases h), by omega, by omega⟩, rfl⟩ | exact bodyPost_ret_by (results_tmp3 rfl _ _ _) rfl ⟨⟨f, _, true, rfl, fun _ => hf, by omega, by omega⟩, rfl⟩
          · go_wp2_with fail
            refine (I2.out s _ HS.out).mono ?_
            rintro e w' ⟨⟨n, hn, rfl⟩, rfl⟩
            have hn3 : n ≤ 3 := hn
            have hn9 : n = 0 ∨ n = 1 ∨ n = 2 ∨ n = 3 := by omega
            clear hn hn3
            rcases hn9 with rfl | rfl | rfl | rfl
            all_goals go_wp2_with (go_at_call 149; refine (nan_any _).mono ?_; rintro e w' ⟨⟨f, hf, rfl⟩, rfl⟩)
            all_goals first | exact bodyPost_ret_by (results_tmp3 rfl _ _ _) rfl ⟨⟨0, 0, false, rfl, (fun h => by cases h), by omega, by omega⟩, rfl⟩ | exact bodyPost_ret_by (results_tmp3 rfl _ _ _) rfl ⟨⟨f, _, true, rfl, fun _ => hf, by omega, by omega⟩, rfl⟩
          · go_wp2_with fail
            refine bodyPost_ret_by (results_tmp3 rfl _ _ _) rfl ⟨⟨0, 0, false, rfl, (fun h => by cases h), by omega, by omega⟩, rfl⟩

set_option maxRecDepth 100000 in
set_option maxHeartbeats 2000000 in
/-- A decimal, with a sign or without, is no special word. -/
theorem special_dec (s : ByteArray) (neg : Bool) (i0 : Nat) (w : World) (hs : s.size ≤ 100000) (hlt : i0 < s.size)
    (hn : (neg = true ∧ i0 = 1 ∧ ∃ h : 0 < s.size, s[0] = 45) ∨ (neg = false ∧ i0 = 0)) (hd : isDig s[i0] = true ∨ s[i0] = 46) :
    Calls Tryz.prog 124 #[.string s] w (fun e w' => e = .returned (.tuple #[.float .f64 0, .int .i64 0, .bool false]) ∧ w = w') := by
  have h0 : 0 < s.size := by omega
  have hemp : (s = ByteArray.empty) = False := eq_false (fun e => by rw [e] at h0; exact absurd h0 (by decide))
  have hb : 46 ≤ (s[i0].toNat : Int) ∧ (s[i0].toNat : Int) ≤ 57 ∧ (s[i0].toNat : Int) ≠ 45 := by
    rcases hd with hd | hd
    · rw [isDig_iff] at hd; omega
    · rw [hd]; decide
  go_enter Tryz.func124, Tryz.ntmps124
  rcases hn with ⟨rfl, rfl, hh, h45⟩ | ⟨rfl, rfl⟩
  · have e1 : ((s[0].toNat : Int) == 43) = false := by rw [h45]; rfl
    have e2 : ((s[0].toNat : Int) == 45) = true := by rw [h45]; rfl
    have hcp := fun W => cpl_zero (s.extract 1 s.size) ⟨#[105, 110, 102, 105, 110, 105, 116, 121]⟩ W (by rw [size_ext]; omega) (by decide) (by decide) (fun h => by
      have he : (s.extract 1 s.size)[0] = s[1] := by simp [ByteArray.getElem_extract]
      rw [he]
      refine ⟨.inl (by omega), ?_⟩
      show (s[1].toNat : Int) ≠ 105
      omega)
    have HC := Lib.hid hcp; clear hcp h45 hb hd
    go_wp2_with (go_at_call 147; refine (HC.out _).mono ?_; rintro e w' ⟨rfl, rfl⟩)
    exact bodyPost_ret_by (results_tmp3 rfl _ _ _) rfl ⟨rfl, rfl⟩
  · have q1 : ((s[0].toNat : Int) == 43) = false := beq_false_of_ne (by omega)
    have q2 : ((s[0].toNat : Int) == 45) = false := beq_false_of_ne (by omega)
    have q3 : ((s[0].toNat : Int) == 105) = false := beq_false_of_ne (by omega)
    have q4 : ((s[0].toNat : Int) == 73) = false := beq_false_of_ne (by omega)
    have q5 : ((s[0].toNat : Int) == 110) = false := beq_false_of_ne (by omega)
    have q6 : ((s[0].toNat : Int) == 78) = false := beq_false_of_ne (by omega)
    clear hb hd
    go_wp2_with fail
    exact bodyPost_ret_by (results_tmp3 rfl _ _ _) rfl ⟨rfl, rfl⟩

end Go.Proofs.YtblpcpkkjbkakaaGreatDoor
/- The fast reading of floats: its scaling. -/
namespace Go.Proofs.YtblpcpkkjbkakaaGreatDoor
open Go Go.RowKit
set_option linter.unusedVariables false
set_option linter.unusedSimpArgs false

theorem prescale_any (pb q : Nat) (e lp hi lo x0 x1 x2 : Int) (w : World) (hq : q < 696) (he : -100000 ≤ e) (he2 : e ≤ 100000) (hl : -100000 ≤ lp) (hl2 : lp ≤ 100000) (hb : w.heap[pb]? = some (.cells #[.int .u64 x0, .int .u64 x1, .int .i64 x2] 236 (0, 0)))
    (hhi : w.cell? ⟨14, q * 2, none⟩ = some (.int .u64 hi)) (hlo : w.cell? ⟨14, q * 2 + 1, none⟩ = some (.int .u64 lo)) (hne : pb ≠ 14) :
    Calls Tryz.prog 154 #[.pointer (some ⟨pb, 0, none⟩), .int .i64 e, .int .i64 ((q : Int) - 348), .int .i64 lp] w (fun en w' => en = .returned (.tuple #[]) ∧ w' = ((w.setCell ⟨pb, 0, none⟩ (.int .u64 hi)).setCell ⟨pb, 1, none⟩ (.int .u64 lo)).setCell ⟨pb, 2, none⟩ (.int .i64 (-(e + lp + 3)))) := by
  have c0 : w.cell? ⟨pb, 0, none⟩ = some (.int .u64 x0) := by rw [Lib.cell_of_heap hb]; rfl
  have c1 : w.cell? ⟨pb, 1, none⟩ = some (.int .u64 x1) := by rw [Lib.cell_of_heap hb]; rfl
  have c2 : w.cell? ⟨pb, 2, none⟩ = some (.int .i64 x2) := by rw [Lib.cell_of_heap hb]; rfl
  have f0 := Lib.frozen_of_heap hb 0
  have f1 := Lib.frozen_of_heap hb 1
  have f2 := Lib.frozen_of_heap hb 2
  have HB := Lib.hid hb; clear hb
  go_enter Tryz.func154, Tryz.ntmps154
  go_wp2_with fail
  go_end0
  exact ⟨rfl, rfl⟩

def b2i (b : Bool) : Int := if b then 1 else 0
theorem bool2_u64 (b : Bool) (w : World) : Calls Tryz.prog 133 #[.bool b] w (fun e w' => e = .returned (.int .u64 (b2i b)) ∧ w = w') := by
  go_enter Tryz.func133, Tryz.ntmps133
  cases b with
  | false => go_wp2_with fail; go_ret; exact ⟨rfl, rfl⟩
  | true => go_wp2_with fail; go_ret; exact ⟨rfl, rfl⟩
theorem bool2_int (b : Bool) (w : World) : Calls Tryz.prog 156 #[.bool b] w (fun e w' => e = .returned (.int .i64 (b2i b)) ∧ w = w') := by
  go_enter Tryz.func156, Tryz.ntmps156
  cases b with
  | false => go_wp2_with fail; go_ret; exact ⟨rfl, rfl⟩
  | true => go_wp2_with fail; go_ret; exact ⟨rfl, rfl⟩

/-- What the scaling gives. -/
def uscF (x hi lo : Nat) (s : Int) : Int :=
  if IntKind.u64.wrap (((x * hi / 18446744073709551616 : Nat) : Int) / 2 ^ s.toNat * 2 ^ s.toNat) != ((x * hi / 18446744073709551616 : Nat) : Int) then
    bits BinOp.or IntKind.u64 (((x * hi / 18446744073709551616 : Nat) : Int) / 2 ^ s.toNat) 1
  else
    bits BinOp.or IntKind.u64 (IntKind.u64.wrap (((x * hi / 18446744073709551616 : Nat) : Int) - b2i (decide (((x * hi % 18446744073709551616 : Nat) : Int) < ((x * lo / 18446744073709551616 : Nat) : Int)))) / 2 ^ s.toNat)
      (b2i (decide (1 < IntKind.u64.wrap (((x * hi % 18446744073709551616 : Nat) : Int) - ((x * lo / 18446744073709551616 : Nat) : Int)))))

set_option maxRecDepth 100000 in
set_option maxHeartbeats 1000000 in
theorem uscale_any (pb x hi lo : Nat) (s : Int) (w : World) (hx : x < 18446744073709551616) (hh : hi < 18446744073709551616) (hl : lo < 18446744073709551616) (hs0 : 0 ≤ s) (hs : s < 64)
    (c0 : w.cell? ⟨pb, 0, none⟩ = some (.int .u64 hi)) (c1 : w.cell? ⟨pb, 1, none⟩ = some (.int .u64 lo)) (c2 : w.cell? ⟨pb, 2, none⟩ = some (.int .i64 s)) :
    Calls Tryz.prog 155 #[.int .u64 x, .pointer (some ⟨pb, 0, none⟩)] w (fun e w' => e = .returned (.int .u64 (uscF x hi lo s)) ∧ ∃ n, w' = w.drewN n) := by
  have hand : bits BinOp.and IntKind.i64 s 63 = s := by
    have h : ∀ k : Fin 64, bits BinOp.and IntKind.i64 (k.val : Int) 63 = (k.val : Int) := by decide +kernel
    have := h ⟨s.toNat, by omega⟩
    rw [show (((⟨s.toNat, by omega⟩ : Fin 64).val : Nat) : Int) = s by show ((s.toNat : Nat) : Int) = s; omega] at this
    exact this
  obtain ⟨Hn, hHn⟩ : ∃ n, n = x * hi / 18446744073709551616 := ⟨_, rfl⟩
  obtain ⟨Mn, hMn⟩ : ∃ n, n = x * hi % 18446744073709551616 := ⟨_, rfl⟩
  obtain ⟨Ln, hLn⟩ : ∃ n, n = x * lo / 18446744073709551616 := ⟨_, rfl⟩
  have hHl : Hn < 18446744073709551616 := by
    rw [hHn]; apply Nat.div_lt_of_lt_mul
    exact Nat.mul_lt_mul'' hx hh
  have hMl : Mn < 18446744073709551616 := by rw [hMn]; exact Nat.mod_lt _ (by decide)
  have hLl : Ln < 18446744073709551616 := by
    rw [hLn]; apply Nat.div_lt_of_lt_mul
    exact Nat.mul_lt_mul'' hx hl
  unfold uscF
  rw [← hHn, ← hMn, ← hLn]
  have h1 := Tryz.bits_Mul64 x hi hx hh
  have h2 := Tryz.bits_Mul64 x lo hx hl
  rw [← hHn, ← hMn] at h1
  rw [← hLn] at h2
  obtain ⟨L2, hL2⟩ : ∃ n, n = x * lo % 18446744073709551616 := ⟨_, rfl⟩
  rw [← hL2] at h2
  obtain ⟨HI, hHI⟩ : ∃ I : Int, I = (Hn : Int) := ⟨_, rfl⟩
  obtain ⟨MI, hMI⟩ : ∃ I : Int, I = (Mn : Int) := ⟨_, rfl⟩
  obtain ⟨LI, hLI⟩ : ∃ I : Int, I = (Ln : Int) := ⟨_, rfl⟩
  obtain ⟨XI, hXI⟩ : ∃ I : Int, I = (x : Int) := ⟨_, rfl⟩
  rw [← hHI, ← hMI, ← hLI, ← hXI]
  rw [← hHI, ← hMI, ← hXI] at h1
  rw [← hLI, ← hXI] at h2
  obtain ⟨T, hT⟩ : ∃ T, T = HI / 2 ^ s.toNat := ⟨_, rfl⟩
  obtain ⟨U, hU⟩ : ∃ U, U = IntKind.u64.wrap (T * 2 ^ s.toNat) := ⟨_, rfl⟩
  rw [← hT, ← hU]
  have H1 := Lib.hid h1; clear h1
  have H2 := Lib.hid h2; clear h2
  have tT := hT.symm
  have tU := hU.symm
  clear hT hU hL2 hHn hMn hLn
  have HX := Lib.hid (And.intro hHI (And.intro hMI (And.intro hLI hXI))); clear hHI hMI hLI hXI
  by_cases hc : (U != HI) = true
  · rw [if_pos hc]
    go_enter Tryz.func155, Tryz.ntmps155
    go_wp2_with (go_at_call 166; refine (H1.out _).mono ?_; rintro e w' ⟨rfl, rfl⟩)
    go_ret
    exact ⟨rfl, 0, rfl⟩
  · rw [if_neg hc]
    have hcf : (U != HI) = false := by simpa using hc
    obtain ⟨D, hD⟩ : ∃ D, b2i (decide (MI < LI)) = D := ⟨_, rfl⟩
    rw [hD]
    obtain ⟨K, hK⟩ : ∃ K, IntKind.u64.wrap (HI - D) = K := ⟨_, rfl⟩
    rw [hK]
    obtain ⟨T2, hT2⟩ : ∃ T2, K / 2 ^ s.toNat = T2 := ⟨_, rfl⟩
    rw [hT2]
    obtain ⟨V, hV⟩ : ∃ V, IntKind.u64.wrap (MI - LI) = V := ⟨_, rfl⟩
    rw [hV]
    obtain ⟨E2, hE2⟩ : ∃ E, b2i (decide (1 < V)) = E := ⟨_, rfl⟩
    rw [hE2]
    clear hc
    have HD := Lib.hid hD
    have HE := Lib.hid hE2
    go_enter Tryz.func155, Tryz.ntmps155
    go_upto_region 5 with (go_at_call 166; refine (H1.out _).mono ?_; rintro e w' ⟨rfl, rfl⟩)
    go_upto_region 6 with (go_at_call 166; refine (H2.out _).mono ?_; rintro e w' ⟨rfl, rfl⟩)
    go_upto_region 7 with (go_at_call 133; refine (bool2_u64 _ _).mono ?_; rintro e w' ⟨rfl, rfl⟩)
    go_quiet (first | (refine (bool2_u64 _ _).mono ?_; rintro e w' ⟨rfl, rfl⟩; exact ⟨rfl, _, rfl⟩))
    go_wp2_with fail
    go_ret
    exact ⟨rfl, nq, rfl⟩

theorem div_pow_lt (n k : Nat) (hn : n < 18446744073709551616) (hk : 8 ≤ k) : n / 2 ^ k < 72057594037927936 := by
  have h1 : n / 2 ^ k ≤ n / 2 ^ 8 := Nat.div_le_div_left (Nat.pow_le_pow_right (by decide) hk) (by decide)
  have h2 : n / 2 ^ 8 < 72057594037927936 := by omega
  omega
theorem int_div_pow (n k : Nat) : ((n : Int) / 2 ^ k) = ((n / 2 ^ k : Nat) : Int) := by
  rw [Int.natCast_ediv]; simp
theorem uscF_lt (x hi lo : Nat) (s : Int) (hx : x < 18446744073709551616) (hh : hi < 18446744073709551616) (hs : 8 ≤ s) : ∃ n : Nat, uscF x hi lo s = n ∧ n < 72057594037927936 := by
  have hH : x * hi / 18446744073709551616 < 18446744073709551616 := Nat.div_lt_of_lt_mul (Nat.mul_lt_mul'' hx hh)
  have hk : 8 ≤ s.toNat := by omega
  unfold uscF
  split
  · rw [int_div_pow]
    have h1 := div_pow_lt _ _ hH hk
    refine ⟨_, bits_or_u64_nat _ 1 (by omega) (by decide), ?_⟩
    exact Nat.or_lt_two_pow (n := 56) h1 (by decide)
  · obtain ⟨K, hK⟩ : ∃ K, IntKind.u64.wrap (((x * hi / 18446744073709551616 : Nat) : Int) - b2i (decide (((x * hi % 18446744073709551616 : Nat) : Int) < ((x * lo / 18446744073709551616 : Nat) : Int)))) = K := ⟨_, rfl⟩
    obtain ⟨E, hE⟩ : ∃ E : Nat, b2i (decide (1 < IntKind.u64.wrap (((x * hi % 18446744073709551616 : Nat) : Int) - ((x * lo / 18446744073709551616 : Nat) : Int)))) = (E : Int) ∧ E < 2 := by
      unfold b2i; split
      · exact ⟨1, rfl, by decide⟩
      · exact ⟨0, rfl, by decide⟩
    rw [hK, hE.1]
    have hK2 : 0 ≤ K ∧ K < 18446744073709551616 := by rw [← hK, IntKind.wrap_u64]; omega
    obtain ⟨Kn, rfl⟩ : ∃ n : Nat, K = n := ⟨K.toNat, by omega⟩
    rw [int_div_pow]
    have h1 := div_pow_lt Kn _ (by omega) hk
    refine ⟨_, bits_or_u64_nat _ E (by omega) (by omega), ?_⟩
    exact Nat.or_lt_two_pow (n := 56) h1 (by omega)

set_option maxRecDepth 100000 in
theorem log2Pow10_any (p : Int) (w : World) (h : -100000 ≤ p) (h2 : p ≤ 100000) : Calls Tryz.prog 153 #[.int .i64 p] w (fun e w' => e = .returned (.int .i64 (p * 108853 / 32768)) ∧ w = w') := by
  go_enter Tryz.func153, Tryz.ntmps153
  go_wp2_with fail
  go_ret
  exact ⟨rfl, rfl⟩
theorem unmin_any (w : World) : Calls Tryz.prog 157 #[.int .u64 9007199254740992] w (fun e w' => e = .returned (.int .u64 36028797018963966) ∧ w = w') := by
  go_enter Tryz.func157, Tryz.ntmps157
  go_wp2_with fail
  go_ret
  exact ⟨rfl, rfl⟩
def rnd (u : Int) : Int := (u + 1 + bits BinOp.and IntKind.u64 (u / 4) 1) / 4
theorem and1 (u : Int) (h0 : 0 ≤ u) (h1 : u ≤ 18446744073709551615) : bits BinOp.and IntKind.u64 u 1 = u % 2 := and_one_u64 u h0 h1
theorem round_any (u : Int) (w : World) (h : 0 ≤ u) (h2 : u < 72057594037927936) : Calls Tryz.prog 159 #[.int .u64 u] w (fun e w' => e = .returned (.int .u64 ((u + 1 + u / 4 % 2) / 4)) ∧ w = w') := by
  have ha := and1 (u / 4) (by omega) (by omega)
  go_enter Tryz.func159, Tryz.ntmps159
  go_wp2_with fail
  go_ret
  exact ⟨rfl, rfl⟩
end Go.Proofs.YtblpcpkkjbkakaaGreatDoor
/- The fast reading of floats. -/
namespace Go.Proofs.YtblpcpkkjbkakaaGreatDoor
open Go Go.RowKit
set_option linter.unusedVariables false
set_option linter.unusedSimpArgs false
theorem bitLenAux_le : ∀ f x : Nat, Lib.bitLenAux f x ≤ f
  | 0, x => Nat.le_refl _
  | f + 1, x => by
    have := bitLenAux_le f (x / 2)
    unfold Lib.bitLenAux
    split <;> omega
theorem bitLen_pos (x : Nat) (h : 0 < x) : 1 ≤ Lib.bitLen x := by
  unfold Lib.bitLen Lib.bitLenAux
  rw [if_neg (by omega)]; omega

/-- Behind the scaling: the number u, rounded and packed. -/
def pfU (u EI : Int) : Nat × Nat :=
  if 36028797018963966 ≤ u then packR ((bits BinOp.or IntKind.u64 (u / 2) (u % 2) + 1 + bits BinOp.or IntKind.u64 (u / 2) (u % 2) / 4 % 2) / 4).toNat (-(EI - 1))
  else packR ((bits BinOp.or IntKind.u64 u (u % 2) + 1 + bits BinOp.or IntKind.u64 u (u % 2) / 4 % 2) / 4).toNat (-EI)
def pfX (d q hi lo : Nat) : Nat × Nat :=
  let bl : Int := Lib.bitLen d
  let LP : Int := ((q : Int) - 348) * 108853 / 32768
  let EI : Int := min 1074 (53 - bl - LP)
  let S : Int := -(EI - (64 - bl) + LP + 3)
  if 64 ≤ S then (0, 0) else pfU (uscF (d * 2 ^ (64 - Lib.bitLen d) % 18446744073709551616) hi lo S) EI

def PfPost (neg : Bool) (r : Nat × Nat) (w : World) (e : Ending) (w' : World) : Prop :=
  e = .returned (.tuple #[.float .f64 (sg neg r.1), ev r.2]) ∧ Below w.heap.size w w'

set_option maxRecDepth 100000 in
set_option maxHeartbeats 1000000 in
theorem pf64_any (neg : Bool) (d q hi lo : Nat) (w : World) (hd0 : 0 < d) (hd : d < 18446744073709551616) (hq : 3 ≤ q) (hq2 : q ≤ 658) (hh : hi < 18446744073709551616) (hl : lo < 18446744073709551616)
    (hhi : w.cell? ⟨14, q * 2, none⟩ = some (.int .u64 hi)) (hlo : w.cell? ⟨14, q * 2 + 1, none⟩ = some (.int .u64 lo)) (hB : 15 ≤ w.heap.size) :
    Calls Tryz.prog 136 #[.int .u64 d, .int .i64 ((q : Int) - 348), .int .u64 (sgn neg)] w (PfPost neg (pfX d q hi lo) w) := by
  obtain ⟨p, hp⟩ : ∃ p : Int, p = (q : Int) - 348 := ⟨_, rfl⟩
  rw [← hp]
  obtain ⟨bl, hbl⟩ : ∃ bl, bl = Lib.bitLen d := ⟨_, rfl⟩
  have hb1 : 1 ≤ bl ∧ bl ≤ 64 := by rw [hbl]; exact ⟨bitLen_pos d hd0, bitLenAux_le 64 d⟩
  obtain ⟨LP, hLP⟩ : ∃ L, L = p * 108853 / 32768 := ⟨_, rfl⟩
  have hLP2 : -1200 ≤ LP ∧ LP ≤ 1200 := by omega
  have h1 := fun W => (Tryz.bits_Len64 (d : Int) W (by omega) (by omega)).mono (R' := fun e w' => e = .returned (.int .i64 (Lib.bitLen (d : Int).toNat)) ∧ W = w') (fun e w' (h : _ ∧ _) => ⟨h.1, h.2.symm⟩)
  rw [Int.toNat_natCast, ← hbl] at h1
  have h2 := fun W => log2Pow10_any p W (by omega) (by omega)
  rw [← hLP] at h2
  have H1 := Lib.hid h1; clear h1
  have H2 := Lib.hid h2; clear h2
  obtain ⟨EI, hE⟩ : ∃ E : Int, min 1074 (53 - (bl : Int) - LP) = E := ⟨_, rfl⟩
  obtain ⟨b1, b2⟩ := hb1
  obtain ⟨l1, l2⟩ := hLP2
  have he1 : EI ≤ 1074 := by omega
  have he2 : EI ≤ 53 - bl - LP := by omega
  have he3 : -1300 ≤ EI := by omega
  obtain ⟨S, hS⟩ : ∃ S : Int, S = -(EI - (64 - (bl : Int)) + LP + 3) := ⟨_, rfl⟩
  have hS8 : 8 ≤ S := by omega
  have hS9 : S ≤ 5000 := by omega
  have h3 := fun (pb : Nat) (W : World) => prescale_any pb q (EI - (64 - (bl : Int))) LP hi lo 0 0 0 W (by omega) (by omega) (by omega) (by omega) (by omega)
  rw [← hp, ← hS] at h3
  have H3 := Lib.hid h3; clear h3
  have HX := Lib.hid (And.intro hbl (And.intro hLP (And.intro hp hS))); clear hbl hLP hp hS
  obtain ⟨pb, hpb⟩ : ∃ pb, pb = w.heap.size := ⟨_, rfl⟩
  have HPB := Lib.hid hpb
  have hpf : pfX d q hi lo = if 64 ≤ S then (0, 0) else pfU (uscF (d * 2 ^ (64 - bl) % 18446744073709551616) hi lo S) EI := by
    unfold pfX
    simp only [← HX.out.1, ← HX.out.2.2.1, ← HX.out.2.1, hE, ← HX.out.2.2.2]
  have HPF := Lib.hid hpf; clear hpf
  go_enter Tryz.func136, Tryz.ntmps136
  go_upto_region 2 with (go_at_call 152; refine (H1.out _).mono ?_; rintro e w' ⟨rfl, rfl⟩)
  go_upto_region 3 with (go_at_call 153; refine (H2.out _).mono ?_; rintro e w' ⟨rfl, rfl⟩)
  go_upto_region 5 with fail
  rw [← hpb]
  obtain ⟨W1, hW1⟩ : ∃ W1, W1 = w.alloc (Obj.cells #[Value.int IntKind.u64 0, Value.int IntKind.u64 0, Value.int IntKind.i64 0] 236) := ⟨_, rfl⟩
  rw [← hW1]
  have hne : pb ≠ 14 := by omega
  have hw1 : W1.heap[pb]? = some (.cells #[.int .u64 0, .int .u64 0, .int .i64 0] 236 (0, 0)) := by rw [hW1, hpb]; exact Go.heap_alloc_new _ _
  have hb1 : Below w.heap.size w W1 := by rw [hW1]; exact (Below.refl _ w).alloc (Nat.le_refl _) _
  have hhi1 := (hb1.cell (p := ⟨14, q * 2, none⟩) (by show 14 < w.heap.size; omega)).trans hhi
  have hlo1 := (hb1.cell (p := ⟨14, q * 2 + 1, none⟩) (by show 14 < w.heap.size; omega)).trans hlo
  clear hW1 hhi hlo
  have B1 := Lib.hid hb1; clear hb1
  have C3 := Lib.hid (H3.out pb W1 hw1 hhi1 hlo1 hne)
  clear hhi1 hlo1 H3 hpb
  go_upto_region 6 with (go_at_call 154; refine C3.out.mono ?_; rintro e w' ⟨rfl, rfl⟩)
  obtain ⟨W2, hW2⟩ : ∃ W2, W2 = ((W1.setCell ⟨pb, 0, none⟩ (.int .u64 hi)).setCell ⟨pb, 1, none⟩ (.int .u64 lo)).setCell ⟨pb, 2, none⟩ (.int .i64 S) := ⟨_, rfl⟩
  rw [← hW2]
  have hw2 : W2.heap[pb]? = some (.cells #[.int .u64 hi, .int .u64 lo, .int .i64 S] 236 (0, 0)) := by
    rw [hW2]
    exact Go.heap_setCell_same _ _ 2 _ _ _ (Go.heap_setCell_same _ _ 1 _ _ _ (Go.heap_setCell_same _ _ 0 _ _ _ hw1))
  have hle : w.heap.size ≤ pb := by have := HPB.out; omega
  have B2 := Lib.hid (show Below w.heap.size w W2 by rw [hW2]; exact ((B1.out.setCell (p := ⟨pb, 0, none⟩) hle _).setCell (p := ⟨pb, 1, none⟩) hle _).setCell (p := ⟨pb, 2, none⟩) hle _)
  clear hW2 hw1 C3 B1
  have c0 : W2.cell? ⟨pb, 0, none⟩ = some (.int .u64 hi) := by rw [Lib.cell_of_heap hw2]; rfl
  have c1 : W2.cell? ⟨pb, 1, none⟩ = some (.int .u64 lo) := by rw [Lib.cell_of_heap hw2]; rfl
  have c2 : W2.cell? ⟨pb, 2, none⟩ = some (.int .i64 S) := by rw [Lib.cell_of_heap hw2]; rfl
  clear hw2 HPB
  have h134 := call134
  by_cases h64 : 64 ≤ S
  · have ho : bits BinOp.or IntKind.u64 ((sgn neg : Nat) : Int) 0 = ((sg neg 0 : Nat) : Int) := by
      rw [← sg_or neg 0 (by decide)]; exact bits_or_u64_nat _ 0 (by unfold sgn SW; split <;> omega) (by decide)
    have hpf := HPF.out
    rw [if_pos h64] at hpf
    have HPF := Lib.hid hpf; clear hpf
    obtain ⟨Z, hZ⟩ : ∃ Z : Int, Z = ((sg neg 0 : Nat) : Int) := ⟨_, rfl⟩
    rw [← hZ] at ho
    have HZ := Lib.hid hZ; clear hZ
    go_wp2_with fail
    go_ret2
    refine ⟨?_, B2.out⟩
    rw [HPF.out]
    show Ending.returned (.tuple #[.float .f64 Z.toNat, .nilIface]) = _
    rw [HZ.out]; rfl
  · have hpf := HPF.out
    rw [if_neg h64] at hpf
    obtain ⟨xn, hxn⟩ : ∃ n, n = d * 2 ^ (64 - bl) % 18446744073709551616 := ⟨_, rfl⟩
    rw [← hxn] at hpf
    have hxl : xn < 18446744073709551616 := by rw [hxn]; exact Nat.mod_lt _ (by decide)
    have hsh : IntKind.u64.wrap ((d : Int) * 2 ^ (64 - bl)) = (xn : Int) := by
      rw [IntKind.wrap_u64, hxn, Int.natCast_emod, Int.natCast_mul, Int.natCast_pow]; rfl
    obtain ⟨u, hu, hul⟩ := uscF_lt xn hi lo S hxl hh hS8
    rw [hu] at hpf
    have hus := fun W a b c => uscale_any pb xn hi lo S W hxl hh hl (by omega) (by omega) a b c
    rw [hu] at hus
    have HUS := Lib.hid hus; clear hus
    have HPF := Lib.hid hpf; clear hpf
    clear hxn hu
    have ha1 := and1 (u : Int) (by omega) (by omega)
    go_upto_region 9 with (go_at_call 155; refine (HUS.out _ c0 c1 c2).mono ?_; rintro e w' ⟨rfl, n, rfl⟩)
    obtain ⟨W3, hW3⟩ : ∃ W3, W3 = W2.drewN n := ⟨_, rfl⟩
    rw [← hW3]
    have B3 := Lib.hid (show Below w.heap.size w W3 by rw [hW3]; exact below_drewN B2.out n)
    clear hW3 B2 c0 c1 c2 HUS hsh
    have hrn : ∀ (W : World) (U2 : Nat), U2 < 36028797018963968 → Calls Tryz.prog 159 #[.int .u64 U2] W (fun e w' => e = .returned (.int .u64 (((U2 + 1 + U2 / 4 % 2) / 4 : Nat) : Int)) ∧ W = w') := fun W U2 h => by
      have := round_any (U2 : Int) W (by omega) (by omega)
      have e : ((U2 : Int) + 1 + U2 / 4 % 2) / 4 = (((U2 + 1 + U2 / 4 % 2) / 4 : Nat) : Int) := by omega
      rw [e] at this
      exact this
    have HR := Lib.hid hrn; clear hrn
    by_cases hbig : (36028797018963966 : Int) ≤ (u : Int)
    · have hb : b2i (decide ((36028797018963966 : Int) ≤ (u : Int))) = 1 := by unfold b2i; rw [if_pos (by simpa using hbig)]
      have hpf := HPF.out
      unfold pfU at hpf
      rw [if_pos hbig] at hpf
      obtain ⟨U2, hU2⟩ : ∃ U2 : Nat, U2 = u / 2 ||| u % 2 := ⟨_, rfl⟩
      have ho : bits BinOp.or IntKind.u64 ((u : Int) / 2) ((u : Int) % 2) = (U2 : Int) := by
        rw [hU2, ← bits_or_u64_nat (u / 2) (u % 2) (by omega) (by omega)]; rfl
      have hU2l : U2 < 36028797018963968 := by rw [hU2]; exact Nat.or_lt_two_pow (n := 55) (by omega) (by omega)
      rw [ho] at hpf
      obtain ⟨r, hr⟩ : ∃ r, r = (U2 + 1 + U2 / 4 % 2) / 4 := ⟨_, rfl⟩
      have hrl : r ≤ 9007199254740992 := by omega
      have hrr : (((U2 : Int) + 1 + U2 / 4 % 2) / 4).toNat = r := by omega
      rw [hrr] at hpf
      have HP2 := Lib.hid hpf; clear hpf
      have hr2 := fun W => HR.out W U2 hU2l
      rw [← hr] at hr2
      have HR2 := Lib.hid hr2; clear hr2 hr hrr hU2
      have hor : bits BinOp.or IntKind.u64 ((sgn neg : Nat) : Int) (r : Int) = ((sg neg r : Nat) : Int) := by
        rw [← sg_or neg r (by unfold SW; omega)]; exact bits_or_u64_nat _ r (by unfold sgn SW; split <;> omega) (by omega)
      have hpk := fun W => pack_any neg r (-(EI - 1)) (by unfold SW; omega) (by omega) (by omega) W
      have HPK := Lib.hid hpk; clear hpk
      have hbt : b2i true = 1 := rfl
      go_upto_region 12 with (first | (go_at_call 157; refine (unmin_any _).mono ?_; rintro e w' ⟨rfl, rfl⟩) | (go_at_call 156; refine (bool2_int _ _).mono ?_; rintro e w' ⟨rfl, rfl⟩))
      go_wp2_with (go_at_call 159; refine (HR2.out _).mono ?_; rintro e w' ⟨rfl, rfl⟩)
      refine (HPK.out _).mono ?_
      rintro e w' ⟨rfl, rfl⟩
      go_wp2_with fail
      go_ret2
      refine ⟨?_, B3.out⟩
      rw [HP2.out]
      rfl
    · have hb : b2i (decide ((36028797018963966 : Int) ≤ (u : Int))) = 0 := by unfold b2i; rw [if_neg (by simpa using hbig)]
      have hpf := HPF.out
      unfold pfU at hpf
      rw [if_neg hbig] at hpf
      obtain ⟨U2, hU2⟩ : ∃ U2 : Nat, U2 = u ||| u % 2 := ⟨_, rfl⟩
      have ho : bits BinOp.or IntKind.u64 (u : Int) ((u : Int) % 2) = (U2 : Int) := by
        rw [hU2, ← bits_or_u64_nat u (u % 2) (by omega) (by omega)]; rfl
      have hU2l : U2 < 36028797018963968 := by rw [hU2]; exact Nat.or_lt_two_pow (n := 55) (by omega) (by omega)
      rw [ho] at hpf
      obtain ⟨r, hr⟩ : ∃ r, r = (U2 + 1 + U2 / 4 % 2) / 4 := ⟨_, rfl⟩
      have hrl : r ≤ 9007199254740992 := by omega
      have hrr : (((U2 : Int) + 1 + U2 / 4 % 2) / 4).toNat = r := by omega
      rw [hrr] at hpf
      have HP2 := Lib.hid hpf; clear hpf
      have hr2 := fun W => HR.out W U2 hU2l
      rw [← hr] at hr2
      have HR2 := Lib.hid hr2; clear hr2 hr hrr hU2
      have hor : bits BinOp.or IntKind.u64 ((sgn neg : Nat) : Int) (r : Int) = ((sg neg r : Nat) : Int) := by
        rw [← sg_or neg r (by unfold SW; omega)]; exact bits_or_u64_nat _ r (by unfold sgn SW; split <;> omega) (by omega)
      have hpk := fun W => pack_any neg r (-EI) (by unfold SW; omega) (by omega) (by omega) W
      have HPK := Lib.hid hpk; clear hpk
      have hbt : b2i false = 0 := rfl
      go_upto_region 12 with (first | (go_at_call 157; refine (unmin_any _).mono ?_; rintro e w' ⟨rfl, rfl⟩) | (go_at_call 156; refine (bool2_int _ _).mono ?_; rintro e w' ⟨rfl, rfl⟩))
      go_wp2_with (go_at_call 159; refine (HR2.out _).mono ?_; rintro e w' ⟨rfl, rfl⟩)
      refine (HPK.out _).mono ?_
      rintro e w' ⟨rfl, rfl⟩
      go_wp2_with fail
      go_ret2
      refine ⟨?_, B3.out⟩
      rw [HP2.out]
      rfl

end Go.Proofs.YtblpcpkkjbkakaaGreatDoor
