/- Lemmas towards the seat's laws: 1 texts joined. -/
import Derived.Test.YtblpcpkkjbkakaaGreatDoorY14
import Derived.Test.YtblpcpkkjbkakaaGreatDoorY01
import Derived.Laws.Externs
import Derived.Laws.Bits64b
import Derived.WalkSmall
/- Floats from bits: the sign's bit in masks; the last step of the fast reading. -/
namespace Go.Proofs.YtblpcpkkjbkakaaGreatDoor
open Go Go.RowKit
set_option linter.unusedVariables false
set_option linter.unusedSimpArgs false

theorem call134 (n : Int) (w : World) : (callFunc 134 #[.int .u64 n]).run Tryz.prog w = .ok (.value (.float .f64 n.toNat)) w := by
  rw [run_callFunc_extern Tryz.func134 (by kernel_rfl) (by kernel_rfl) (by kernel_rfl) (show Extern.find _ = some Extern.MathFloatBits.float64frombits by kernel_rfl)]
  rfl

def sgn (neg : Bool) : Nat := if neg then SW else 0
theorem sw_pow : SW = 2 ^ 63 := rfl
theorem sg_or (neg : Bool) (r : Nat) (h : r < SW) : sgn neg ||| r = sg neg r := by
  cases neg
  · show 0 ||| r = r
    simp
  · show SW ||| r = SW + r
    rw [sw_pow] at *
    exact (Nat.two_pow_add_eq_or_of_lt h 1 |>.symm |> fun e => by simpa using e)
theorem sg_and (neg : Bool) (r k : Nat) (h : r < SW) (hk : k < SW) : sg neg r &&& k = r &&& k := by
  rw [← sg_or neg r h, Nat.and_or_distrib_right]
  cases neg
  · show (0 &&& k) ||| _ = _
    simp
  · show (SW &&& k) ||| _ = _
    have : SW &&& k = 0 := by
      rw [sw_pow] at *
      apply Nat.eq_of_testBit_eq
      intro i
      rw [Nat.testBit_and, Nat.testBit_two_pow, Nat.zero_testBit]
      by_cases hi : 63 = i
      · subst hi
        rw [Nat.testBit_lt_two_pow hk]; simp
      · simp [hi]
    rw [this]; simp
theorem sg_mask (neg : Bool) (r : Nat) (h : r < SW) : sg neg r &&& SW = sgn neg := by
  rw [← sg_or neg r h, Nat.and_or_distrib_right]
  have h2 : r &&& SW = 0 := by
    rw [sw_pow] at *
    apply Nat.eq_of_testBit_eq
    intro i
    rw [Nat.testBit_and, Nat.testBit_two_pow, Nat.zero_testBit]
    by_cases hi : 63 = i
    · subst hi
      rw [Nat.testBit_lt_two_pow h]; simp
    · simp [hi]
  rw [h2]
  cases neg
  · show (0 &&& SW) ||| 0 = 0; simp
  · show (SW &&& SW) ||| 0 = SW; simp
theorem sg_or2 (neg : Bool) (a b : Nat) (ha : a < SW) (hb : b < SW) : sg neg a ||| b = sg neg (a ||| b) := by
  rw [← sg_or neg a ha, ← sg_or neg (a ||| b) (by rw [sw_pow] at *; exact Nat.or_lt_two_pow ha hb), Nat.or_assoc]
theorem sg_lt (neg : Bool) (r : Nat) (h : r < SW) : sg neg r < 18446744073709551616 := by
  unfold sg SW at *; split <;> omega

/-- All bits but the 53rd. -/
def M52 : Nat := 18442240474082181119
theorem sg_and_not (neg : Bool) (r : Nat) (h : r < SW) : sg neg r &&& M52 = sg neg (r &&& M52) := by
  rw [← sg_or neg r h, ← sg_or neg (r &&& M52) (Nat.lt_of_le_of_lt Nat.and_le_left h), Nat.and_or_distrib_right]
  cases neg
  · show (0 &&& M52) ||| _ = 0 ||| _; simp
  · show (SW &&& M52) ||| _ = SW ||| _
    have : SW &&& M52 = SW := by decide +kernel
    rw [this]

theorem andNot52 (a : Nat) (ha : a < 18446744073709551616) : bits BinOp.andNot IntKind.u64 (a : Int) 4503599627370496 = ((a &&& M52 : Nat) : Int) := by
  have h1 : (BitVec.ofInt 64 (a : Int)) = BitVec.ofNat 64 a := by simp
  have h2 : ~~~ (BitVec.ofInt 64 (4503599627370496 : Int)) = BitVec.ofNat 64 M52 := by decide +kernel
  unfold bits
  show IntKind.u64.wrap (((BitVec.ofInt 64 (a : Int)) &&& ~~~ (BitVec.ofInt 64 (4503599627370496 : Int))).toNat : Int) = _
  rw [h1, h2, BitVec.toNat_and, BitVec.toNat_ofNat, BitVec.toNat_ofNat, Nat.mod_eq_of_lt (by simpa using ha), Nat.mod_eq_of_lt (by decide +kernel)]
  have h3 : a &&& M52 ≤ a := Nat.and_le_left
  simp only [IntKind.wrap_u64]
  omega
theorem and_m52 (r : Nat) (h : r < 2 ^ 53) : r &&& M52 = r % 2 ^ 52 := by
  have h1 : r &&& M52 < 2 ^ 53 := Nat.lt_of_le_of_lt Nat.and_le_left h
  have h2 : (r &&& M52) % 2 ^ 53 = r &&& (2 ^ 52 - 1) := by
    rw [Nat.and_mod_two_pow, Nat.mod_eq_of_lt h]
    congr 1
  rw [Nat.mod_eq_of_lt h1, Nat.and_two_pow_sub_one_eq_mod] at h2
  exact h2

/-- The error of a number, by its sign: 0 none, 1 out of range, 2 no number. -/
def ev (c : Nat) : Value := if c = 0 then .nilIface else .iface 137 (.int .i64 c)

def packR (r : Nat) (e : Int) : Nat × Nat :=
  if r &&& 4503599627370496 = 0 then (r, 0) else if 972 ≤ e then (9218868437227405312, 1) else ((r &&& M52) ||| (1075 + e).toNat * 4503599627370496, 0)

set_option maxRecDepth 100000 in
theorem pack_any (neg : Bool) (r : Nat) (e : Int) (hr : r < SW) (he : -1075 ≤ e) (he2 : e ≤ 100000) (w : World) :
    Calls Tryz.prog 162 #[.int .u64 (sg neg r : Nat), .int .i64 e] w (fun en w' => en = .returned (.tuple #[.float .f64 (sg neg (packR r e).1), ev (packR r e).2]) ∧ w = w') := by
  have hl := sg_lt neg r hr
  have ha1 : bits BinOp.and IntKind.u64 ((sg neg r : Nat) : Int) 4503599627370496 = ((r &&& 4503599627370496 : Nat) : Int) := by
    rw [← sg_and neg r 4503599627370496 hr (by decide)]; exact bits_and_u64_nat _ _ hl (by decide)
  have h134 := call134
  obtain ⟨S, hS⟩ : ∃ S : Int, S = ((sg neg r : Nat) : Int) := ⟨_, rfl⟩
  have HS := Lib.hid hS
  by_cases h0 : r &&& 4503599627370496 = 0
  · have hp : packR r e = (r, 0) := by unfold packR; rw [if_pos h0]
    rw [hp]
    rw [h0, ← hS] at ha1
    rw [← hS]
    clear hS
    go_enter Tryz.func162, Tryz.ntmps162
    go_wp2_with fail
    go_ret2
    refine ⟨?_, rfl⟩
    rw [HS.out]
    rfl
  · have hb : ((((r &&& 4503599627370496 : Nat) : Int)) == 0) = false := beq_false_of_ne (by omega)
    rw [← hS] at ha1
    by_cases h9 : 972 ≤ e
    · have hp : packR r e = (9218868437227405312, 1) := by unfold packR; rw [if_neg h0, if_pos h9]
      have ha2 : bits BinOp.and IntKind.u64 S 9223372036854775808 = ((sgn neg : Nat) : Int) := by
        rw [hS, ← sg_mask neg r hr]; exact bits_and_u64_nat _ _ hl (by decide)
      have ha3 : bits BinOp.or IntKind.u64 ((sgn neg : Nat) : Int) 9218868437227405312 = ((sg neg 9218868437227405312 : Nat) : Int) := by
        rw [← sg_or neg 9218868437227405312 (by decide)]; exact bits_or_u64_nat _ _ (by unfold sgn SW; split <;> omega) (by decide)
      rw [hp, ← hS]
      clear hS
      obtain ⟨S2, hS2⟩ : ∃ S2 : Int, S2 = ((sg neg 9218868437227405312 : Nat) : Int) := ⟨_, rfl⟩
      rw [← hS2] at ha3
      have HS2 := Lib.hid hS2; clear hS2
      go_enter Tryz.func162, Tryz.ntmps162
      go_wp2_with fail
      go_ret2
      refine ⟨?_, rfl⟩
      rw [HS2.out]
      rfl
    · have hp : packR r e = ((r &&& M52) ||| (1075 + e).toNat * 4503599627370496, 0) := by unfold packR; rw [if_neg h0, if_neg h9]
      have ha2 : bits BinOp.andNot IntKind.u64 S 4503599627370496 = ((sg neg (r &&& M52) : Nat) : Int) := by
        rw [hS, andNot52 _ hl, sg_and_not neg r hr]
      obtain ⟨E, hEn⟩ : ∃ E : Nat, E = (1075 + e).toNat := ⟨_, rfl⟩
      rw [← hEn] at hp
      have hQ : (1075 + e) * 4503599627370496 = ((E * 4503599627370496 : Nat) : Int) := by omega
      have hlt : E * 4503599627370496 < SW := by unfold SW; omega
      have ha3 : bits BinOp.or IntKind.u64 ((sg neg (r &&& M52) : Nat) : Int) ((1075 + e) * 4503599627370496) = ((sg neg ((r &&& M52) ||| E * 4503599627370496) : Nat) : Int) := by
        have hrm : r &&& M52 < SW := Nat.lt_of_le_of_lt Nat.and_le_left hr
        rw [← sg_or2 neg _ _ hrm hlt, hQ]
        exact bits_or_u64_nat _ _ (sg_lt neg _ hrm) (by unfold SW at hlt; omega)
      clear hQ hlt hEn
      rw [hp, ← hS]
      clear hS
      obtain ⟨S2, hS2⟩ : ∃ S2 : Int, S2 = ((sg neg ((r &&& M52) ||| E * 4503599627370496) : Nat) : Int) := ⟨_, rfl⟩
      rw [← hS2] at ha3
      have HS2 := Lib.hid hS2; clear hS2
      go_enter Tryz.func162, Tryz.ntmps162
      go_wp2_with fail
      go_ret2
      refine ⟨?_, rfl⟩
      rw [HS2.out]
      rfl

end Go.Proofs.YtblpcpkkjbkakaaGreatDoor
