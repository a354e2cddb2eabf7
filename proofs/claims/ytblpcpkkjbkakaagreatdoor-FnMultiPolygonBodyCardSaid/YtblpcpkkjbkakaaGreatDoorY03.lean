/- Lemmas towards the seat's laws: 1 texts joined. -/
import Derived.Test.YtblpcpkkjbkakaaGreatDoorY02
/- A finite float times -1. -/
namespace Go.Proofs.YtblpcpkkjbkakaaGreatDoor
open Go Ieee
set_option linter.unusedVariables false
set_option linter.unusedSimpArgs false

theorem cut_exact (m : Nat) (h : 0 < m) : Toward.even.cut false (m * 2 ^ 52) 52 = m := by
  have hl : 52 ≤ (m * 2 ^ 52).log2 := by
    have h1 : ¬ (m * 2 ^ 52).log2 < 52 := by
      intro hc
      have := (Nat.log2_lt (by omega)).1 hc
      omega
    omega
  have hm : 1 <<< (min 52 ((m * 2 ^ 52).log2 + 2)) = 2 ^ 52 := by rw [Nat.min_eq_left (by omega)]; rfl
  unfold Toward.cut
  dsimp only
  rw [hm, Nat.mul_div_cancel _ (Nat.two_pow_pos 52), Nat.mul_mod_left]
  have : (decide (2 ^ 52 < 2 * 0) || 2 ^ 52 == 2 * 0 && m % 2 == 1) = false := by
    have h1 : decide (2 ^ 52 < 2 * 0) = false := by decide
    have h2 : ((2 ^ 52 : Nat) == 2 * 0) = false := by decide
    rw [h1, h2]; rfl
  rw [this]; rfl
theorem log2_mul52 (m : Nat) (h : 0 < m) : (m * 2 ^ 52).log2 = m.log2 + 52 := by
  rw [Nat.log2_eq_iff (by have := Nat.two_pow_pos 52; exact Nat.pos_iff_ne_zero.1 (Nat.mul_pos h this))]
  have h1 := Nat.log2_self_le (Nat.pos_iff_ne_zero.1 h)
  have h2 : m < 2 ^ (m.log2 + 1) := Nat.lt_log2_self
  constructor
  · rw [Nat.pow_add]; exact Nat.mul_le_mul_right _ h1
  · rw [show m.log2 + 52 + 1 = (m.log2 + 1) + 52 by omega, Nat.pow_add]
    exact Nat.mul_lt_mul_of_pos_right h2 (Nat.two_pow_pos 52)

theorem near_back (x : Nat) (hx : x < 2047 * 2 ^ 52) : ∃ m p, mk false x = .number false m p ∧ double.nearest false (m * 2 ^ 52) (p - 52) = x := by
  have hl : double.leastPlace = -1074 := by decide +kernel
  have hb : double.binade = 2 ^ 52 := rfl
  have hi : double.infRung = 2047 * 2 ^ 52 := by decide +kernel
  have hf : (double.fractionBits : Int) = 52 := rfl
  unfold mk
  rw [hl, hb, hi]
  by_cases ha : x < 2 ^ 52
  · rw [if_pos ha]
    refine ⟨x, -1074, rfl, ?_⟩
    unfold Format.nearest
    by_cases h0 : x = 0
    · subst h0; rw [if_pos (Nat.zero_mul _), word_sg, sg_false]
    · rw [if_neg (by omega)]
      dsimp only
      rw [word_sg, sg_false, hf, hl, hb, hi, log2_mul52 x (by omega)]
      have hx2 := log2_le x 51 ha
      have hlast : max ((-1074 : Int) - 52 + ((x.log2 + 52 : Nat) : Int) - 52) (-1074) = -1074 := by omega
      rw [hlast]
      have e1 : ((-1074 : Int) - 52 - -1074).toNat = 0 := rfl
      have e2 : ((-1074 : Int) - (-1074 - 52)).toNat = 52 := rfl
      have e3 : ((-1074 : Int) - -1074).toNat = 0 := rfl
      rw [e1, e2, e3, Nat.shiftLeft_zero, cut_exact x (by omega)]
      omega
  · rw [if_neg ha, if_pos hx]
    have hmod := Nat.mod_lt x (Nat.two_pow_pos 52)
    have hdiv : 1 ≤ x / 2 ^ 52 := by omega
    refine ⟨2 ^ 52 + x % 2 ^ 52, -1074 + ((x / 2 ^ 52 - 1 : Nat) : Int), rfl, ?_⟩
    obtain ⟨m, hm⟩ : ∃ m, m = 2 ^ 52 + x % 2 ^ 52 := ⟨_, rfl⟩
    obtain ⟨q, hq⟩ : ∃ q : Nat, q = x / 2 ^ 52 - 1 := ⟨_, rfl⟩
    rw [← hm, ← hq]
    have hm1 : m.log2 = 52 := by rw [Nat.log2_eq_iff (by omega)]; omega
    unfold Format.nearest
    rw [if_neg (by omega)]
    dsimp only
    rw [word_sg, sg_false, hf, hl, hb, hi, log2_mul52 m (by omega), hm1]
    have hlast : max ((-1074 : Int) + (q : Int) - 52 + ((52 + 52 : Nat) : Int) - 52) (-1074) = -1074 + q := by omega
    rw [hlast]
    have e1 : ((-1074 : Int) + (q : Int) - 52 - (-1074 + (q : Int))).toNat = 0 := by omega
    have e2 : ((-1074 : Int) + (q : Int) - (-1074 + (q : Int) - 52)).toNat = 52 := by omega
    have e3 : ((-1074 : Int) + (q : Int) - -1074).toNat = q := by omega
    have hqm : q * 2 ^ 52 + m = x := by omega
    have hm0 : 0 < m := by omega
    clear hm hq hdiv hmod hm1 hlast
    rw [e1, e2, e3, Nat.shiftLeft_zero, cut_exact m hm0, hqm]
    exact Nat.min_eq_left (Nat.le_of_lt hx)

theorem mul_minus (x : Nat) (hx : x < 2047 * 2 ^ 52) : double.mul x 13830554455654793216 = some (sg true x) := by
  obtain ⟨m, p, e1, e2⟩ := near_back x hx
  have hc : double.read 13830554455654793216 = .number true 4503599627370496 (-52) := by decide +kernel
  unfold Format.mul
  rw [read_plain x (by unfold SW; omega), e1, hc]
  show some (double.nearest (false ^^ true) (m * 4503599627370496) (p + -52)) = _
  have e3 : p + -52 = p - 52 := by omega
  rw [show (false ^^ true) = true from rfl, nearest_sg, e3]
  have e4 : (4503599627370496 : Nat) = 2 ^ 52 := by decide
  rw [e4, e2]

end Go.Proofs.YtblpcpkkjbkakaaGreatDoor
