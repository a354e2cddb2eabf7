/- Lemmas towards the seat's laws: 1 texts joined. -/
import Derived.Test.YtblpcpkkjbkakaaGreatDoorY01
/- Bounds of the floats' products and quotients. -/
namespace Go.Proofs.YtblpcpkkjbkakaaGreatDoor
open Go Ieee
set_option linter.unusedVariables false
set_option linter.unusedSimpArgs false

theorem cut_le (n drop b : Nat) (h : n < 2 ^ b) : Toward.even.cut false n drop ≤ 2 ^ (b - drop) := by
  have key : ∀ g, 1 <<< g = 2 ^ g := fun g => by rw [Nat.shiftLeft_eq, Nat.one_mul]
  have hmore : ∀ x : Bool, x.toNat ≤ 1 := fun x => by cases x <;> decide
  unfold Toward.cut
  dsimp only
  rw [key]
  have hlow : n / 2 ^ (min drop (n.log2 + 2)) + 1 ≤ 2 ^ (b - drop) := by
    by_cases hg : drop ≤ n.log2 + 2
    · rw [Nat.min_eq_left hg]
      by_cases hb : drop ≤ b
      · have : n / 2 ^ drop < 2 ^ (b - drop) := by
          apply Nat.div_lt_of_lt_mul
          rw [← Nat.pow_add, show drop + (b - drop) = b by omega]; exact h
        omega
      · have h1 : n / 2 ^ drop = 0 := Nat.div_eq_of_lt (Nat.lt_trans h (Nat.pow_lt_pow_right (by decide) (by omega)))
        rw [h1]
        exact Nat.one_le_two_pow
    · rw [Nat.min_eq_right (by omega)]
      have h0 : n < 2 ^ (n.log2 + 2) := Nat.lt_trans (Nat.lt_log2_self) (Nat.pow_lt_pow_right (by decide) (by omega))
      rw [Nat.div_eq_of_lt h0]
      exact Nat.one_le_two_pow
  have := hmore (match Toward.even with
      | Toward.even => decide (2 ^ min drop (n.log2 + 2) < 2 * (n % 2 ^ min drop (n.log2 + 2))) || 2 ^ min drop (n.log2 + 2) == 2 * (n % 2 ^ min drop (n.log2 + 2)) && n / 2 ^ min drop (n.log2 + 2) % 2 == 1
      | Toward.down => false && n % 2 ^ min drop (n.log2 + 2) != 0
      | Toward.up => !false && n % 2 ^ min drop (n.log2 + 2) != 0
      | Toward.zero => false)
  exact Nat.le_trans (Nat.add_le_add_left this _) hlow

theorem nearest_le (m a : Nat) (p : Int) (k : Nat) (h : m < 2 ^ a) (hp : p + a ≤ k) : double.nearest false m p ≤ (1023 + k) * 2 ^ 52 := by
  unfold Format.nearest
  by_cases h0 : m = 0
  · rw [if_pos h0]
    show 0 ≤ _
    exact Nat.zero_le _
  · rw [if_neg h0]
    dsimp only
    rw [word_sg, sg_false]
    have hf : (double.fractionBits : Int) = 52 := rfl
    have hl : double.leastPlace = -1074 := by decide +kernel
    have hb : double.binade = 2 ^ 52 := rfl
    rw [hf, hl, hb]
    have hL : m.log2 + 1 ≤ a := by
      have := (Nat.log2_lt h0).2 h
      omega
    obtain ⟨last, hlast⟩ : ∃ L, L = max (p + (m.log2 : Int) - 52) (-1074) := ⟨_, rfl⟩
    rw [← hlast]
    have hk : Toward.even.cut false (m <<< (p - last).toNat) (last - p).toNat ≤ 2 ^ 53 := by
      have h1 : m <<< (p - last).toNat < 2 ^ (m.log2 + 1 + (p - last).toNat) := by
        rw [Nat.shiftLeft_eq, Nat.pow_add]
        exact Nat.mul_lt_mul_of_pos_right Nat.lt_log2_self (Nat.two_pow_pos _)
      refine Nat.le_trans (cut_le _ _ _ h1) (Nat.pow_le_pow_right (by decide) ?_)
      omega
    refine Nat.le_trans (Nat.min_le_left _ _) ?_
    have h2 : (last - -1074).toNat + 2 ≤ 1023 + k := by omega
    have h3 : ((last - -1074).toNat + 2) * 2 ^ 52 ≤ (1023 + k) * 2 ^ 52 := Nat.mul_le_mul_right _ h2
    omega

/-- A finite word's number. -/
theorem mk_fin (x k : Nat) (h : x ≤ (1023 + k) * 2 ^ 52) (hk : k ≤ 1000) : ∃ m : Nat, ∃ p : Int, mk false x = .number false m p ∧ m < 2 ^ 53 ∧ p + 53 ≤ k + 1 := by
  have hl : double.leastPlace = -1074 := by decide +kernel
  have hb : double.binade = 2 ^ 52 := rfl
  have hi : double.infRung = 2047 * 2 ^ 52 := by decide +kernel
  have h1 : x / 2 ^ 52 ≤ 1023 + k := Nat.div_le_of_le_mul (by rw [Nat.mul_comm]; exact h)
  unfold mk
  rw [hl, hb, hi]
  by_cases ha : x < 2 ^ 52
  · rw [if_pos ha]; exact ⟨x, _, rfl, by omega, by omega⟩
  · rw [if_neg ha, if_pos (by omega)]
    exact ⟨_, _, rfl, by have := Nat.mod_lt x (Nat.two_pow_pos 52); omega, by omega⟩

theorem mul_le (x y k1 k2 : Nat) (hx : x ≤ (1023 + k1) * 2 ^ 52) (hy : y ≤ (1023 + k2) * 2 ^ 52) (h1 : k1 ≤ 500) (h2 : k2 ≤ 400) : ∃ r, double.mul x y = some r ∧ r ≤ (1023 + (k1 + k2 + 2)) * 2 ^ 52 := by
  obtain ⟨m1, p1, e1, l1, b1⟩ := mk_fin x k1 hx (by omega)
  obtain ⟨m2, p2, e2, l2, b2⟩ := mk_fin y k2 hy (by omega)
  unfold Format.mul
  rw [read_plain x (by unfold SW; omega), read_plain y (by unfold SW; omega), e1, e2]
  refine ⟨double.nearest false (m1 * m2) (p1 + p2), rfl, ?_⟩
  refine nearest_le _ 106 _ _ ?_ (by omega)
  have : m1 * m2 < 2 ^ 53 * 2 ^ 53 := Nat.mul_lt_mul'' l1 l2
  rw [← Nat.pow_add] at this; exact this

theorem log2_le (m a : Nat) (h : m < 2 ^ (a + 1)) : m.log2 ≤ a := by
  by_cases h0 : m = 0
  · subst h0; simp
  · have := (Nat.log2_lt h0).2 h
    omega
theorem div_le (x y k1 n : Nat) (j : Int) (hx : x ≤ (1023 + k1) * 2 ^ 52) (h1 : k1 ≤ 500) (hy : double.read y = .number false n j) (hn : n ≠ 0) (hj : 0 ≤ j + n.log2) : ∃ r, double.div x y = some r ∧ r ≤ (1023 + (k1 + 1)) * 2 ^ 52 := by
  obtain ⟨m, i, e1, l1, b1⟩ := mk_fin x k1 hx (by omega)
  unfold Format.div
  rw [read_plain x (by unfold SW; omega), e1, hy]
  have hd : double.fractionBits + 2 = 54 := rfl
  rw [hd]
  obtain ⟨more, hmore⟩ : ∃ more, more = 54 + n.log2 - m.log2 := ⟨_, rfl⟩
  have hml := log2_le m 52 l1
  refine ⟨double.nearest false (2 * (m <<< more / n) + (m <<< more % n != 0).toNat) (i - j - more - 1), ?_, ?_⟩
  · show ((if n = 0 then _ else _ : Option Datum)).map double.write = _
    rw [if_neg hn, hmore]
    rfl
  · refine nearest_le _ 56 _ _ ?_ (by omega)
    have h2 : m <<< more < n * 2 ^ 55 := by
      rw [Nat.shiftLeft_eq]
      have h3 : m < 2 ^ (m.log2 + 1) := Nat.lt_log2_self
      have h4 : 2 ^ n.log2 ≤ n := Nat.log2_self_le hn
      have h5 : m * 2 ^ more < 2 ^ (m.log2 + 1) * 2 ^ more := Nat.mul_lt_mul_of_pos_right h3 (Nat.two_pow_pos _)
      have h6 : 2 ^ (m.log2 + 1) * 2 ^ more = 2 ^ n.log2 * 2 ^ 55 := by
        rw [← Nat.pow_add, ← Nat.pow_add, show m.log2 + 1 + more = n.log2 + 55 by omega]
      have h7 : 2 ^ n.log2 * 2 ^ 55 ≤ n * 2 ^ 55 := Nat.mul_le_mul_right _ h4
      omega
    have h8 : m <<< more / n < 2 ^ 55 := Nat.div_lt_of_lt_mul h2
    have h9 : (m <<< more % n != 0).toNat ≤ 1 := by cases (m <<< more % n != 0) <;> decide
    omega

/-- The words of 10^0 to 10^22. -/
def pw10 (i : Nat) : Nat := double.nearest false (10 ^ i) 0
theorem pw10_le (i : Nat) (h : i < 23) : pw10 i ≤ (1023 + 74) * 2 ^ 52 := by
  have ht : ∀ i : Fin 23, pw10 i.val ≤ (1023 + 74) * 2 ^ 52 := by decide +kernel
  exact ht ⟨i, h⟩
theorem pw10_read (i : Nat) (h : i < 23) : ∃ n j, double.read (pw10 i) = .number false n j ∧ n ≠ 0 ∧ 0 ≤ j + (n.log2 : Int) := by
  have ht : ∀ i : Fin 23, (match double.read (pw10 i.val) with | .number s n j => !s && n != 0 && decide (0 ≤ j + (n.log2 : Int)) | _ => false) = true := by decide +kernel
  have := ht ⟨i, h⟩
  revert this
  show (match double.read (pw10 i) with | .number s n j => !s && n != 0 && decide (0 ≤ j + (n.log2 : Int)) | _ => false) = true → _
  cases double.read (pw10 i) with
  | number s n j =>
    intro h
    simp only [Bool.and_eq_true, Bool.not_eq_true', bne_iff_ne, decide_eq_true_eq] at h
    obtain ⟨⟨h1, h2⟩, h3⟩ := h
    subst h1
    exact ⟨n, j, rfl, h2, h3⟩
  | infinity s => intro h; cases h
  | nan s t => intro h; cases h

/-- Where the float is above 10^15 in size. -/
theorem big_sg (neg : Bool) (x : Nat) (hx : x ≤ (1023 + 500) * 2 ^ 52) :
    (double.order (sg neg x) 4831355200913801216 == some Ordering.gt || double.order (sg neg x) 14054727237768577024 == some Ordering.lt) = (double.order x 4831355200913801216 == some Ordering.gt) := by
  have hxl : x < SW := by unfold SW; omega
  obtain ⟨m, p, e1, l1, b1⟩ := mk_fin x 500 hx (by omega)
  have hc1 : double.read 4831355200913801216 = .number false 8000000000000000 (-3) := by decide +kernel
  have hc2 : double.read 14054727237768577024 = .number true 8000000000000000 (-3) := by decide +kernel
  unfold Format.order
  rw [read_sg neg x hxl, read_plain x hxl, hc1, hc2]
  have e2 : mk neg x = .number neg m p := by
    unfold mk at e1 ⊢
    split at e1
    · rename_i h; rw [if_pos h]; injection e1 with a b c; subst b; subst c; rfl
    · rename_i h
      rw [if_neg h]
      split at e1
      · rename_i h2; rw [if_pos h2]; injection e1 with a b c; subst b; subst c; rfl
      · split at e1 <;> cases e1
  rw [e1, e2]
  show ((some (compare (signed neg m _) (signed false _ _)) == some Ordering.gt) || (some (compare (signed neg m _) (signed true _ _)) == some Ordering.lt)) = (some (compare (signed false m _) (signed false _ _)) == some Ordering.gt)
  obtain ⟨A, hA⟩ : ∃ A : Nat, A = m <<< (p - min p (-3)).toNat := ⟨_, rfl⟩
  obtain ⟨C, hC⟩ : ∃ C : Nat, C = 8000000000000000 <<< (-3 - min p (-3)).toNat := ⟨_, rfl⟩
  have hC0 : 0 < C := by rw [hC, Nat.shiftLeft_eq]; exact Nat.mul_pos (by decide) (Nat.two_pow_pos _)
  cases neg
  · show ((some (compare ((m <<< (p - min p (-3)).toNat : Nat) : Int) ((8000000000000000 <<< (-3 - min p (-3)).toNat : Nat) : Int)) == some Ordering.gt) || (some (compare ((m <<< (p - min p (-3)).toNat : Nat) : Int) (-((8000000000000000 <<< (-3 - min p (-3)).toNat : Nat) : Int))) == some Ordering.lt)) = (some (compare ((m <<< (p - min p (-3)).toNat : Nat) : Int) ((8000000000000000 <<< (-3 - min p (-3)).toNat : Nat) : Int)) == some Ordering.gt)
    rw [← hA, ← hC]
    have h2 : (compare (A : Int) (-(C : Int))) ≠ Ordering.lt := by
      intro h
      rw [Int.compare_eq_lt] at h
      omega
    have h3 : (some (compare (A : Int) (-(C : Int))) == some Ordering.lt) = false := by
      apply beq_false_of_ne; intro h; exact h2 (Option.some.inj h)
    rw [h3, Bool.or_false]
  · show ((some (compare (-((m <<< (p - min p (-3)).toNat : Nat) : Int)) ((8000000000000000 <<< (-3 - min p (-3)).toNat : Nat) : Int)) == some Ordering.gt) || (some (compare (-((m <<< (p - min p (-3)).toNat : Nat) : Int)) (-((8000000000000000 <<< (-3 - min p (-3)).toNat : Nat) : Int))) == some Ordering.lt)) = (some (compare ((m <<< (p - min p (-3)).toNat : Nat) : Int) ((8000000000000000 <<< (-3 - min p (-3)).toNat : Nat) : Int)) == some Ordering.gt)
    rw [← hA, ← hC]
    have h2 : (some (compare (-(A : Int)) (C : Int)) == some Ordering.gt) = false := by
      apply beq_false_of_ne; intro h
      have := Option.some.inj h
      rw [Int.compare_eq_gt] at this
      omega
    rw [h2, Bool.false_or, Bool.eq_iff_iff]
    simp only [beq_iff_eq, Option.some.injEq]
    rw [Int.compare_eq_lt, Int.compare_eq_gt]
    omega

end Go.Proofs.YtblpcpkkjbkakaaGreatDoor
