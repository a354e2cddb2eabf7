/- Lemmas towards the seat's laws: 7 texts joined. -/
import Derived.Test.YtblpcpkkjbkakaaGreatDoorM07
import Derived.Test.YtblpcpkkjbkakaaGreatDoorM05
/- Bounds of the floats' products and quotients. -/
namespace Go.Proofs.YtblpcpkkjbkakaaGreatDoor
open Go Ieee
set_option linter.unusedVariables false
set_option linter.unusedSimpArgs false

theorem cut_le (n drop b : Nat) (h : n < 2 ^ b) : Toward.even.cut false n drop ≤ 2 ^ (b - drop) := by
  have key : ∀ g, 1 <<< g = 2 ^ g := fun g => by rw [Nat.shiftLeft_eq, Nat.one_mul]
  have hmore : ∀ x : Bool, x.toNat ≤ 1 := fun x => by cases x <;> decide
  unfold Toward.cut
  dsimp only
  rw [key]
  have hlow : n / 2 ^ (min drop (n.log2 + 2)) + 1 ≤ 2 ^ (b - drop) := by
    by_cases hg : drop ≤ n.log2 + 2
    · rw [Nat.min_eq_left hg]
      by_cases hb : drop ≤ b
      · have : n / 2 ^ drop < 2 ^ (b - drop) := by
          apply Nat.div_lt_of_lt_mul
          rw [← Nat.pow_add, show drop + (b - drop) = b by omega]; exact h
        omega
      · have h1 : n / 2 ^ drop = 0 := Nat.div_eq_of_lt (Nat.lt_trans h (Nat.pow_lt_pow_right (by decide) (by omega)))
        rw [h1]
        exact Nat.one_le_two_pow
    · rw [Nat.min_eq_right (by omega)]
      have h0 : n < 2 ^ (n.log2 + 2) := Nat.lt_trans (Nat.lt_log2_self) (Nat.pow_lt_pow_right (by decide) (by omega))
      rw [Nat.div_eq_of_lt h0]
      exact Nat.one_le_two_pow
  have := hmore (match Toward.even with
      | Toward.even => decide (2 ^ min drop (n.log2 + 2) < 2 * (n % 2 ^ min drop (n.log2 + 2))) || 2 ^ min drop (n.log2 + 2) == 2 * (n % 2 ^ min drop (n.log2 + 2)) && n / 2 ^ min drop (n.log2 + 2) % 2 == 1
      | Toward.down => false && n % 2 ^ min drop (n.log2 + 2) != 0
      | Toward.up => !false && n % 2 ^ min drop (n.log2 + 2) != 0
      | Toward.zero => false)
  exact Nat.le_trans (Nat.add_le_add_left this _) hlow

theorem nearest_le (m a : Nat) (p : Int) (k : Nat) (h : m < 2 ^ a) (hp : p + a ≤ k) : double.nearest false m p ≤ (1023 + k) * 2 ^ 52 := by
  unfold Format.nearest
  by_cases h0 : m = 0
  · rw [if_pos h0]
    show 0 ≤ _
    exact Nat.zero_le _
  · rw [if_neg h0]
    dsimp only
    rw [word_sg, sg_false]
    have hf : (double.fractionBits : Int) = 52 := rfl
    have hl : double.leastPlace = -1074 := by decide +kernel
    have hb : double.binade = 2 ^ 52 := rfl
    rw [hf, hl, hb]
    have hL : m.log2 + 1 ≤ a := by
      have := (Nat.log2_lt h0).2 h
      omega
    obtain ⟨last, hlast⟩ : ∃ L, L = max (p + (m.log2 : Int) - 52) (-1074) := ⟨_, rfl⟩
    rw [← hlast]
    have hk : Toward.even.cut false (m <<< (p - last).toNat) (last - p).toNat ≤ 2 ^ 53 := by
      have h1 : m <<< (p - last).toNat < 2 ^ (m.log2 + 1 + (p - last).toNat) := by
        rw [Nat.shiftLeft_eq, Nat.pow_add]
        exact Nat.mul_lt_mul_of_pos_right Nat.lt_log2_self (Nat.two_pow_pos _)
      refine Nat.le_trans (cut_le _ _ _ h1) (Nat.pow_le_pow_right (by decide) ?_)
      omega
    refine Nat.le_trans (Nat.min_le_left _ _) ?_
    have h2 : (last - -1074).toNat + 2 ≤ 1023 + k := by omega
    have h3 : ((last - -1074).toNat + 2) * 2 ^ 52 ≤ (1023 + k) * 2 ^ 52 := Nat.mul_le_mul_right _ h2
    omega

/-- A finite word's number. -/
theorem mk_fin (x k : Nat) (h : x ≤ (1023 + k) * 2 ^ 52) (hk : k ≤ 1000) : ∃ m : Nat, ∃ p : Int, mk false x = .number false m p ∧ m < 2 ^ 53 ∧ p + 53 ≤ k + 1 := by
  have hl : double.leastPlace = -1074 := by decide +kernel
  have hb : double.binade = 2 ^ 52 := rfl
  have hi : double.infRung = 2047 * 2 ^ 52 := by decide +kernel
  have h1 : x / 2 ^ 52 ≤ 1023 + k := Nat.div_le_of_le_mul (by rw [Nat.mul_comm]; exact h)
  unfold mk
  rw [hl, hb, hi]
  by_cases ha : x < 2 ^ 52
  · rw [if_pos ha]; exact ⟨x, _, rfl, by omega, by omega⟩
  · rw [if_neg ha, if_pos (by omega)]
    exact ⟨_, _, rfl, by have := Nat.mod_lt x (Nat.two_pow_pos 52); omega, by omega⟩

theorem mul_le (x y k1 k2 : Nat) (hx : x ≤ (1023 + k1) * 2 ^ 52) (hy : y ≤ (1023 + k2) * 2 ^ 52) (h1 : k1 ≤ 500) (h2 : k2 ≤ 400) : ∃ r, double.mul x y = some r ∧ r ≤ (1023 + (k1 + k2 + 2)) * 2 ^ 52 := by
  obtain ⟨m1, p1, e1, l1, b1⟩ := mk_fin x k1 hx (by omega)
  obtain ⟨m2, p2, e2, l2, b2⟩ := mk_fin y k2 hy (by omega)
  unfold Format.mul
  rw [read_plain x (by unfold SW; omega), read_plain y (by unfold SW; omega), e1, e2]
  refine ⟨double.nearest false (m1 * m2) (p1 + p2), rfl, ?_⟩
  refine nearest_le _ 106 _ _ ?_ (by omega)
  have : m1 * m2 < 2 ^ 53 * 2 ^ 53 := Nat.mul_lt_mul'' l1 l2
  rw [← Nat.pow_add] at this; exact this

theorem log2_le (m a : Nat) (h : m < 2 ^ (a + 1)) : m.log2 ≤ a := by
  by_cases h0 : m = 0
  · subst h0; simp
  · have := (Nat.log2_lt h0).2 h
    omega
theorem div_le (x y k1 n : Nat) (j : Int) (hx : x ≤ (1023 + k1) * 2 ^ 52) (h1 : k1 ≤ 500) (hy : double.read y = .number false n j) (hn : n ≠ 0) (hj : 0 ≤ j + n.log2) : ∃ r, double.div x y = some r ∧ r ≤ (1023 + (k1 + 1)) * 2 ^ 52 := by
  obtain ⟨m, i, e1, l1, b1⟩ := mk_fin x k1 hx (by omega)
  unfold Format.div
  rw [read_plain x (by unfold SW; omega), e1, hy]
  have hd : double.fractionBits + 2 = 54 := rfl
  rw [hd]
  obtain ⟨more, hmore⟩ : ∃ more, more = 54 + n.log2 - m.log2 := ⟨_, rfl⟩
  have hml := log2_le m 52 l1
  refine ⟨double.nearest false (2 * (m <<< more / n) + (m <<< more % n != 0).toNat) (i - j - more - 1), ?_, ?_⟩
  · show ((if n = 0 then _ else _ : Option Datum)).map double.write = _
    rw [if_neg hn, hmore]
    rfl
  · refine nearest_le _ 56 _ _ ?_ (by omega)
    have h2 : m <<< more < n * 2 ^ 55 := by
      rw [Nat.shiftLeft_eq]
      have h3 : m < 2 ^ (m.log2 + 1) := Nat.lt_log2_self
      have h4 : 2 ^ n.log2 ≤ n := Nat.log2_self_le hn
      have h5 : m * 2 ^ more < 2 ^ (m.log2 + 1) * 2 ^ more := Nat.mul_lt_mul_of_pos_right h3 (Nat.two_pow_pos _)
      have h6 : 2 ^ (m.log2 + 1) * 2 ^ more = 2 ^ n.log2 * 2 ^ 55 := by
        rw [← Nat.pow_add, ← Nat.pow_add, show m.log2 + 1 + more = n.log2 + 55 by omega]
      have h7 : 2 ^ n.log2 * 2 ^ 55 ≤ n * 2 ^ 55 := Nat.mul_le_mul_right _ h4
      omega
    have h8 : m <<< more / n < 2 ^ 55 := Nat.div_lt_of_lt_mul h2
    have h9 : (m <<< more % n != 0).toNat ≤ 1 := by cases (m <<< more % n != 0) <;> decide
    omega

/-- The words of 10^0 to 10^22. -/
def pw10 (i : Nat) : Nat := double.nearest false (10 ^ i) 0
theorem pw10_le (i : Nat) (h : i < 23) : pw10 i ≤ (1023 + 74) * 2 ^ 52 := by
  have ht : ∀ i : Fin 23, pw10 i.val ≤ (1023 + 74) * 2 ^ 52 := by decide +kernel
  exact ht ⟨i, h⟩
theorem pw10_read (i : Nat) (h : i < 23) : ∃ n j, double.read (pw10 i) = .number false n j ∧ n ≠ 0 ∧ 0 ≤ j + (n.log2 : Int) := by
  have ht : ∀ i : Fin 23, (match double.read (pw10 i.val) with | .number s n j => !s && n != 0 && decide (0 ≤ j + (n.log2 : Int)) | _ => false) = true := by decide +kernel
  have := ht ⟨i, h⟩
  revert this
  show (match double.read (pw10 i) with | .number s n j => !s && n != 0 && decide (0 ≤ j + (n.log2 : Int)) | _ => false) = true → _
  cases double.read (pw10 i) with
  | number s n j =>
    intro h
    simp only [Bool.and_eq_true, Bool.not_eq_true', bne_iff_ne, decide_eq_true_eq] at h
    obtain ⟨⟨h1, h2⟩, h3⟩ := h
    subst h1
    exact ⟨n, j, rfl, h2, h3⟩
  | infinity s => intro h; cases h
  | nan s t => intro h; cases h

/-- Where the float is above 10^15 in size. -/
theorem big_sg (neg : Bool) (x : Nat) (hx : x ≤ (1023 + 500) * 2 ^ 52) :
    (double.order (sg neg x) 4831355200913801216 == some Ordering.gt || double.order (sg neg x) 14054727237768577024 == some Ordering.lt) = (double.order x 4831355200913801216 == some Ordering.gt) := by
  have hxl : x < SW := by unfold SW; omega
  obtain ⟨m, p, e1, l1, b1⟩ := mk_fin x 500 hx (by omega)
  have hc1 : double.read 4831355200913801216 = .number false 8000000000000000 (-3) := by decide +kernel
  have hc2 : double.read 14054727237768577024 = .number true 8000000000000000 (-3) := by decide +kernel
  unfold Format.order
  rw [read_sg neg x hxl, read_plain x hxl, hc1, hc2]
  have e2 : mk neg x = .number neg m p := by
    unfold mk at e1 ⊢
    split at e1
    · rename_i h; rw [if_pos h]; injection e1 with a b c; subst b; subst c; rfl
    · rename_i h
      rw [if_neg h]
      split at e1
      · rename_i h2; rw [if_pos h2]; injection e1 with a b c; subst b; subst c; rfl
      · split at e1 <;> cases e1
  rw [e1, e2]
  show ((some (compare (signed neg m _) (signed false _ _)) == some Ordering.gt) || (some (compare (signed neg m _) (signed true _ _)) == some Ordering.lt)) = (some (compare (signed false m _) (signed false _ _)) == some Ordering.gt)
  obtain ⟨A, hA⟩ : ∃ A : Nat, A = m <<< (p - min p (-3)).toNat := ⟨_, rfl⟩
  obtain ⟨C, hC⟩ : ∃ C : Nat, C = 8000000000000000 <<< (-3 - min p (-3)).toNat := ⟨_, rfl⟩
  have hC0 : 0 < C := by rw [hC, Nat.shiftLeft_eq]; exact Nat.mul_pos (by decide) (Nat.two_pow_pos _)
  cases neg
  · show ((some (compare ((m <<< (p - min p (-3)).toNat : Nat) : Int) ((8000000000000000 <<< (-3 - min p (-3)).toNat : Nat) : Int)) == some Ordering.gt) || (some (compare ((m <<< (p - min p (-3)).toNat : Nat) : Int) (-((8000000000000000 <<< (-3 - min p (-3)).toNat : Nat) : Int))) == some Ordering.lt)) = (some (compare ((m <<< (p - min p (-3)).toNat : Nat) : Int) ((8000000000000000 <<< (-3 - min p (-3)).toNat : Nat) : Int)) == some Ordering.gt)
    rw [← hA, ← hC]
    have h2 : (compare (A : Int) (-(C : Int))) ≠ Ordering.lt := by
      intro h
      rw [Int.compare_eq_lt] at h
      omega
    have h3 : (some (compare (A : Int) (-(C : Int))) == some Ordering.lt) = false := by
      apply beq_false_of_ne; intro h; exact h2 (Option.some.inj h)
    rw [h3, Bool.or_false]
  · show ((some (compare (-((m <<< (p - min p (-3)).toNat : Nat) : Int)) ((8000000000000000 <<< (-3 - min p (-3)).toNat : Nat) : Int)) == some Ordering.gt) || (some (compare (-((m <<< (p - min p (-3)).toNat : Nat) : Int)) (-((8000000000000000 <<< (-3 - min p (-3)).toNat : Nat) : Int))) == some Ordering.lt)) = (some (compare ((m <<< (p - min p (-3)).toNat : Nat) : Int) ((8000000000000000 <<< (-3 - min p (-3)).toNat : Nat) : Int)) == some Ordering.gt)
    rw [← hA, ← hC]
    have h2 : (some (compare (-(A : Int)) (C : Int)) == some Ordering.gt) = false := by
      apply beq_false_of_ne; intro h
      have := Option.some.inj h
      rw [Int.compare_eq_gt] at this
      omega
    rw [h2, Bool.false_or, Bool.eq_iff_iff]
    simp only [beq_iff_eq, Option.some.injEq]
    rw [Int.compare_eq_lt, Int.compare_eq_gt]
    omega

end Go.Proofs.YtblpcpkkjbkakaaGreatDoor
/- The exact reading of small decimals. -/
namespace Go.Proofs.YtblpcpkkjbkakaaGreatDoor
open Go Go.RowKit
set_option linter.unusedVariables false
set_option linter.unusedSimpArgs false

theorem conv64 (n : Nat) : floatOfInt .f64 (n : Int) = Ieee.double.nearest false n 0 := by
  show FloatKind.nearest .f64 (n : Int) = _
  unfold FloatKind.nearest FloatKind.encode
  have : decide ((n : Int) < 0) = false := decide_eq_false (by omega)
  rw [this]; rfl
theorem neg64 (x : Nat) (h : x < SW) : Op.negFloat .f64 x = sg true x := by
  show x ^^^ 2 ^ 63 = SW + x
  rw [sw_pow] at *
  have h1 : 2 ^ 63 + x = 2 ^ 63 ||| x := by
    have := Nat.two_pow_add_eq_or_of_lt h 1
    simpa using this
  rw [h1]
  apply Nat.eq_of_testBit_eq
  intro i
  rw [Nat.testBit_xor, Nat.testBit_or, Nat.testBit_two_pow]
  by_cases hi : 63 = i
  · subst hi; rw [Nat.testBit_lt_two_pow h]; simp
  · simp [hi]
def mulw (x y : Nat) : Nat := (Ieee.double.mul x y).getD 0
def divw (x y : Nat) : Nat := (Ieee.double.div x y).getD 0
def bigw (x : Nat) : Bool := Ieee.double.order x 4831355200913801216 == some Ordering.gt
theorem mul_fine (x y k1 : Nat) (hx : x ≤ (1023 + k1) * 2 ^ 52) (hy : y ≤ (1023 + 74) * 2 ^ 52) (h1 : k1 ≤ 300) (neg : Bool) (W : World) :
    (binOp .mul 25 (.float .f64 (sg neg x)) (.float .f64 y)).run Tryz.prog W = .ok (.float .f64 (sg neg (mulw x y))) W ∧ mulw x y ≤ (1023 + (k1 + 76)) * 2 ^ 52 := by
  obtain ⟨r, h2, h3⟩ := mul_le x y k1 74 hx hy (by omega) (by omega)
  have e : mulw x y = r := by unfold mulw; rw [h2]; rfl
  refine ⟨run_float_arith W .mul 25 .f64 _ _ _ ?_, by rw [e]; omega⟩
  show Ieee.double.mul (sg neg x) y = _
  rw [mul_sg neg x y (by unfold SW; omega) (by unfold SW; omega), h2, e]; rfl
theorem div_fine (x i k1 : Nat) (hx : x ≤ (1023 + k1) * 2 ^ 52) (hi : i < 23) (h1 : k1 ≤ 300) (neg : Bool) (W : World) :
    (binOp .quo 25 (.float .f64 (sg neg x)) (.float .f64 (pw10 i))).run Tryz.prog W = .ok (.float .f64 (sg neg (divw x (pw10 i)))) W ∧ divw x (pw10 i) ≤ (1023 + (k1 + 1)) * 2 ^ 52 := by
  obtain ⟨n, j, hy, hn, hj⟩ := pw10_read i hi
  obtain ⟨r, h2, h3⟩ := div_le x (pw10 i) k1 n j hx (by omega) hy hn hj
  have e : divw x (pw10 i) = r := by unfold divw; rw [h2]; rfl
  have hl := pw10_le i hi
  refine ⟨run_float_arith W .quo 25 .f64 _ _ _ ?_, by rw [e]; exact h3⟩
  show Ieee.double.div (sg neg x) (pw10 i) = _
  rw [div_sg neg x _ (by unfold SW; omega) (by unfold SW; omega), h2, e]; rfl

structure GlF (g : Nat × Nat) (w : World) : Prop where
  info : w.cell? ⟨7, 0, none⟩ = some (.int .u64 52)
  tab : w.cell? ⟨13, 0, none⟩ = some (.slice (some ⟨g.1, g.2, none⟩) 23 23)
  pw : ∀ i, i < 23 → w.cell? ⟨g.1, g.2 + i, none⟩ = some (.float .f64 (pw10 i))

theorem big_two (neg : Bool) (x : Nat) (hx : x ≤ (1023 + 500) * 2 ^ 52) : ∃ b1 b2 : Bool, (FloatKind.f64.format.order (sg neg x) 4831355200913801216 == some Ordering.gt) = b1 ∧ (FloatKind.f64.format.order (sg neg x) 14054727237768577024 == some Ordering.lt) = b2 ∧ (b1 || b2) = bigw x :=
  ⟨_, _, rfl, rfl, big_sg neg x hx⟩
def exX (man : Nat) (e : Int) : Option Nat :=
  if man / 4503599627370496 ≠ 0 then none
  else if e = 0 then some (Ieee.double.nearest false man 0)
  else if 0 < e ∧ e ≤ 22 then
    if bigw (Ieee.double.nearest false man 0) then none else some (mulw (Ieee.double.nearest false man 0) (pw10 e.toNat))
  else if 22 < e ∧ e ≤ 37 then
    if bigw (mulw (Ieee.double.nearest false man 0) (pw10 (e - 22).toNat)) then none else some (mulw (mulw (Ieee.double.nearest false man 0) (pw10 (e - 22).toNat)) (pw10 22))
  else if e < 0 ∧ -22 ≤ e then some (divw (Ieee.double.nearest false man 0) (pw10 (-e).toNat))
  else none

def ExPost (neg : Bool) (r : Option Nat) (w : World) (e : Ending) (w' : World) : Prop :=
  (∃ v, e = .returned (.tuple #[.float .f64 v, .bool r.isSome]) ∧ ∀ x, r = some x → v = sg neg x) ∧ w = w'

set_option maxRecDepth 100000 in
set_option maxHeartbeats 1000000 in
theorem exact_any (neg : Bool) (man : Nat) (g : Nat × Nat) (e : Int) (w : World) (hm : man < 18446744073709551616) (he : -300000 ≤ e) (he2 : e ≤ 300000) (hG : GlF g w) :
    Calls Tryz.prog 135 #[.int .u64 man, .int .i64 e, .bool neg] w (ExPost neg (exX man e) w) := by
  have c7 := hG.info
  have c13 := hG.tab
  obtain ⟨F, hF⟩ : ∃ F, F = Ieee.double.nearest false man 0 := ⟨_, rfl⟩
  have hFl : F < SW := by rw [hF]; exact nearest_lt_sw man 0
  have hcv := conv64 man
  rw [← hF] at hcv
  have hng : ∀ W, (Op.unary .neg (.float .f64 F)).run Tryz.prog W = .ok (.float .f64 (sg true F)) W := fun W => by
    show Result.ok (Value.float .f64 (Op.negFloat .f64 F)) W = _
    rw [neg64 F hFl]
  obtain ⟨R, hR⟩ : ∃ R, R = exX man e := ⟨_, rfl⟩
  rw [← hR]
  have HRR := Lib.hid hR; clear hR
  have HG := Lib.hid hG; clear hG
  have HF := Lib.hid hF; clear hF
  by_cases hbig : man / 4503599627370496 = 0
  · have hmn : man < 4503599627370496 := by omega
    go_enter Tryz.func135, Tryz.ntmps135
    go_upto_if 15 with fail
    go_cut [6] (fun f wx => f = .float .f64 (sg neg F) ∧ wx = w)
    case first =>
     as_aux_lemma =>
      cases neg with
      | true =>
        go_wp2_with fail
        go_meet
        case rel => exact ⟨rfl, rfl⟩
      | false =>
        go_wp2_with fail
        go_meet
        case rel => exact ⟨rfl, rfl⟩
    case rest =>
      obtain ⟨rfl, rfl⟩ := hcut
      have hF52 : F ≤ (1023 + 52) * 2 ^ 52 := by rw [HF.out]; exact nearest_le man 52 0 52 (by omega) (by omega)
      have hex := HRR.out
      unfold exX at hex
      rw [if_neg (by omega), ← HF.out] at hex
      clear hcv hng hFl hmn hbig c7
      by_cases h0 : e = 0
      · rw [if_pos h0] at hex
        subst h0
        have HEX := Lib.hid hex; clear hex
        go_wp2_with fail
        go_ret2
        refine ⟨⟨_, by rw [HEX.out]; rfl, fun x hx => ?_⟩, rfl⟩
        rw [HEX.out] at hx; rw [← Option.some.inj hx]
      · rw [if_neg h0] at hex
        have e0 : (e == 0) = false := beq_false_of_ne h0
        by_cases h1 : 0 < e ∧ e ≤ 22
        · rw [if_pos h1] at hex
          obtain ⟨i, hi⟩ : ∃ i : Nat, e = i := ⟨e.toNat, by omega⟩
          subst hi
          obtain ⟨h1a, h1b⟩ := h1
          have hi23 : i < 23 := by omega
          have cp := HG.out.pw i hi23
          rw [Int.toNat_natCast] at hex
          have hmu := fun W => (mul_fine F (pw10 i) 52 hF52 (pw10_le i hi23) (by omega) neg W).1
          have hbnd := hi23
          obtain ⟨b1, b2, hb1, hb2, hb3⟩ := big_two neg (F) (by omega)
          have HEX := Lib.hid hex; clear hex
          have HB3 := Lib.hid hb3; clear hb3
          have HCL := Lib.hid hbnd; clear hbnd
          cases b1 with
          | true =>
            have hex := HEX.out
            rw [← HB3.out] at hex; simp only [Bool.true_or, Bool.or_true, if_true] at hex
            have HEX2 := Lib.hid hex; clear hex
            go_wp2_with fail
            go_ret2
            exact ⟨⟨_, by rw [HEX2.out]; rfl, fun x hx => by rw [HEX2.out] at hx; cases hx⟩, rfl⟩
          | false =>
            cases b2 with
            | true =>
              have hex := HEX.out
              rw [← HB3.out] at hex; simp only [Bool.true_or, Bool.or_true, if_true] at hex
              have HEX2 := Lib.hid hex; clear hex
              go_wp2_with fail
              go_ret2
              exact ⟨⟨_, by rw [HEX2.out]; rfl, fun x hx => by rw [HEX2.out] at hx; cases hx⟩, rfl⟩
            | false =>
              have hex := HEX.out
              rw [← HB3.out] at hex; simp only [Bool.or_false, Bool.false_eq_true, if_false] at hex
              have HEX2 := Lib.hid hex; clear hex
              go_wp2_with fail
              go_ret2
              exact ⟨⟨_, by rw [HEX2.out]; rfl, fun x hx => by rw [HEX2.out] at hx; rw [← Option.some.inj hx]⟩, rfl⟩
        · rw [if_neg h1] at hex
          by_cases h2 : 22 < e ∧ e ≤ 37
          · rw [if_pos h2] at hex
            obtain ⟨i, hi⟩ : ∃ i : Nat, e - 22 = i := ⟨(e - 22).toNat, by omega⟩
            obtain ⟨h2a, h2b⟩ := h2
            have hi23 : i < 23 := by omega
            have hi15 : i ≤ 15 := by omega
            have cp := HG.out.pw i hi23
            have cp22 := HG.out.pw 22 (by omega)
            rw [hi, Int.toNat_natCast] at hex
            have hmu := fun W => (mul_fine F (pw10 i) 52 hF52 (pw10_le i hi23) (by omega) neg W).1
            have hml := (mul_fine F (pw10 i) 52 hF52 (pw10_le i hi23) (by omega) neg wc).2
            obtain ⟨G, hG⟩ : ∃ G, G = mulw F (pw10 i) := ⟨_, rfl⟩
            rw [← hG] at hex hmu hml
            have hmu2 := fun W => (mul_fine G (pw10 22) 128 hml (pw10_le 22 (by omega)) (by omega) neg W).1
            have hbnd := hG; clear hG
            clear h1
            obtain ⟨b1, b2, hb1, hb2, hb3⟩ := big_two neg (G) (by omega)
            have HEX := Lib.hid hex; clear hex
            have HB3 := Lib.hid hb3; clear hb3
            have HCL := Lib.hid hbnd; clear hbnd
            cases b1 with
            | true =>
              have hex := HEX.out
              rw [← HB3.out] at hex; simp only [Bool.true_or, Bool.or_true, if_true] at hex
              have HEX2 := Lib.hid hex; clear hex
              go_wp2_with fail
              go_ret2
              exact ⟨⟨_, by rw [HEX2.out]; rfl, fun x hx => by rw [HEX2.out] at hx; cases hx⟩, rfl⟩
            | false =>
              cases b2 with
              | true =>
                have hex := HEX.out
                rw [← HB3.out] at hex; simp only [Bool.true_or, Bool.or_true, if_true] at hex
                have HEX2 := Lib.hid hex; clear hex
                go_wp2_with fail
                go_ret2
                exact ⟨⟨_, by rw [HEX2.out]; rfl, fun x hx => by rw [HEX2.out] at hx; cases hx⟩, rfl⟩
              | false =>
                have hex := HEX.out
                rw [← HB3.out] at hex; simp only [Bool.or_false, Bool.false_eq_true, if_false] at hex
                have HEX2 := Lib.hid hex; clear hex
                go_wp2_with fail
                go_ret2
                exact ⟨⟨_, by rw [HEX2.out]; rfl, fun x hx => by rw [HEX2.out] at hx; rw [← Option.some.inj hx]⟩, rfl⟩
          · rw [if_neg h2] at hex
            by_cases h3 : e < 0 ∧ -22 ≤ e
            · rw [if_pos h3] at hex
              obtain ⟨i, hi⟩ : ∃ i : Nat, -e = i := ⟨(-e).toNat, by omega⟩
              obtain ⟨h3a, h3b⟩ := h3
              have hi23 : i < 23 := by omega
              have cp := HG.out.pw i hi23
              rw [hi, Int.toNat_natCast] at hex
              have hdv := fun W => (div_fine F i 52 hF52 hi23 (by omega) neg W).1
              have HEX2 := Lib.hid hex; clear hex hF52
              have HE := Lib.hid (And.intro h1 h2); clear h1 h2
              go_wp2_with fail
              go_ret2
              exact ⟨⟨_, by rw [HEX2.out]; rfl, fun x hx => by rw [HEX2.out] at hx; rw [← Option.some.inj hx]⟩, rfl⟩
            · rw [if_neg h3] at hex
              have hor : e < -22 ∨ 37 < e := by omega
              have HEX2 := Lib.hid hex; clear hex hF52
              clear h1 h2 h3
              rcases hor with hor | hor
              · go_wp2_with fail
                go_ret2
                exact ⟨⟨_, by rw [HEX2.out]; rfl, fun x hx => by rw [HEX2.out] at hx; cases hx⟩, rfl⟩
              · go_wp2_with fail
                go_ret2
                exact ⟨⟨_, by rw [HEX2.out]; rfl, fun x hx => by rw [HEX2.out] at hx; cases hx⟩, rfl⟩
  · have hex := HRR.out
    unfold exX at hex
    rw [if_pos hbig] at hex
    have hb : ((man : Int) / 4503599627370496 != 0) = true := by
      have : ¬ ((man : Int) / 4503599627370496) = 0 := by omega
      simpa using this
    have HEX2 := Lib.hid hex; clear hex
    go_enter Tryz.func135, Tryz.ntmps135
    go_wp2_with fail
    go_ret2
    exact ⟨⟨_, by rw [HEX2.out]; rfl, fun x hx => by rw [HEX2.out] at hx; cases hx⟩, rfl⟩
end Go.Proofs.YtblpcpkkjbkakaaGreatDoor
/- What the fast readings give is finite. -/
namespace Go.Proofs.YtblpcpkkjbkakaaGreatDoor
open Go Go.RowKit
set_option linter.unusedVariables false
set_option linter.unusedSimpArgs false

def Fin64 (x : Nat) : Prop := x < 2047 * 2 ^ 52
def InfW : Nat := 9218868437227405312
/-- A number's outcome: in range and finite, or infinite with the sign of its range. -/
def Fine (r : Nat × Nat) : Prop := (r.2 = 0 ∧ Fin64 r.1) ∨ r = (InfW, 1)

theorem pack_fine (r : Nat) (e : Int) (hr : r ≤ 2 ^ 53) (he : -1075 ≤ e) : Fine (packR r e) := by
  unfold packR
  split
  · exact .inl ⟨rfl, by show r < _; omega⟩
  · rename_i h0
    split
    · exact .inr rfl
    · rename_i h9
      left
      refine ⟨rfl, ?_⟩
      have hne : r ≠ 2 ^ 53 := by
        intro h; apply h0; rw [h]; decide +kernel
      have hlt : r < 2 ^ 53 := by omega
      show (r &&& M52) ||| (1075 + e).toNat * 4503599627370496 < 2047 * 2 ^ 52
      rw [and_m52 r hlt]
      have hm : r % 2 ^ 52 < 2 ^ 52 := Nat.mod_lt _ (Nat.two_pow_pos 52)
      have h1 : (1075 + e).toNat * 4503599627370496 = (1075 + e).toNat <<< 52 := by rw [Nat.shiftLeft_eq]
      rw [h1, Nat.or_comm, ← Nat.shiftLeft_add_eq_or_of_lt hm, Nat.shiftLeft_eq]
      have h2 : (1075 + e).toNat ≤ 2046 := by omega
      have h3 : (1075 + e).toNat * 2 ^ 52 ≤ 2046 * 2 ^ 52 := Nat.mul_le_mul_right _ h2
      omega

theorem rnd_le (U2 : Nat) (h : U2 < 2 ^ 55) : (((U2 : Int) + 1 + U2 / 4 % 2) / 4).toNat ≤ 2 ^ 53 := by omega
theorem pfU_fine (u : Nat) (EI : Int) (hu : u < 72057594037927936) (he : EI ≤ 1074) : Fine (pfU u EI) := by
  unfold pfU
  split
  · have ho : bits BinOp.or IntKind.u64 ((u : Int) / 2) ((u : Int) % 2) = ((u / 2 ||| u % 2 : Nat) : Int) := by
      rw [← bits_or_u64_nat (u / 2) (u % 2) (by omega) (by omega)]; rfl
    rw [ho]
    exact pack_fine _ _ (rnd_le _ (Nat.or_lt_two_pow (by omega) (by omega))) (by omega)
  · rename_i hs
    have ho : bits BinOp.or IntKind.u64 (u : Int) ((u : Int) % 2) = ((u ||| u % 2 : Nat) : Int) := by
      rw [← bits_or_u64_nat u (u % 2) (by omega) (by omega)]; rfl
    rw [ho]
    exact pack_fine _ _ (rnd_le _ (Nat.or_lt_two_pow (by omega) (by omega))) (by omega)
theorem pfX_fine (d q hi lo : Nat) (hd0 : 0 < d) (hq : 3 ≤ q) (hq2 : q ≤ 658) (hh : hi < 18446744073709551616) : Fine (pfX d q hi lo) := by
  unfold pfX
  dsimp only
  split
  · exact .inl ⟨rfl, by show 0 < _; decide⟩
  · have hb1 := bitLen_pos d hd0
    have hb2 := bitLenAux_le 64 d
    obtain ⟨bl, hbl⟩ : ∃ bl : Nat, bl = Lib.bitLen d := ⟨_, rfl⟩
    have hb3 : bl ≤ 64 := by rw [hbl]; exact hb2
    rw [← hbl] at hb1 ⊢
    obtain ⟨LP, hLP⟩ : ∃ L : Int, L = ((q : Int) - 348) * 108853 / 32768 := ⟨_, rfl⟩
    rw [← hLP]
    obtain ⟨EI, hEI⟩ : ∃ E : Int, E = min 1074 (53 - (bl : Int) - LP) := ⟨_, rfl⟩
    rw [← hEI]
    obtain ⟨u, hu, hul⟩ := uscF_lt (d * 2 ^ (64 - bl) % 18446744073709551616) hi lo (-(EI - (64 - (bl : Int)) + LP + 3)) (Nat.mod_lt _ (by decide)) hh (by omega)
    rw [hu]
    exact pfU_fine u EI hul (by omega)

theorem exX_fine (man : Nat) (e : Int) (x : Nat) (h : exX man e = some x) : Fin64 x := by
  unfold exX at h
  split at h
  · cases h
  · rename_i h0
    have hm : man < 2 ^ 52 := by omega
    have hF : Ieee.double.nearest false man 0 ≤ (1023 + 52) * 2 ^ 52 := nearest_le man 52 0 52 hm (by omega)
    unfold Fin64
    split at h
    · rw [← Option.some.inj h]; omega
    · split at h
      · rename_i h1
        split at h
        · cases h
        · have := (mul_fine _ _ 52 hF (pw10_le e.toNat (by omega)) (by omega) false default).2
          rw [← Option.some.inj h]; omega
      · split at h
        · rename_i h2
          split at h
          · cases h
          · have h3 := (mul_fine _ _ 52 hF (pw10_le (e - 22).toNat (by omega)) (by omega) false default).2
            have h4 := (mul_fine _ _ 128 h3 (pw10_le 22 (by omega)) (by omega) false default).2
            rw [← Option.some.inj h]; omega
        · split at h
          · rename_i h5
            have := (div_fine _ (-e).toNat 52 hF (by omega) (by omega) false default).2
            rw [← Option.some.inj h]; omega
          · cases h

end Go.Proofs.YtblpcpkkjbkakaaGreatDoor
/- The decimals of the slow reading: their state in memory; trim. -/
namespace Go.Proofs.YtblpcpkkjbkakaaGreatDoor
open Go Go.RowKit
set_option linter.unusedVariables false
set_option linter.unusedSimpArgs false

/-- The decimal in block b, cell by cell. -/
def Raw (w : World) (b : Nat) (R : Nat → Option Value) (nd dp : Int) (ng tr : Bool) : Prop :=
  Blk w b 208 R 804 ∧ (∀ i, i < 800 → ∃ x : Nat, x < 256 ∧ R i = some (.int .u8 (x : Int))) ∧ R 800 = some (.int .i64 nd) ∧ R 801 = some (.int .i64 dp) ∧ R 802 = some (.bool ng) ∧ R 803 = some (.bool tr)
theorem Raw.byte {w : World} {b : Nat} {R : Nat → Option Value} {nd dp : Int} {ng tr : Bool} (h : Raw w b R nd dp ng tr) (i : Nat) (hi : i < 800) (x : Nat) (hx : x < 256) :
    Raw (w.setCell ⟨b, i, none⟩ (.int .u8 (x : Int))) b (upd R i (.int .u8 (x : Int))) nd dp ng tr := by
  obtain ⟨hb, h1, h2, h3, h4, h5⟩ := h
  refine ⟨hb.set i (by omega) _ rfl, fun j hj => ?_, ?_, ?_, ?_, ?_⟩
  · by_cases e : j = i
    · subst e; exact ⟨x, hx, upd_at _ _ _⟩
    · rw [upd_ne _ _ _ _ e]; exact h1 j hj
  all_goals (rw [upd_ne _ _ _ _ (by omega)]; assumption)
theorem Raw.num {w : World} {b : Nat} {R : Nat → Option Value} {nd dp : Int} {ng tr : Bool} (h : Raw w b R nd dp ng tr) (x : Int) :
    Raw (w.setCell ⟨b, 800, none⟩ (.int .i64 x)) b (upd R 800 (.int .i64 x)) x dp ng tr := by
  obtain ⟨hb, h1, h2, h3, h4, h5⟩ := h
  refine ⟨hb.set 800 (by omega) _ rfl, fun j hj => by rw [upd_ne _ _ _ _ (by omega)]; exact h1 j hj, upd_at _ _ _, ?_, ?_, ?_⟩
  all_goals (rw [upd_ne _ _ _ _ (by omega)]; assumption)
theorem Raw.point {w : World} {b : Nat} {R : Nat → Option Value} {nd dp : Int} {ng tr : Bool} (h : Raw w b R nd dp ng tr) (x : Int) :
    Raw (w.setCell ⟨b, 801, none⟩ (.int .i64 x)) b (upd R 801 (.int .i64 x)) nd x ng tr := by
  obtain ⟨hb, h1, h2, h3, h4, h5⟩ := h
  refine ⟨hb.set 801 (by omega) _ rfl, fun j hj => by rw [upd_ne _ _ _ _ (by omega)]; exact h1 j hj, ?_, upd_at _ _ _, ?_, ?_⟩
  all_goals (rw [upd_ne _ _ _ _ (by omega)]; assumption)
theorem Raw.sign {w : World} {b : Nat} {R : Nat → Option Value} {nd dp : Int} {ng tr : Bool} (h : Raw w b R nd dp ng tr) (x : Bool) :
    Raw (w.setCell ⟨b, 802, none⟩ (.bool x)) b (upd R 802 (.bool x)) nd dp x tr := by
  obtain ⟨hb, h1, h2, h3, h4, h5⟩ := h
  refine ⟨hb.set 802 (by omega) _ rfl, fun j hj => by rw [upd_ne _ _ _ _ (by omega)]; exact h1 j hj, ?_, ?_, upd_at _ _ _, ?_⟩
  all_goals (rw [upd_ne _ _ _ _ (by omega)]; assumption)
theorem Raw.rest {w : World} {b : Nat} {R : Nat → Option Value} {nd dp : Int} {ng tr : Bool} (h : Raw w b R nd dp ng tr) (x : Bool) :
    Raw (w.setCell ⟨b, 803, none⟩ (.bool x)) b (upd R 803 (.bool x)) nd dp ng x := by
  obtain ⟨hb, h1, h2, h3, h4, h5⟩ := h
  refine ⟨hb.set 803 (by omega) _ rfl, fun j hj => by rw [upd_ne _ _ _ _ (by omega)]; exact h1 j hj, ?_, ?_, ?_, upd_at _ _ _⟩
  all_goals (rw [upd_ne _ _ _ _ (by omega)]; assumption)
theorem Raw.cells {w : World} {b : Nat} {R : Nat → Option Value} {nd dp : Int} {ng tr : Bool} (h : Raw w b R nd dp ng tr) :
    w.cell? ⟨b, 800, none⟩ = some (.int .i64 nd) ∧ w.cell? ⟨b, 801, none⟩ = some (.int .i64 dp) ∧ w.cell? ⟨b, 802, none⟩ = some (.bool ng) ∧ w.cell? ⟨b, 803, none⟩ = some (.bool tr) ∧
    (∀ i, w.frozen? ⟨b, i, none⟩ = false) ∧ ∀ i, w.cell? ⟨b, i, none⟩ = R i := by
  obtain ⟨hb, h1, h2, h3, h4, h5⟩ := h
  exact ⟨(hb.cell _).trans h2, (hb.cell _).trans h3, (hb.cell _).trans h4, (hb.cell _).trans h5, hb.frozen, hb.cell⟩
theorem Raw.drew {w : World} {b : Nat} {R : Nat → Option Value} {nd dp : Int} {ng tr : Bool} (h : Raw w b R nd dp ng tr) (n : Nat) : Raw (w.drewN n) b R nd dp ng tr := h

/-- The decimal in block b: nd digits g, the point's place, its sign, whether digits were cut. -/
def Dec (w : World) (b nd : Nat) (g : Nat → Nat) (dp : Int) (ng tr : Bool) : Prop :=
  nd ≤ 800 ∧ (∀ i, i < nd → g i < 10) ∧ ∃ R, Raw w b R (nd : Int) dp ng tr ∧ ∀ i, i < nd → R i = some (.int .u8 ((48 + g i : Nat) : Int))
theorem Dec.drew {w : World} {b nd : Nat} {g : Nat → Nat} {dp : Int} {ng tr : Bool} (h : Dec w b nd g dp ng tr) (n : Nat) : Dec (w.drewN n) b nd g dp ng tr := h
/-- Only block b has turned. -/
def DFr (b : Nat) (w w' : World) : Prop := (∀ k, k ≠ b → w'.heap[k]? = w.heap[k]?) ∧ Below 0 w w' ∧ w'.heap.size = w.heap.size
theorem DFr.refl (b : Nat) (w : World) : DFr b w w := ⟨fun _ _ => rfl, Below.refl _ _, rfl⟩
theorem DFr.trans {b : Nat} {w w1 w2 : World} (h : DFr b w w1) (k : DFr b w1 w2) : DFr b w w2 := ⟨fun i hi => (k.1 i hi).trans (h.1 i hi), h.2.1.trans k.2.1, k.2.2.trans h.2.2⟩
theorem DFr.set {b : Nat} {w w1 : World} (h : DFr b w w1) (i : Nat) (v : Value) : DFr b w (w1.setCell ⟨b, i, none⟩ v) :=
  ⟨fun k hk => (Below.heap_setCell _ _ _ _ hk).trans (h.1 k hk), h.2.1.setCell (p := ⟨b, i, none⟩) (Nat.zero_le _) v, by simp only [World.setCell, Array.size_modify]; exact h.2.2⟩
theorem DFr.drewN {b : Nat} {w w1 : World} (h : DFr b w w1) (n : Nat) : DFr b w (w1.drewN n) := ⟨h.1, below_drewN h.2.1 n, h.2.2⟩

/-- How many digits stay when the zeros at the end go. -/
def trimN (g : Nat → Nat) : Nat → Nat
  | 0 => 0
  | n + 1 => if g n = 0 then trimN g n else n + 1
theorem trimN_le (g : Nat → Nat) : ∀ n, trimN g n ≤ n
  | 0 => Nat.le_refl _
  | n + 1 => by unfold trimN; split; exact Nat.le_succ_of_le (trimN_le g n); exact Nat.le_refl _
theorem trimN_pos (g : Nat → Nat) (n : Nat) (hn : 0 < n) (h0 : g 0 ≠ 0) : 0 < trimN g n := by
  induction n with
  | zero => omega
  | succ n ih =>
    unfold trimN
    split
    · rename_i h
      cases n with
      | zero => exact absurd h h0
      | succ m => exact ih (by omega)
    · omega
theorem trimN_zeros (g : Nat → Nat) (a : Nat) (n : Nat) (h : ∀ i, a ≤ i → i < a + n → g i = 0) : trimN g (a + n) = trimN g a := by
  induction n with
  | zero => rfl
  | succ n ih =>
    show (if g (a + n) = 0 then trimN g (a + n) else _) = _
    rw [if_pos (h (a + n) (by omega) (by omega))]
    exact ih (fun i h1 h2 => h i h1 (by omega))

theorem Dec.cells {w : World} {b nd : Nat} {g : Nat → Nat} {dp : Int} {ng tr : Bool} (h : Dec w b nd g dp ng tr) :
    w.cell? ⟨b, 800, none⟩ = some (.int .i64 (nd : Int)) ∧ w.cell? ⟨b, 801, none⟩ = some (.int .i64 dp) ∧ w.cell? ⟨b, 802, none⟩ = some (.bool ng) ∧ w.cell? ⟨b, 803, none⟩ = some (.bool tr) ∧
    (∀ i, i < nd → w.cell? ⟨b, i, none⟩ = some (.int .u8 ((48 + g i : Nat) : Int))) ∧ (∀ i, w.frozen? ⟨b, i, none⟩ = false) := by
  obtain ⟨h0, h1, R, hr, h2⟩ := h
  obtain ⟨a, b, c, d, e, f⟩ := hr.cells
  exact ⟨a, b, c, d, fun i hi => (f i).trans (h2 i hi), e⟩
theorem Dec.cut {w : World} {b nd : Nat} {g : Nat → Nat} {dp : Int} {ng tr : Bool} (h : Dec w b nd g dp ng tr) (k : Nat) (hk : k ≤ nd) : Dec (w.setCell ⟨b, 800, none⟩ (.int .i64 (k : Int))) b k g dp ng tr := by
  obtain ⟨h0, h1, R, hr, h2⟩ := h
  exact ⟨by omega, fun i hi => h1 i (by omega), _, hr.num (k : Int), fun i hi => by rw [upd_ne _ _ _ _ (by omega)]; exact h2 i (by omega)⟩
theorem Dec.point {w : World} {b nd : Nat} {g : Nat → Nat} {dp : Int} {ng tr : Bool} (h : Dec w b nd g dp ng tr) (dp' : Int) : Dec (w.setCell ⟨b, 801, none⟩ (.int .i64 dp')) b nd g dp' ng tr := by
  obtain ⟨h0, h1, R, hr, h2⟩ := h
  exact ⟨h0, h1, _, hr.point dp', fun i hi => by rw [upd_ne _ _ _ _ (by omega)]; exact h2 i (by omega)⟩

def TrimPost (b nd : Nat) (g : Nat → Nat) (dp : Int) (ng tr : Bool) (w : World) (e : Ending) (w' : World) : Prop :=
  e = .returned (.tuple #[]) ∧ Dec w' b (trimN g nd) g (if trimN g nd = 0 then 0 else dp) ng tr ∧ DFr b w w'

set_option maxRecDepth 100000 in
set_option maxHeartbeats 1000000 in
theorem trim_any (b nd : Nat) (g : Nat → Nat) (dp : Int) (ng tr : Bool) (w : World) (h : Dec w b nd g dp ng tr) : Calls Tryz.prog 175 #[.pointer (some ⟨b, 0, none⟩)] w (TrimPost b nd g dp ng tr w) := by
  have h8 := h.2.1
  have hl := h.1
  have HD := Lib.hid h8; clear h8
  have H := Lib.hid h; clear h
  go_enter Tryz.func175, Tryz.ntmps175
  go_wp2_with fail
  go_loopg [19] nd (fun k c wr => k ≤ nd ∧ RowKit.Hid (Dec wr b k g dp ng tr) ∧ RowKit.Hid (trimN g nd = trimN g k) ∧ RowKit.Hid (DFr b w wr))
  case atStart => exact ⟨Nat.le_refl _, Lib.hid H.out, Lib.hid rfl, Lib.hid (DFr.refl _ _)⟩
  case round =>
    obtain ⟨hk, k1, k2, k3⟩ := hrel
    obtain ⟨c0, c1, -, -, cd, cf⟩ := k1.out.cells
    have f0 := cf 800
    have f1 := cf 801
    by_cases hz : ∃ i, gk = i + 1 ∧ g i = 0
    · obtain ⟨i, rfl, hd0⟩ := hz
      have ci := cd i (by omega)
      have hst : trimN g (i + 1) = trimN g i := by
        show (if g i = 0 then trimN g i else i + 1) = _
        rw [if_pos hd0]
      have hk2 := Lib.hid (k2.out.trans hst)
      rw [hd0] at ci
      have hw : IntKind.i64.wrap (((i + 1 : Nat) : Int) - 1) = (i : Int) := by rw [IntKind.wrap_i64]; omega
      have hp : ((0 : Int) < ((i + 1 : Nat) : Int)) = True := eq_true (by omega)
      clear cd cf c1 f1 hd0 hst k2
      have K1 := k1; have K2 := hk2; have K3 := k3; clear k1 hk2 k3
      go_wp2_with fail
      go_quiet (fail)
      go_wp2_with fail
      go_roundg i
      case rel =>
        exact ⟨by omega, Lib.hid (K1.out.cut i (by omega)), K2, Lib.hid ((K3.out.drewN _).set _ _)⟩
      case measure => omega
    · have hst : trimN g gk = gk := by
        cases gk with
        | zero => rfl
        | succ i =>
          show (if g i = 0 then trimN g i else i + 1) = _
          rw [if_neg (fun h => hz ⟨i, rfl, h⟩)]
      have hk2 := k2.out
      rw [hst] at hk2
      have hfin : ∀ W, Dec W b gk g (if gk = 0 then 0 else dp) ng tr → DFr b w W → TrimPost b nd g dp ng tr w (.returned (.tuple #[])) W := fun W h1 h2 => by
        unfold TrimPost
        rw [hk2]
        exact ⟨rfl, h1, h2⟩
      have HFN := Lib.hid hfin; clear hfin hk2 hst
      have K1 := k1; have K3 := k3; clear k1 k2 k3
      by_cases h0 : gk = 0
      · subst h0
        clear cd cf
        go_wp2_with fail
        go_quiet (fail)
        go_wp2_with fail
        go_end0
        exact HFN.out _ (by simp only [if_true]; exact Dec.point (K1.out.drew nq) 0) ((K3.out.drewN nq).set _ _)
      · obtain ⟨i, rfl⟩ : ∃ i, gk = i + 1 := ⟨gk - 1, by omega⟩
        have ci := cd i (by omega)
        have hne : g i ≠ 0 := fun h => hz ⟨i, rfl, h⟩
        have hw : IntKind.i64.wrap (((i + 1 : Nat) : Int) - 1) = (i : Int) := by rw [IntKind.wrap_i64]; omega
        have hp : ((0 : Int) < ((i + 1 : Nat) : Int)) = True := eq_true (by omega)
        obtain ⟨X, hX⟩ : ∃ X : Int, X = ((48 + g i : Nat) : Int) := ⟨_, rfl⟩
        rw [← hX] at ci
        have hXn : (X == 48) = false := beq_false_of_ne (by omega)
        clear cd cf hX hne hz
        go_wp2_with fail
        go_quiet (fail)
        go_wp2_with fail
        go_end0
        exact HFN.out _ (by rw [if_neg (by omega)]; exact K1.out.drew nq) (K3.out.drewN nq)

end Go.Proofs.YtblpcpkkjbkakaaGreatDoor
/- shouldRoundUp. -/
namespace Go.Proofs.YtblpcpkkjbkakaaGreatDoor
open Go Go.RowKit
set_option linter.unusedVariables false
set_option linter.unusedSimpArgs false

/-- Whether a decimal that is cut at place n is rounded up. -/
def rup (nd : Nat) (g : Nat → Nat) (tr : Bool) (n : Int) : Bool :=
  if n < 0 ∨ (nd : Int) ≤ n then false
  else if g n.toNat = 5 ∧ n.toNat + 1 = nd then (tr || (decide (0 < n.toNat) && g (n.toNat - 1) % 2 != 0))
  else decide (5 ≤ g n.toNat)

set_option maxRecDepth 100000 in
set_option maxHeartbeats 1000000 in
theorem roundUp_any (b nd : Nat) (g : Nat → Nat) (dp : Int) (ng tr : Bool) (n : Int) (w : World) (h : Dec w b nd g dp ng tr) :
    Calls Tryz.prog 169 #[.pointer (some ⟨b, 0, none⟩), .int .i64 n] w (fun e w' => e = .returned (.bool (rup nd g tr n)) ∧ w' = w) := by
  have h8 := h.2.1
  have hl := h.1
  obtain ⟨c0, c1, -, c3, cd, cf⟩ := h.cells
  clear h
  by_cases h0 : n < 0
  · have hr : rup nd g tr n = false := by unfold rup; rw [if_pos (.inl h0)]
    rw [hr]
    clear cd h8 hr
    go_enter Tryz.func169, Tryz.ntmps169
    go_wp2_with fail
    go_ret
    exact ⟨rfl, rfl⟩
  · obtain ⟨k, rfl⟩ : ∃ k : Nat, n = k := ⟨n.toNat, by omega⟩
    by_cases h1 : nd ≤ k
    · have hr : rup nd g tr k = false := by unfold rup; rw [if_pos (.inr (by omega))]
      rw [hr]
      clear cd h8 hr
      have h1' : (nd : Int) ≤ (k : Int) := by omega
      go_enter Tryz.func169, Tryz.ntmps169
      go_wp2_with fail
      go_ret
      exact ⟨rfl, rfl⟩
    · have hk : k < nd := by omega
      have ck := cd k hk
      have hdk := h8 k hk
      have hr : rup nd g tr k = if g k = 5 ∧ k + 1 = nd then (tr || (decide (0 < k) && g (k - 1) % 2 != 0)) else decide (5 ≤ g k) := by
        unfold rup
        rw [if_neg (by omega), Int.toNat_natCast]
      obtain ⟨d, hd⟩ : ∃ d, d = g k := ⟨_, rfl⟩
      rw [← hd] at ck hdk hr
      have hk8 : k < 800 := by omega
      obtain ⟨N, hN⟩ : ∃ N : Int, N = (nd : Int) := ⟨_, rfl⟩
      rw [← hN] at c0
      have q2 : (N ≤ (k : Int)) = False := eq_false (by omega)
      have q3 : IntKind.i64.wrap ((k : Int) + 1) = (k : Int) + 1 := by rw [IntKind.wrap_i64]; omega
      obtain ⟨D, hD⟩ : ∃ D : Int, D = ((48 + d : Nat) : Int) := ⟨_, rfl⟩
      rw [← hD] at ck
      by_cases h5 : d = 5 ∧ k + 1 = nd
      · obtain ⟨h5d, hkl⟩ := h5
        rw [if_pos ⟨h5d, hkl⟩] at hr
        have e1 : (D == 53) = true := by rw [beq_iff_eq]; omega
        have e2 : ((k : Int) + 1 == N) = true := by rw [beq_iff_eq]; omega
        cases tr with
        | true =>
          rw [hr]
          have HH := Lib.hid (And.intro hd (And.intro hN (And.intro hD (And.intro h5d hkl))))
          clear cd h8 hr hd hN hD h5d hkl h0 h1 hk hl hdk
          go_enter Tryz.func169, Tryz.ntmps169
          go_wp2_with fail
          go_ret
          exact ⟨rfl, rfl⟩
        | false =>
          by_cases hk0 : k = 0
          · subst hk0
            have e3 : ((1 : Int) == N) = true := by rw [beq_iff_eq]; omega
            have e4 : (N ≤ 0) = False := eq_false (by omega)
            rw [hr]
            have HH := Lib.hid (And.intro hd (And.intro hN (And.intro hD (And.intro h5d hkl))))
            clear cd h8 hr hd hN hD h5d hkl h0 h1 hk hl hdk
            go_enter Tryz.func169, Tryz.ntmps169
            go_wp2_with fail
            go_ret
            exact ⟨rfl, rfl⟩
          · obtain ⟨j, hj⟩ : ∃ j, k = j + 1 := ⟨k - 1, by omega⟩
            have cj := cd j (by omega)
            have hdj := h8 j (by omega)
            obtain ⟨y, hy⟩ : ∃ y, y = g j := ⟨_, rfl⟩
            rw [← hy] at cj hdj
            have hgj : g (k - 1) = y := by rw [hy, hj]; rfl
            rw [hgj] at hr
            have q4 : IntKind.i64.wrap ((k : Int) - 1) = (j : Int) := by rw [IntKind.wrap_i64]; omega
            have q5 : 0 < k := by omega
            have hj8 : j < 800 := by omega
            have hfin : Value.bool ((48 + (y : Int) - 48) % 2 != 0) = Value.bool (rup nd g false k) := by
              rw [hr]
              congr 1
              rw [Bool.false_or, decide_eq_true (show 0 < k by omega), Bool.true_and, Bool.eq_iff_iff, bne_iff_ne, bne_iff_ne]
              omega
            obtain ⟨B, hB⟩ : ∃ B, B = rup nd g false k := ⟨_, rfl⟩
            rw [← hB] at hfin
            rw [← hB]
            have HF := Lib.hid hfin
            have HH := Lib.hid (And.intro hd (And.intro hN (And.intro hD (And.intro h5d (And.intro hkl (And.intro hj (And.intro hy (And.intro hr hB))))))))
            clear cd h8 hr hd hN hD h5d hkl h0 h1 hk hl hdk hj hgj hy hfin hk0 hB
            go_enter Tryz.func169, Tryz.ntmps169
            go_wp2_with fail
            go_ret
            exact ⟨congrArg Ending.returned HF.out, rfl⟩
      · rw [if_neg h5] at hr
        have hfin : Value.bool (decide (53 ≤ D)) = Value.bool (rup nd g tr k) := by
          rw [hr]
          congr 1
          rw [decide_eq_decide]
          omega
        obtain ⟨B, hB⟩ : ∃ B, B = rup nd g tr k := ⟨_, rfl⟩
        rw [← hB] at hfin
        rw [← hB]
        have HF := Lib.hid hfin
        by_cases h5d : d = 5
        · have e1 : (D == 53) = true := by rw [beq_iff_eq]; omega
          have e2 : ((k : Int) + 1 == N) = false := beq_false_of_ne (by omega)
          have HH := Lib.hid (And.intro hd (And.intro hN (And.intro hD (And.intro h5d h5))))
          clear cd h8 hr hd hN hD h5d h5 h0 h1 hk hl hdk hfin hB
          go_enter Tryz.func169, Tryz.ntmps169
          go_wp2_with fail
          go_ret
          exact ⟨congrArg Ending.returned HF.out, rfl⟩
        · have e1 : (D == 53) = false := beq_false_of_ne (by omega)
          have HH := Lib.hid (And.intro hd (And.intro hN (And.intro hD (And.intro h5d h5))))
          clear cd h8 hr hd hN hD h5d h5 h0 h1 hk hl hdk hfin hB
          go_enter Tryz.func169, Tryz.ntmps169
          go_wp2_with fail
          go_ret
          exact ⟨congrArg Ending.returned HF.out, rfl⟩

end Go.Proofs.YtblpcpkkjbkakaaGreatDoor
/- RoundedInteger. -/
namespace Go.Proofs.YtblpcpkkjbkakaaGreatDoor
open Go Go.RowKit
set_option linter.unusedVariables false
set_option linter.unusedSimpArgs false

/-- The number of the first i digits, as the code keeps it. -/
def riN (nd : Nat) (g : Nat → Nat) : Nat → Int
  | 0 => 0
  | i + 1 => if i < nd then IntKind.u64.wrap (IntKind.u64.wrap (riN nd g i * 10) + (g i : Int)) else IntKind.u64.wrap (riN nd g i * 10)
def riF (nd : Nat) (g : Nat → Nat) (dp : Int) (tr : Bool) : Int :=
  if 20 < dp then 18446744073709551615 else if rup nd g tr dp then IntKind.u64.wrap (riN nd g dp.toNat + 1) else riN nd g dp.toNat
theorem wrap_u64_in (x : Int) : 0 ≤ IntKind.u64.wrap x ∧ IntKind.u64.wrap x ≤ 18446744073709551615 := by rw [IntKind.wrap_u64]; omega
theorem riN_in (nd : Nat) (g : Nat → Nat) (i : Nat) : 0 ≤ riN nd g i ∧ riN nd g i ≤ 18446744073709551615 := by
  cases i with
  | zero => exact ⟨Int.le_refl 0, by show (0 : Int) ≤ _; decide⟩
  | succ i => unfold riN; split <;> exact wrap_u64_in _
theorem riF_in (nd : Nat) (g : Nat → Nat) (dp : Int) (tr : Bool) : 0 ≤ riF nd g dp tr ∧ riF nd g dp tr ≤ 18446744073709551615 := by
  unfold riF
  split
  · exact ⟨by decide, by decide⟩
  · split
    · exact wrap_u64_in _
    · exact riN_in _ _ _

set_option maxRecDepth 100000 in
set_option maxHeartbeats 1000000 in
theorem rounded_any (b nd : Nat) (g : Nat → Nat) (dp : Int) (ng tr : Bool) (w : World) (h : Dec w b nd g dp ng tr) (hd1 : -1000000 ≤ dp) :
    Calls Tryz.prog 161 #[.pointer (some ⟨b, 0, none⟩)] w (fun e w' => e = .returned (.int .u64 (riF nd g dp tr)) ∧ w' = w) := by
  have h8 := h.2.1
  have hl := h.1
  obtain ⟨c0, c1, -, -, cd, cf⟩ := h.cells
  have HC := Lib.hid cd; clear cd
  have H8 := Lib.hid h8; clear h8
  have H := Lib.hid h; clear h
  by_cases hbig : 20 < dp
  · have hr : riF nd g dp tr = 18446744073709551615 := by unfold riF; rw [if_pos hbig]
    rw [hr]
    clear hr
    go_enter Tryz.func161, Tryz.ntmps161
    go_wp2_with fail
    go_ret
    exact ⟨rfl, rfl⟩
  · obtain ⟨B, hB⟩ : ∃ B, B = rup nd g tr dp := ⟨_, rfl⟩
    have hr : riF nd g dp tr = if B then IntKind.u64.wrap (riN nd g dp.toNat + 1) else riN nd g dp.toNat := by unfold riF; rw [if_neg hbig, hB]
    have hcall := roundUp_any b nd g dp ng tr dp w H.out
    rw [← hB] at hcall
    have HR := Lib.hid hcall; clear hcall hB
    have HV := Lib.hid hr; clear hr
    go_enter Tryz.func161, Tryz.ntmps161
    go_upto_block 0 with fail
    go_cut [3, 4] (fun i n wx => ∃ k : Nat, (k : Int) ≤ max dp 0 ∧ (dp ≤ k ∨ nd ≤ k) ∧ i = .int .i64 k ∧ n = .int .u64 (riN nd g k) ∧ wx = w)
    case first =>
      go_wp2_with fail
      go_loop [3, 4] (fun i n => ∃ k : Nat, (k : Int) ≤ max dp 0 ∧ k ≤ nd ∧ i = .int .i64 k ∧ n = .int .u64 (riN nd g k)) (fun i _ => nd - (intOf i).toNat)
      case atStart => exact ⟨0, by omega, by omega, rfl, rfl⟩
      case round =>
        obtain ⟨k, hk1, hk2, rfl, rfl⟩ := hrel
        obtain ⟨V, hV⟩ : ∃ V, V = riN nd g k := ⟨_, rfl⟩
        rw [← hV]
        by_cases g1 : (k : Int) < dp
        · by_cases g2 : k < nd
          · have ck := HC.out k g2
            have hd := H8.out k g2
            have hnx : riN nd g (k + 1) = IntKind.u64.wrap (IntKind.u64.wrap (V * 10) + (g k : Int)) := by
              rw [hV]; show (if k < nd then _ else _) = _; rw [if_pos g2]
            obtain ⟨y, hy⟩ : ∃ y, y = g k := ⟨_, rfl⟩
            rw [← hy] at ck hd hnx
            have e6 : (48 + (y : Int) - 48) = (y : Int) := by omega
            have HN := Lib.hid hnx; clear hnx
            have HVV := Lib.hid hV; clear hV
            have HY := Lib.hid hy; clear hy
            have HE := Lib.hid e6; clear e6
            have hk8 : k < 800 := by omega
            go_wp2_with fail
            go_round
            case rel => exact ⟨k + 1, by omega, by omega, by go_num, by rw [HN.out]; simp [HE.out]⟩
            case measure => simp [intOf]; omega
          · have HVV := Lib.hid hV; clear hV
            go_wp2_with fail
            go_meet
            case rel => exact ⟨k, hk1, .inr (by omega), rfl, by rw [HVV.out], rfl⟩
        · have HVV := Lib.hid hV; clear hV
          go_wp2_with fail
          go_meet
          case rel => exact ⟨k, hk1, .inl (by omega), rfl, by rw [HVV.out], rfl⟩
    case rest =>
      obtain ⟨k0, hk1, hk2, rfl, rfl, rfl⟩ := hcut
      go_wp2_with fail
      go_loop [3, 4] (fun i n => ∃ k : Nat, (k : Int) ≤ max dp 0 ∧ (dp ≤ k ∨ nd ≤ k) ∧ i = .int .i64 k ∧ n = .int .u64 (riN nd g k)) (fun i _ => dp.toNat - (intOf i).toNat)
      case atStart => exact ⟨k0, hk1, hk2, rfl, rfl⟩
      case round =>
        clear hk1 hk2
        obtain ⟨k, hk1, hk2, rfl, rfl⟩ := hrel
        by_cases g1 : (k : Int) < dp
        · have hnx : riN nd g (k + 1) = IntKind.u64.wrap (riN nd g k * 10) := by
            show (if k < nd then _ else _) = _; rw [if_neg (by omega)]
          obtain ⟨V, hV⟩ : ∃ V, V = riN nd g k := ⟨_, rfl⟩
          rw [← hV] at hnx ⊢
          have HN := Lib.hid hnx; clear hnx
          have HVV := Lib.hid hV; clear hV
          go_wp2_with fail
          go_round
          case rel => exact ⟨k + 1, by omega, by omega, by go_num, by rw [HN.out]⟩
          case measure => simp [intOf]; omega
        · have hkk : dp.toNat = k := by omega
          have hv := HV.out
          rw [hkk] at hv
          obtain ⟨V, hVe⟩ : ∃ V, V = riN nd g k := ⟨_, rfl⟩
          rw [← hVe] at hv ⊢
          have HV2 := Lib.hid hv; clear hv HV hVe hkk
          go_wp2_with (go_at_call 169; refine HR.out.mono ?_; rintro e w' ⟨rfl, rfl⟩)
          all_goals go_ret
          all_goals (rename_i hb; exact ⟨by rw [HV2.out, hb]; rfl, rfl⟩)

end Go.Proofs.YtblpcpkkjbkakaaGreatDoor
/- prefixIsLessThan. -/
namespace Go.Proofs.YtblpcpkkjbkakaaGreatDoor
open Go Go.RowKit
set_option linter.unusedVariables false
set_option linter.unusedSimpArgs false

/-- A text's byte at a place. -/
def bat (s : ByteArray) (i : Nat) : Nat := (s.data.toList.getD i 0).toNat
/-- Whether the digits come ahead of the text, in the alphabet's order; m places are left from place i. -/
def plt (nd : Nat) (g : Nat → Nat) (s : ByteArray) : Nat → Nat → Bool
  | 0, _ => false
  | m + 1, i => if nd ≤ i then true else if 48 + g i = bat s i then plt nd g s m (i + 1) else decide (48 + g i < bat s i)

theorem bat_at (s : ByteArray) (k : Nat) (h : k < s.size) : bat s k = s[k].toNat := by
  unfold bat
  rw [List.getD_eq_getElem?_getD]
  have : s.data.toList[k]? = some s[k] := by
    rw [Array.getElem?_toList]
    exact Array.getElem?_eq_getElem (show k < s.data.size from h)
  rw [this]; rfl

set_option maxRecDepth 100000 in
set_option maxHeartbeats 1000000 in
theorem prefix_any (b nd : Nat) (g : Nat → Nat) (dp : Int) (ng tr : Bool) (c : Nat) (s : ByteArray) (w : World) (h : Dec w b nd g dp ng tr) (hs : s.size ≤ 1000) (hc : nd ≤ c) :
    Calls Tryz.prog 174 #[.slice (some ⟨b, 0, none⟩) nd c, .string s] w (fun e w' => e = .returned (.bool (plt nd g s s.size 0)) ∧ ∃ n, w' = w.drewN n) := by
  have h8 := h.2.1
  have hl := h.1
  obtain ⟨-, -, -, -, cd, cf⟩ := h.cells
  have HC := Lib.hid cd; clear cd
  have H8 := Lib.hid h8; clear h8
  clear h
  go_enter Tryz.func174, Tryz.ntmps174
  go_wp2_with fail
  go_loopw [5] (fun i wr => ∃ k : Nat, k ≤ s.size ∧ i = .int .i64 k ∧ RowKit.Hid (plt nd g s s.size 0 = plt nd g s (s.size - k) k) ∧ ∃ n, wr = w.drewN n) (fun i _ => s.size - (intOf i).toNat)
  case atStart => exact ⟨0, Nat.zero_le _, rfl, Lib.hid rfl, 0, rfl⟩
  case round =>
    obtain ⟨k, hk, rfl, hpl, n0, hwr⟩ := hrel
    have HW := Lib.hid hwr
    by_cases hks : k < s.size
    · obtain ⟨m, hm⟩ : ∃ m, s.size - k = m + 1 := ⟨s.size - k - 1, by omega⟩
      have hp2 := hpl.out
      rw [hm] at hp2
      have hp3 : plt nd g s (m + 1) k = if nd ≤ k then true else if 48 + g k = bat s k then plt nd g s m (k + 1) else decide (48 + g k < bat s k) := rfl
      rw [hp3, bat_at s k hks] at hp2
      clear hp3 hpl
      by_cases hkn : nd ≤ k
      · rw [if_pos hkn] at hp2
        have HP := Lib.hid hp2; clear hp2
        subst hwr
        go_wp2_with fail
        go_ret
        exact ⟨by rw [HP.out]; rfl, n0, rfl⟩
      · rw [if_neg hkn] at hp2
        have hkn2 : k < nd := by omega
        have ck := HC.out k hkn2
        have hd := H8.out k hkn2
        obtain ⟨D, hD⟩ : ∃ D : Int, D = ((48 + g k : Nat) : Int) := ⟨_, rfl⟩
        obtain ⟨Y, hY⟩ : ∃ Y : Int, Y = (s[k].toNat : Int) := ⟨_, rfl⟩
        have ck2 : wr.cell? ⟨b, k, none⟩ = some (.int .u8 D) := by rw [hwr, hD]; exact ck
        have hD2 : 0 ≤ D ∧ D < 256 := by omega
        by_cases he : 48 + g k = s[k].toNat
        · rw [if_pos he] at hp2
          have HP := Lib.hid hp2; clear hp2
          have e1 : (D != (s[k].toNat : Int)) = false := by rw [bne_eq_false_iff_eq]; omega
          have e2 : (D == (s[k].toNat : Int)) = true := by rw [beq_iff_eq]; omega
          have HE := Lib.hid he; clear he ck hwr
          have HDD := Lib.hid (And.intro hD hY); clear hD hY
          go_wp2_with fail
          go_quiet (fail)
          go_wp2_with fail
          go_roundw
          case rel => exact ⟨k + 1, by omega, by go_num, Lib.hid (by rw [HP.out, show s.size - (k + 1) = m by omega]), n0 + nq, by rw [HW.out]; exact World.drewN_drewN ..⟩
          case measure => simp [intOf]; omega
        · rw [if_neg he] at hp2
          have HP := Lib.hid hp2; clear hp2
          have e1 : (D != (s[k].toNat : Int)) = true := by rw [bne_iff_ne]; omega
          have e2 : (D == (s[k].toNat : Int)) = false := beq_false_of_ne (by omega)
          have hfin : Value.bool (decide (D < (s[k].toNat : Int))) = Value.bool (plt nd g s s.size 0) := by
            rw [HP.out]
            congr 1
            rw [decide_eq_decide]; omega
          have HF := Lib.hid hfin; clear hfin HP
          have HE := Lib.hid he; clear he ck hwr
          have HDD := Lib.hid (And.intro hD hY); clear hD hY
          go_wp2_with fail
          go_quiet (fail)
          go_wp2_with fail
          go_quiet (fail)
          go_wp2_with fail
          go_ret
          exact ⟨congrArg Ending.returned HF.out, _, by rw [HW.out, World.drewN_drewN, World.drewN_drewN]⟩
    · have hk2 : k = s.size := by omega
      have hp2 := hpl.out
      rw [show s.size - k = 0 by omega] at hp2
      have HP := Lib.hid hp2; clear hp2 hpl
      have HK := Lib.hid hk2; clear hk2
      subst hwr
      go_wp2_with fail
      go_ret
      exact ⟨by rw [HP.out]; rfl, n0, rfl⟩

end Go.Proofs.YtblpcpkkjbkakaaGreatDoor
