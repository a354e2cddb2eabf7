/- Lemmas towards the seat's laws: 1 texts joined. -/
import Derived.Laws.FloatArith
/- The floats' own laws: signs in products, quotients and comparisons; what is finite. No program in sight. -/
namespace Go.Proofs.YtblpcpkkjbkakaaGreatDoor
open Go Ieee
set_option linter.unusedVariables false
set_option linter.unusedSimpArgs false

def SW : Nat := 9223372036854775808
/-- The word of a sign over a rung. -/
def sg (neg : Bool) (x : Nat) : Nat := if neg then SW + x else x

def mk (neg : Bool) (rung : Nat) : Datum :=
  if rung < double.binade then .number neg rung double.leastPlace
  else if rung < double.infRung then .number neg (double.binade + rung % double.binade) (double.leastPlace + (rung / double.binade - 1 : Nat))
  else if rung = double.infRung then .infinity neg
  else .nan neg (rung - double.infRung)

theorem sw : double.signWeight = SW := by decide +kernel
theorem read_sg (neg : Bool) (x : Nat) (h : x < SW) : double.read (sg neg x) = mk neg x := by
  unfold Format.read mk
  rw [sw]
  have h1 : (sg neg x / SW % 2 == 1) = neg := by
    unfold sg SW at *; cases neg
    · simp; omega
    · simp; omega
  have h2 : sg neg x % SW = x := by unfold sg SW at *; cases neg <;> simp <;> omega
  rw [h1, h2]
theorem read_plain (x : Nat) (h : x < SW) : double.read x = mk false x := read_sg false x h

theorem word_sg (neg : Bool) (r : Nat) : double.word neg r = sg neg r := by unfold Format.word sg; rw [sw]
theorem cut_even (neg : Bool) (n d : Nat) : Toward.even.cut neg n d = Toward.even.cut false n d := by unfold Toward.cut; simp only
theorem sg_false (r : Nat) : sg false r = r := rfl
theorem near_gen (f : Format) (neg : Bool) (m : Nat) (p : Int) : ∃ r, r ≤ f.infRung ∧ f.nearest neg m p = f.word neg r ∧ f.nearest false m p = f.word false r := by
  unfold Format.nearest
  by_cases h : m = 0
  · rw [if_pos h, if_pos h]; exact ⟨0, Nat.zero_le _, rfl, rfl⟩
  · rw [if_neg h, if_neg h]
    dsimp only
    rw [cut_even neg]
    exact ⟨_, Nat.min_le_right _ _, rfl, rfl⟩
theorem infRung_sw : double.infRung < SW := by decide +kernel
theorem nearest_sg (neg : Bool) (m : Nat) (p : Int) : double.nearest neg m p = sg neg (double.nearest false m p) := by
  obtain ⟨r, h0, h1, h2⟩ := near_gen double neg m p
  rw [h1, h2, word_sg, word_sg, sg_false]
theorem nearest_lt_sw (m : Nat) (p : Int) : double.nearest false m p < SW := by
  obtain ⟨r, h0, h1, h2⟩ := near_gen double false m p
  have := infRung_sw
  rw [h2, word_sg, sg_false]; omega

theorem mul_sg (neg : Bool) (x y : Nat) (hx : x < SW) (hy : y < SW) : double.mul (sg neg x) y = (double.mul x y).map (sg neg) := by
  unfold Format.mul
  rw [read_sg neg x hx, read_plain x hx, read_plain y hy]
  unfold mk
  split <;> (try split) <;> (try split) <;> (try split) <;> (try split) <;> (try split) <;>
    simp [Datum.product, Format.write, word_sg, nearest_sg neg] <;> (try split) <;> simp [Format.write, word_sg, nearest_sg neg, sg]

theorem div_sg (neg : Bool) (x y : Nat) (hx : x < SW) (hy : y < SW) : double.div (sg neg x) y = (double.div x y).map (sg neg) := by
  unfold Format.div
  rw [read_sg neg x hx, read_plain x hx, read_plain y hy]
  unfold mk
  split <;> (try split) <;> (try split) <;> (try split) <;> (try split) <;> (try split) <;>
    simp [Datum.quotient, Format.write, word_sg, nearest_sg neg] <;> (try split) <;> (try split) <;> simp [Format.write, word_sg, nearest_sg neg, sg]

theorem ord_neg (a b : Int) : (compare (-a) (-b) == Ordering.eq) = (compare a b == Ordering.eq) := by
  simp only [compare, compareOfLessAndEq]
  split <;> split <;> (try split) <;> (try split) <;> first | rfl | omega
theorem signed_true (m u : Nat) : signed true m u = -signed false m u := rfl

theorem ord_sg (neg : Bool) (x y : Nat) (hx : x < SW) (hy : y < SW) : (double.order (sg neg x) (sg neg y) == some Ordering.eq) = (double.order x y == some Ordering.eq) := by
  unfold Format.order
  rw [read_sg neg x hx, read_sg neg y hy, read_plain x hx, read_plain y hy]
  cases neg
  · rfl
  · unfold mk
    split <;> (try split) <;> (try split) <;> (try split) <;> (try split) <;> (try split) <;>
      simp [Datum.order, signed_true, ord_neg]

end Go.Proofs.YtblpcpkkjbkakaaGreatDoor
