/- Lemmas towards the seat's laws: 1 texts joined. -/
import Derived.Test.YtblpcpkkjbkakaaGreatDoorY13
/- The scanner's small tests of characters. -/
namespace Go.Proofs.YtblpcpkkjbkakaaGreatDoor
open Go Go.RowKit
set_option linter.unusedVariables false
set_option linter.unusedSimpArgs false

def low (c : Int) : Int := bits BinOp.or IntKind.i32 32 c
theorem low_tab : ∀ n : Nat, n < 128 → ((97 ≤ low n ∧ low n ≤ 122) ↔ ((97 ≤ n ∧ n ≤ 122) ∨ (65 ≤ n ∧ n ≤ 90))) ∧ (low n = 101 ↔ (n = 101 ∨ n = 69)) ∧ (low n = 112 ↔ (n = 112 ∨ n = 80)) ∧ (low n = 120 ↔ (n = 120 ∨ n = 88)) ∧ (low n = 111 ↔ (n = 111 ∨ n = 79)) ∧ (low n = 98 ↔ (n = 98 ∨ n = 66)) := by
  have h : ∀ n : Fin 128, ((97 ≤ low n.1 ∧ low n.1 ≤ 122) ↔ ((97 ≤ n.1 ∧ n.1 ≤ 122) ∨ (65 ≤ n.1 ∧ n.1 ≤ 90))) ∧ (low n.1 = 101 ↔ (n.1 = 101 ∨ n.1 = 69)) ∧ (low n.1 = 112 ↔ (n.1 = 112 ∨ n.1 = 80)) ∧ (low n.1 = 120 ↔ (n.1 = 120 ∨ n.1 = 88)) ∧ (low n.1 = 111 ↔ (n.1 = 111 ∨ n.1 = 79)) ∧ (low n.1 = 98 ↔ (n.1 = 98 ∨ n.1 = 66)) := by decide +kernel
  intro n hn
  exact h ⟨n, hn⟩
theorem low_end : low (-1) = -1 := by decide +kernel

theorem lower_c (c : Int) (w : World) : Calls Tryz.prog 116 #[.int .i32 c] w (fun e w' => e = .returned (.int .i32 (low c)) ∧ w = w') := by
  go_enter Tryz.func116, Tryz.ntmps116
  go_wp2_with fail
  go_ret
  exact ⟨rfl, rfl⟩

def dec (c : Int) : Bool := decide (48 ≤ c) && decide (c ≤ 57)
theorem isDecimal_c (c : Int) (w : World) : Calls Tryz.prog 90 #[.int .i32 c] w (fun e w' => e = .returned (.bool (dec c)) ∧ w = w') := by
  go_enter Tryz.func90, Tryz.ntmps90
  go_wp2_with fail
  all_goals go_ret
  all_goals refine ⟨?_, rfl⟩
  · rename_i h
    change Ending.returned (.bool _) = _
    simp only [dec]
    first | rw [decide_eq_false (show ¬ 48 ≤ c by omega)]; rfl | rw [decide_eq_true (show 48 ≤ c by omega)]; rfl
  · rename_i h
    change Ending.returned (.bool _) = _
    simp only [dec]
    first | rw [decide_eq_false (show ¬ 48 ≤ c by omega)]; rfl | rw [decide_eq_true (show 48 ≤ c by omega)]; rfl

def idr (c i : Int) : Bool := decide (c = 95) || (decide (97 ≤ low c) && decide (low c ≤ 122)) || (dec c && decide (0 < i))

set_option maxRecDepth 100000 in
theorem isIdentRune_c (b : Nat) (c i : Int) (w : World) (h : w.cell? ⟨b, 1043, none⟩ = some .nilFunc) :
    Calls Tryz.prog 88 #[.pointer (some ⟨b, 0, none⟩), .int .i32 c, .int .i64 i] w (fun e w' => e = .returned (.bool (idr c i)) ∧ w = w') := by
  have hnil : ∀ w : World, (binOp BinOp.neq 95 .nilFunc .nilFunc).run Tryz.prog w = .ok (.bool false) w := fun _ => by kernel_rfl
  go_enter Tryz.func88, Tryz.ntmps88
  by_cases h1 : c = 95
  · go_wp2_with (first | (go_at_call 116; refine (lower_c _ _).mono ?_; rintro e w' ⟨rfl, rfl⟩) | (go_at_call 90; refine (isDecimal_c _ _).mono ?_; rintro e w' ⟨rfl, rfl⟩))
    go_ret
    refine ⟨?_, rfl⟩
    show Ending.returned (.bool true) = _
    simp [idr, h1]
  · have h1' : (c == 95) = false := beq_false_of_ne h1
    by_cases h2 : 97 ≤ low c ∧ low c ≤ 122
    · obtain ⟨h2, h3⟩ := h2
      go_wp2_with (first | (go_at_call 116; refine (lower_c _ _).mono ?_; rintro e w' ⟨rfl, rfl⟩) | (go_at_call 90; refine (isDecimal_c _ _).mono ?_; rintro e w' ⟨rfl, rfl⟩))
      go_ret
      refine ⟨?_, rfl⟩
      show Ending.returned (.bool true) = _
      simp [idr, h1, h2, h3]
    · go_wp2_with (first | (go_at_call 116; refine (lower_c _ _).mono ?_; rintro e w' ⟨rfl, rfl⟩) | (go_at_call 90; refine (isDecimal_c _ _).mono ?_; rintro e w' ⟨rfl, rfl⟩))
      all_goals go_ret
      all_goals refine ⟨?_, rfl⟩
      all_goals change Ending.returned (.bool _) = _
      all_goals simp only [idr]
      all_goals rw [decide_eq_false h1]
      all_goals (try rename_i hd)
      all_goals first | rw [show dec c = true from hd] | rw [Bool.eq_false_iff.2 (show ¬ dec c = true from hd)]
      all_goals by_cases hl : 97 ≤ low c
      all_goals first | (rw [decide_eq_false (show ¬ low c ≤ 122 by omega)]; simp; done) | (rw [decide_eq_false hl]; simp; done) | (exfalso; omega)
end Go.Proofs.YtblpcpkkjbkakaaGreatDoor
