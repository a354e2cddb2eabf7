/- Lemmas towards the seat's laws: 1 texts joined. -/
import Derived.Test.YtblpcpkkjbkakaaGreatDoorY45
/- The reference's making of a line anew: where it has none and no row. -/
namespace Go.Proofs.YtblpcpkkjbkakaaGreatDoor
open Go Go.RowKit
set_option linter.unusedVariables false
set_option linter.unusedSimpArgs false

set_option maxRecDepth 100000 in
set_option maxHeartbeats 4000000 in
theorem newL_none (d : Nat) (F : Nat → Prop) (cs : List Value) (xs : List Nat) (w : World) (hd : d < 4) (h : GLc d F w cs xs) (hz : ¬ 0 < xs.length) (hno : ∀ b n c u v k, cs ≠ [u, v, .slice (some b) n c, k]) :
    Calls Tryz.prog 29 #[.agg ⟨cs⟩] w (FrPost (GLc d) xs w) := by
  obtain ⟨i0, hi, hz0, hz1, hz2⟩ := info_parts info25
  obtain ⟨vN, rfl, hown, -, hok⟩ := h
  have HN := Lib.hid (And.intro hz hno); clear hz hno
  have HOK := Lib.hid hok
  obtain ⟨p, hp2, hx⟩ := hok
  rw [hx] at hown
  obtain ⟨a, c, rfl, hrow⟩ := row_slice hown
  have hcap := ownsRow_cap hown
  have hf := F3.new w 45 #[.int .i64 ((2 : Nat) : Int), .int .i64 d, .slice a (p * wid d) c, .slice none 0 0] 2 d
  have hw0 : 2 ≤ wid d ∧ wid d ≤ 4 := by unfold wid; omega
  have hwd := fun W => width_any d W hd
  have hlf := fun W => leaf_any 2 W (.inl rfl)
  have hb3 := b33 d hd
  obtain ⟨wd, hwe⟩ : ∃ wd, wd = wid d := ⟨_, rfl⟩
  rw [← hwe] at hx hown hf hrow hwd hw0 hcap ⊢
  have hq : ((p : Int) * (wd : Int)).tdiv (wd : Int) = p := Int.mul_tdiv_cancel _ (by omega)
  obtain ⟨n, hn⟩ : ∃ n, n = p * wd := ⟨_, rfl⟩
  rw [← hn] at hx hown hf hrow hcap ⊢
  have hn2 : n ≤ 400000 := by rw [hn]; exact Nat.le_trans (Nat.mul_le_mul hp2 hw0.2) (by decide)
  have hq2 : ((n : Int)).tdiv (wd : Int) = p := by rw [hn, Int.natCast_mul]; exact hq
  have hm2 : (p : Int) * (wd : Int) = n := by rw [hn, Int.natCast_mul]
  obtain ⟨hc1, hc2, -⟩ := hcap
  have HP := Lib.hid (And.intro hf (And.intro hown (And.intro hrow (And.intro hx (And.intro hn hwe)))))
  have HW := Lib.hid hwd
  have HL := Lib.hid hlf
  clear hf hown hrow hx hn hwe hwd hlf hq
  go_enter Tryz.func29, Tryz.ntmps29
  go_upto_region 5 with (go_at_call 47; refine (HL.out _).mono ?_; rintro e w' ⟨rfl, rfl⟩)
  obtain ⟨W0, hW0⟩ : ∃ W0, W0 = (((w.alloc (.cells ⟨[.int .i64 2, .int .i64 d, .slice a n c, .slice none 0 0]⟩ 45)).alloc (.cells #[.int .i64 0, .int .i64 0, .slice none 0 0, .slice none 0 0] 45)).alloc (.cells #[.int .i64 2, .int .i64 d, .slice none 0 0, .slice none 0 0] 45)) := ⟨_, rfl⟩
  rw [← hW0]
  have hf : F3 w.heap.size 45 #[.int .i64 2, .int .i64 d, .slice a n c, .slice none 0 0] 2 d (.slice none 0 0) (.slice none 0 0) w W0 := by rw [hW0]; exact HP.out.1
  clear hW0
  obtain ⟨c0, c1, c2, c3⟩ := hf.bx.cells
  obtain ⟨o0, o1, o2, o3⟩ := hf.bx.out
  have r0 : W0.cell? ⟨w.heap.size, 2, none⟩ = some (.slice a n c) := hf.rb.cell 2 rfl
  obtain ⟨z0, z0'⟩ := hf.bx.froz 0
  obtain ⟨z1, z1'⟩ := hf.bx.froz 1
  obtain ⟨z2, z2'⟩ := hf.bx.froz 2
  obtain ⟨z3, z3'⟩ := hf.bx.froz 3
  have HF := Lib.hid hf; clear hf
  go_quiet (first | (refine (HW.out _).mono ?_; rintro e w' ⟨rfl, rfl⟩; exact ⟨rfl, _, rfl⟩))
  go_upto_region 8 with fail
  have iwn : IntKind.i64.wrap (n : Int) = n := by rw [IntKind.wrap_i64]; omega
  have hnc : (n : Int) ≤ (c : Int) := by omega
  have hms : w.heap.size + 1 + 1 < W0.heap.size := HF.out.bx.lt
  by_cases hn0 : 0 < n
  · exact absurd (show 0 < xs.length by have := HP.out.2.2.2.1; omega) HN.out.1
  · obtain rfl : n = 0 := by omega
    have iw00 : IntKind.i64.wrap (0 : Int) = 0 := by rw [IntKind.wrap_i64]; omega
    cases a with
    | none =>
      go_region_law ((first
        | (refine step_call1 (by rfl) 48 Tryz.f48 Tryz.func48 fine48 _ _ (by rfl) _ (by rfl) (HW.out _) ?_; rintro e w9 ⟨rfl, rfl⟩; refine ⟨_, rfl, ?_⟩)))
      all_goals go_wp2_with fail
      all_goals
        have hfin := newL0_fin nq xs HP.out.2.2.2.1 HF.out
        exact bodyPost_ret_by (results_cell_row rfl _ _ (w.heap.size + 1) 45 _ (0, 0) _ rfl hfin.1 Tryz.underlying45 rfl (by kernel_rfl)) rfl hfin.2
    | some a => exact absurd rfl (HN.out.2 _ _ _ _ _ _)
end Go.Proofs.YtblpcpkkjbkakaaGreatDoor
