/- Lemmas towards the seat's laws: 2 texts joined. -/
import Derived.Test.YtblpcpkkjbkakaaGreatDoorY22
import Derived.Test.YtblpcpkkjbkakaaGreatDoorY24
import Derived.WalkMore
import Derived.ScopeJumps
/- Shift. -/
namespace Go.Proofs.YtblpcpkkjbkakaaGreatDoor
open Go Go.RowKit
set_option linter.unusedVariables false
set_option linter.unusedSimpArgs false

def ShPost (b : Nat) (s' : DS) (ng : Bool) (w : World) (e : Ending) (w' : World) : Prop :=
  e = .returned (.tuple #[]) ∧ s'.At ng w' b ∧ DFr b w w'
theorem rightS_any (b : Nat) (s : DS) (ng : Bool) (k : Nat) (kk : Int) (w : World) (h : s.At ng w b) (hs : s.Good) (hk1 : 1 ≤ k) (hk : k ≤ 60) (hd1 : -1000000 ≤ s.dp) (hd2 : s.dp ≤ 1000000) (hkk : kk = k) :
    Calls Tryz.prog 168 #[.pointer (some ⟨b, 0, none⟩), .int .u64 kk] w (ShPost b (rsS k s) ng w) := by
  subst hkk
  refine (right_any b s.nd s.g s.dp ng s.tr k w h hs.1 hs.2.2.1 hk1 hk hd1 hd2).mono ?_
  rintro e w' ⟨rfl, h1, h2⟩
  exact ⟨rfl, h1, h2⟩
theorem leftS_any (b : Nat) (gl : Nat × Nat) (s : DS) (ng : Bool) (k : Nat) (kk : Int) (w : World) (h : s.At ng w b) (hs : s.Good) (hk1 : 1 ≤ k) (hk : k ≤ 60) (hd1 : -1000000 ≤ s.dp) (hd2 : s.dp ≤ 1000000) (hG : GlL gl w) (hkk : kk = k) :
    Calls Tryz.prog 167 #[.pointer (some ⟨b, 0, none⟩), .int .u64 kk] w (ShPost b (lsS k s) ng w) := by
  subst hkk
  refine (left_any b gl s ng k w h hs hk1 hk hd1 hd2 hG).mono ?_
  rintro e w' ⟨rfl, h1, h2⟩
  exact ⟨rfl, h1, h2⟩

set_option maxRecDepth 100000 in
set_option maxHeartbeats 1000000 in
theorem shiftL_any (b : Nat) (gl : Nat × Nat) (s : DS) (ng : Bool) (k : Nat) (kk : Int) (w : World) (h : s.At ng w b) (hs : s.Good) (hk1 : 1 ≤ k) (hk : k ≤ 60) (hd1 : -1000000 ≤ s.dp) (hd2 : s.dp ≤ 1000000) (hG : GlL gl w) (hkk : kk = k) :
    Calls Tryz.prog 160 #[.pointer (some ⟨b, 0, none⟩), .int .i64 kk] w (ShPost b (lsS k s) ng w) := by
  obtain ⟨c0, -, -, -, -, -⟩ := Dec.cells h
  have h0 := hs.1
  obtain ⟨n, hn⟩ : ∃ n, s.nd = n + 1 := ⟨s.nd - 1, by omega⟩
  rw [hn] at c0
  have HC := Lib.hid (fun x hx => leftS_any b gl s ng k x w h hs hk1 hk hd1 hd2 hG hx)
  clear h hs hG hd1 hd2 hn h0
  subst hkk
  go_enter Tryz.func160, Tryz.ntmps160
  go_wp2_with fail
  go_loop [1] (fun x => x = .int .i64 (k : Int)) (fun _ => 0)
  case atStart => rfl
  case round =>
    subst hrel
    go_wp2_with (go_at_call 167; refine (HC.out _ ?_).mono ?_; rotate_left; rintro e w' ⟨rfl, k2, k3⟩)
    · go_end0
      exact ⟨rfl, k2, k3⟩
    · rfl

set_option maxRecDepth 100000 in
set_option maxHeartbeats 1000000 in
theorem shiftR_any (b : Nat) (s : DS) (ng : Bool) (K : Nat) (kk : Int) (w : World) (h : s.At ng w b) (hs : s.Good) (hk1 : 1 ≤ K) (hk : K ≤ 200000) (hd1 : -10000 ≤ s.dp) (hd2 : s.dp ≤ 10000) (hkk : kk = -(K : Int)) :
    Calls Tryz.prog 160 #[.pointer (some ⟨b, 0, none⟩), .int .i64 kk] w (ShPost b (shr K K s) ng w) := by
  obtain ⟨c0, -, -, -, -, -⟩ := Dec.cells h
  have h0 := hs.1
  obtain ⟨n, hn⟩ : ∃ n, s.nd = n + 1 := ⟨s.nd - 1, by omega⟩
  rw [hn] at c0
  have H := Lib.hid (And.intro h (And.intro hs (And.intro hd1 hd2)))
  clear h hs hd1 hd2 hn h0
  subst hkk
  have e1 : (((n : Int) + 1) == 0) = false := beq_false_of_ne (by omega)
  have e2 : (0 < K) = True := eq_true (by omega)
  have e3 : ((K : Int) < 0) = False := eq_false (by omega)
  go_enter Tryz.func160, Tryz.ntmps160
  go_wp2_with fail
  go_loopg [1] K (fun f x wr => ∃ K' s', 1 ≤ K' ∧ K' ≤ f ∧ K' ≤ K ∧ x = .int .i64 (-(K' : Int)) ∧ RowKit.Hid (s'.At ng wr b) ∧ RowKit.Hid (DFr b w wr) ∧ RowKit.Hid (s'.Good ∧ -10000 - ((K : Int) - K') ≤ s'.dp ∧ s'.dp ≤ 10000) ∧ RowKit.Hid (shr K K s = shr f K' s'))
  case atStart => exact ⟨K, s, hk1, Nat.le_refl _, Nat.le_refl _, rfl, Lib.hid H.out.1, Lib.hid (DFr.refl _ _), Lib.hid ⟨H.out.2.1, by have := H.out.2.2; omega⟩, Lib.hid rfl⟩
  case round =>
    obtain ⟨K', s', h1, h2, h3, rfl, hat, hfr, hgd, heq⟩ := hrel
    by_cases h60 : 60 < K'
    · obtain ⟨f, rfl⟩ : ∃ f, gk = f + 1 := ⟨gk - 1, by omega⟩
      have he := heq.out
      rw [shr_on f K' s' h60] at he
      have HC := Lib.hid (rightS_any b s' ng 60 60 wr hat.out hgd.out.1 (by decide) (by decide) (by have := hgd.out.2; omega) (by have := hgd.out.2; omega) rfl)
      have HG := Lib.hid (And.intro (rsS_good 60 (by decide) s' hgd.out.1) (And.intro (rsS_dp 60 (by decide) s' hgd.out.1) hgd.out.2))
      have HE := Lib.hid he
      clear he heq hat hgd
      go_wp2_with (go_at_call 168; refine HC.out.mono ?_; rintro e w' ⟨rfl, k2, k3⟩)
      go_roundg f
      case rel => exact ⟨K' - 60, rsS 60 s', by omega, by omega, by omega, by congr 1; omega, Lib.hid k2, Lib.hid (hfr.out.trans k3), Lib.hid ⟨HG.out.1, by have := HG.out.2; omega⟩, HE⟩
      case measure => omega
    · have he := heq.out
      rw [shr_off gk K' s' (by omega)] at he
      have HC := Lib.hid (fun x hx => rightS_any b s' ng K' x wr hat.out hgd.out.1 h1 (by omega) (by have := hgd.out.2; omega) (by have := hgd.out.2; omega) hx)
      have HE := Lib.hid he
      clear he heq hat hgd
      go_wp2_with (go_at_call 168; refine (HC.out _ ?_).mono ?_; rotate_left; rintro e w' ⟨rfl, k2, k3⟩)
      · go_end0
        exact ⟨rfl, by rw [HE.out]; exact k2, hfr.out.trans k3⟩
      · rfl

end Go.Proofs.YtblpcpkkjbkakaaGreatDoor
/- floatBits. -/
namespace Go.Proofs.YtblpcpkkjbkakaaGreatDoor
open Go Go.RowKit
set_option linter.unusedVariables false
set_option linter.unusedSimpArgs false

section
variable {P : Program} {a : Act} {w : World} {Q : Exit → Act → World → Prop}
/-- A scope with two labels that are jumped to forward. -/
theorem wp_scope_fwd {c r0 r1 : Code} (h0 : findLabel c 0 = some r0) (h1 : findLabel c 1 = some r1)
    (k : ∀ R : Exit → Act → World → Prop, (∀ a w, r0.wp P (Exit.noGoto Q) a w → R (.goto 0) a w) → (∀ a w, r1.wp P (Exit.noGoto Q) a w → R (.goto 1) a w) →
      (∀ e a w, Exit.noGoto Q e a w → R e a w) → c.wp P R a w) : (Code.scope c).wp P Q a w := by
  have key := k (fun e a w => match e with
    | .goto l => (l = 0 ∧ r0.wp P (Exit.noGoto Q) a w) ∨ (l = 1 ∧ r1.wp P (Exit.noGoto Q) a w)
    | e => Exit.noGoto Q e a w) (fun a w h => .inl ⟨rfl, h⟩) (fun a w h => .inr ⟨rfl, h⟩) (fun e a w h => by cases e <;> first | exact h | exact absurd h id)
  intro b k cs
  have run : ∀ (l : Nat) (rest : Code) (a : Act) (w : World), findLabel c l = some rest → rest.wp P (Exit.noGoto Q) a w →
      ∃ e a' w', Q e a' w' ∧ ∀ ks, gotoIn l (.inScope c :: k) = some ks → Arrives P (lone (b.at a ks) cs w) b k cs e a' w' := by
    intro l rest a w hf hr
    have hg : gotoIn l (.inScope c :: k) = some (.code rest :: .inScope c :: k) := by simp [gotoIn, hf]
    obtain ⟨e, a₁, w₁, hq, harr⟩ := hr b (.inScope c :: k) cs
    cases e with
    | normal => exact ⟨.normal, a₁, w₁, hq, fun ks hks => by rw [hg] at hks; cases hks; exact Steps.trans harr (.one step_inScope)⟩
    | exit id => exact ⟨.exit id, a₁, w₁, hq, fun ks hks k' hk => by rw [hg] at hks; cases hks; exact harr k' (by simp [exitTo, hk])⟩
    | goto l' => exact hq.elim
    | ret => exact ⟨_, a₁, w₁, hq, fun ks hks => by rw [hg] at hks; cases hks; exact harr⟩
    | panic ch => exact ⟨_, a₁, w₁, hq, fun ks hks => by rw [hg] at hks; cases hks; exact harr⟩
    | outgrown => exact ⟨_, a₁, w₁, hq, fun ks hks => by rw [hg] at hks; cases hks; exact harr⟩
  obtain ⟨e, a₁, w₁, hq, harr⟩ := key b (.inScope c :: k) cs
  cases e with
  | normal => exact ⟨.normal, a₁, w₁, hq, .head step_scope (Steps.trans harr (.one step_inScope))⟩
  | exit id => exact ⟨.exit id, a₁, w₁, hq, fun k' hk => .head step_scope (harr k' (by simp [exitTo, hk]))⟩
  | goto l =>
    rcases hq with ⟨rfl, hr⟩ | ⟨rfl, hr⟩
    · obtain ⟨e₂, a₂, w₂, hq₂, harr₂⟩ := run 0 r0 a₁ w₁ h0 hr
      have hg : gotoIn 0 (.inScope c :: k) = some (.code r0 :: .inScope c :: k) := by simp [gotoIn, h0]
      exact ⟨e₂, a₂, w₂, hq₂, .of_steps (.head step_scope (harr _ hg)) (harr₂ _ hg)⟩
    · obtain ⟨e₂, a₂, w₂, hq₂, harr₂⟩ := run 1 r1 a₁ w₁ h1 hr
      have hg : gotoIn 1 (.inScope c :: k) = some (.code r1 :: .inScope c :: k) := by simp [gotoIn, h1]
      exact ⟨e₂, a₂, w₂, hq₂, .of_steps (.head step_scope (harr _ hg)) (harr₂ _ hg)⟩
  | ret => exact ⟨_, a₁, w₁, hq, .of_steps (.one step_scope) harr⟩
  | panic ch => exact ⟨_, a₁, w₁, hq, .of_steps (.one step_scope) harr⟩
  | outgrown => exact ⟨_, a₁, w₁, hq, .of_steps (.one step_scope) harr⟩
end

structure GlB (gl gp : Nat × Nat) (w : World) : Prop where
  left : GlL gl w
  ptab : w.cell? ⟨12, 0, none⟩ = some (.slice (some ⟨gp.1, gp.2, none⟩) 9 9)
  pow : ∀ i, i < 9 → w.cell? ⟨gp.1, gp.2 + i, none⟩ = some (.int .i64 (pw i : Nat))
  i0 : w.cell? ⟨7, 0, none⟩ = some (.int .u64 52)
  i1 : w.cell? ⟨7, 1, none⟩ = some (.int .u64 11)
  i2 : w.cell? ⟨7, 2, none⟩ = some (.int .i64 (-1023))
def Off (b : Nat) (gl gp : Nat × Nat) : Prop := b ≠ 7 ∧ b ≠ 12 ∧ b ≠ 15 ∧ b ≠ gl.1 ∧ b ≠ gp.1
theorem DFr.cell {b : Nat} {w w' : World} (h : DFr b w w') (k i : Nat) (hk : k ≠ b) : w'.cell? ⟨k, i, none⟩ = w.cell? ⟨k, i, none⟩ := by
  simp only [World.cell?, h.1 k hk]
theorem GlB.fr {b : Nat} {gl gp : Nat × Nat} {w w' : World} (h : GlB gl gp w) (ho : Off b gl gp) (hf : DFr b w w') : GlB gl gp w' := by
  obtain ⟨o1, o2, o3, o4, o5⟩ := ho
  obtain ⟨⟨a1, a2, a3⟩, a4, a5, a6, a7, a8⟩ := h
  refine ⟨⟨?_, fun k hk => ?_, fun k hk => ?_⟩, ?_, fun i hi => ?_, ?_, ?_, ?_⟩
  · rw [hf.cell _ _ (Ne.symm o3)]; exact a1
  · rw [hf.cell _ _ (Ne.symm o4)]; exact a2 k hk
  · rw [hf.cell _ _ (Ne.symm o4)]; exact a3 k hk
  · rw [hf.cell _ _ (Ne.symm o2)]; exact a4
  · rw [hf.cell _ _ (Ne.symm o5)]; exact a5 i hi
  · rw [hf.cell _ _ (Ne.symm o1)]; exact a6
  · rw [hf.cell _ _ (Ne.symm o1)]; exact a7
  · rw [hf.cell _ _ (Ne.symm o1)]; exact a8

def infB : Nat := 2047 * 4503599627370496
def FbPost (b : Nat) (r : Option Nat) (ng : Bool) (w : World) (e : Ending) (w' : World) : Prop :=
  e = .returned (.tuple #[.int .u64 (sg ng (r.getD infB) : Nat), .bool r.isNone]) ∧ DFr b w w'

theorem and11 (E : Nat) (h : E ≤ 2047) : bits .and .i64 (E : Int) 2047 = (E : Int) := by
  have h2 : ∀ E : Fin 2048, bits .and .i64 (E.1 : Int) 2047 = (E.1 : Int) := by decide +kernel
  exact h2 ⟨E, by omega⟩
theorem and52 (m : Nat) (h : m < 18446744073709551616) : bits .and .u64 (m : Int) 4503599627370495 = ((m % 4503599627370496 : Nat) : Int) := by
  rw [show (4503599627370495 : Int) = ((2 ^ 52 - 1 : Nat) : Int) by decide, bits_and_u64_nat _ _ (by omega) (by decide), Nat.and_two_pow_sub_one_eq_mod]

def outI (M E : Nat) : Int := bits BinOp.or IntKind.u64 (bits BinOp.and IntKind.u64 (M : Int) 4503599627370495) (IntKind.u64.wrap (IntKind.u64.wrap (bits BinOp.and IntKind.i64 (E : Int) 2047) * 4503599627370496))
theorem out_eq (M E : Nat) (hM : M < 18446744073709551616) (hE : E ≤ 2047) : outI M E = ((M % 4503599627370496 + E * 4503599627370496 : Nat) : Int) := by
  unfold outI
  have h1 : IntKind.u64.wrap (IntKind.u64.wrap (E : Int) * 4503599627370496) = ((E * 4503599627370496 : Nat) : Int) := by simp only [IntKind.wrap_u64]; omega
  rw [and52 M hM, and11 E hE, h1, bits_or_u64_nat _ _ (by omega) (by omega)]
  have h2 := Nat.two_pow_add_eq_or_of_lt (i := 52) (b := M % 4503599627370496) (by omega) E
  rw [Nat.or_comm, Nat.mul_comm E, show (4503599627370496 : Nat) = 2 ^ 52 by decide, ← h2, Nat.add_comm]
theorem out_sg (x : Nat) (h : x < SW) : bits BinOp.or IntKind.u64 (x : Int) 9223372036854775808 = ((sg true x : Nat) : Int) := by
  rw [show (9223372036854775808 : Int) = ((SW : Nat) : Int) by rfl, bits_or_u64_nat _ _ (by unfold SW at h; omega) (by decide)]
  have := sg_or true x h
  rw [Nat.or_comm] at this
  rw [← this]; rfl
theorem fb_fin (b : Nat) (r : Option Nat) (w W : World) (M E : Nat) (ov : Bool) (hM : M < 18446744073709551616) (hE : E ≤ 2047) (hv : M % 4503599627370496 + E * 4503599627370496 = r.getD infB) (ho : ov = r.isNone) (hf : DFr b w W) :
    FbPost b r false w (.returned (.tuple #[.int .u64 (outI M E), .bool ov])) W ∧ FbPost b r true w (.returned (.tuple #[.int .u64 (bits BinOp.or IntKind.u64 (outI M E) 9223372036854775808), .bool ov])) W := by
  have hx : M % 4503599627370496 + E * 4503599627370496 < SW := by unfold SW; omega
  rw [out_eq M E hM hE, hv, ho]
  rw [hv] at hx
  refine ⟨⟨rfl, hf⟩, ⟨?_, hf⟩⟩
  rw [out_sg _ hx]

def FbAt (b : Nat) (ng : Bool) (s : DS) (w wx : World) : Prop := s.At ng wx b ∧ DFr b w wx

theorem shr_law (f : Nat) : ∀ (K : Nat) (s : DS), s.Good → K ≤ f → (shr f K s).Good ∧ s.dp - K - 19 ≤ (shr f K s).dp ∧ (shr f K s).dp ≤ s.dp := by
  induction f with
  | zero =>
    intro K s h hK
    have a := rsS_good K (by omega) s h
    have b := rsS_dp K (by omega) s h
    exact ⟨a, by show s.dp - K - 19 ≤ (rsS K s).dp; omega, b.2⟩
  | succ f ih =>
    intro K s h hK
    by_cases h60 : 60 < K
    · rw [shr_on f K s h60]
      have a := rsS_good 60 (by decide) s h
      have b := rsS_dp 60 (by decide) s h
      obtain ⟨c, d, e⟩ := ih (K - 60) _ a (by omega)
      exact ⟨c, by omega, by omega⟩
    · rw [shr_off _ K s (by omega)]
      have a := rsS_good K (by omega) s h
      have b := rsS_dp K (by omega) s h
      exact ⟨a, by omega, b.2⟩
theorem and_bit52 (m : Nat) (h : m < 18446744073709551616) : bits .and .u64 (m : Int) 4503599627370496 = ((m / 4503599627370496 % 2 * 4503599627370496 : Nat) : Int) := by
  rw [show (4503599627370496 : Int) = ((2 ^ 52 : Nat) : Int) by decide, bits_and_u64_nat _ _ (by omega) (by decide)]
  congr 1
  have h2 : m.testBit 52 = decide (m / 2 ^ 52 % 2 = 1) := Nat.testBit_eq_decide_div_mod_eq
  rw [show (4503599627370496 : Nat) = 2 ^ 52 by decide]
  rcases Nat.mod_two_eq_zero_or_one (m / 2 ^ 52) with h0 | h0
  · rw [h0, Nat.zero_mul]
    apply Nat.eq_of_testBit_eq
    intro i
    rw [Nat.testBit_and, Nat.testBit_two_pow, Nat.zero_testBit]
    by_cases e : 52 = i
    · subst e; rw [h2, h0]; rfl
    · rw [decide_eq_false e, Bool.and_false]
  · rw [h0, Nat.one_mul]
    apply Nat.eq_of_testBit_eq
    intro i
    rw [Nat.testBit_and, Nat.testBit_two_pow]
    by_cases e : 52 = i
    · subst e; rw [h2, h0]; rfl
    · rw [decide_eq_false e, Bool.and_false]
set_option maxRecDepth 100000 in
set_option maxHeartbeats 8000000 in
theorem floatBits_any (b : Nat) (gl gp : Nat × Nat) (s : DS) (ng : Bool) (w : World) (h : s.At ng w b) (hg : 0 < s.nd → s.Good) (hB : GlB gl gp w) (ho : Off b gl gp) :
    Calls Tryz.prog 132 #[.pointer (some ⟨b, 0, none⟩), .pointer (some ⟨7, 0, none⟩)] w (FbPost b (fbX s) ng w) := by
  obtain ⟨c0, c1, c2, -, -, -⟩ := Dec.cells h
  have i0 := hB.i0
  have i1 := hB.i1
  have i2 := hB.i2
  obtain ⟨r, hrr⟩ : ∃ r, r = fbX s := ⟨_, rfl⟩
  rw [← hrr]
  have HRR := Lib.hid hrr; clear hrr
  go_enter Tryz.func132, Tryz.ntmps132
  go_wp2_with fail
  apply wp_scope_fwd
  · exact rfl
  · exact rfl
  intro R H0r H1r HR
  have H0 := Lib.hid H0r
  have H1 := Lib.hid H1r
  clear HR H0r H1r
  let BP : Exit → Act → World → Prop := bodyPost Tryz.prog Tryz.f132 (fun _ _ => True)
  by_cases hn : s.nd = 0
  · have hr : r = some 0 := by rw [HRR.out]; unfold fbX; rw [if_pos hn]
    have HR0 := Lib.hid hr; clear hr
    rw [hn] at c0
    go_wp2_with fail
    go_step3
    refine H0.out _ _ ?_
    have hr := HR0.out
    as_aux_lemma =>
      clear H0 H1
      obtain ⟨M, hM⟩ : ∃ M : Nat, M = 0 := ⟨_, rfl⟩
      obtain ⟨E, hE⟩ : ∃ E : Nat, E = 0 := ⟨_, rfl⟩
      rw [show (Value.int IntKind.u64 0) = Value.int IntKind.u64 (M : Int) by rw [hM]; rfl, show (Value.int IntKind.i64 (-1023)) = Value.int IntKind.i64 ((E : Int) - 1023) by rw [hE]; rfl]
      have HV : RowKit.Hid (M % 4503599627370496 + E * 4503599627370496 = r.getD infB ∧ false = r.isNone) := Lib.hid (by rw [hM, hE, hr]; exact ⟨rfl, rfl⟩)
      have hE2 : E ≤ 2047 := by omega
      have hM64 : M < 18446744073709551616 := by omega
      clear hM hE hr
      go_wp2_with fail
      go_quiet (fail)
      cases ng
      · go_wp2_with fail
        rw [Exit.noGoto_ret]
        go_ret2
        refine (fb_fin b _ w _ M E _ hM64 hE2 HV.out.1 HV.out.2 ?_).1
        first | exact DFr.refl b w | exact DFr.drewN (DFr.refl b w) _ | exact DFr.drewN (DFr.drewN (DFr.refl b w) _) _ | exact DFr.drewN (DFr.drewN (DFr.drewN (DFr.refl b w) _) _) _
      · go_wp2_with fail
        go_quiet (fail)
        go_wp2_with fail
        rw [Exit.noGoto_ret]
        go_ret2
        refine (fb_fin b _ w _ M E _ hM64 hE2 HV.out.1 HV.out.2 ?_).2
        first | exact DFr.refl b w | exact DFr.drewN (DFr.refl b w) _ | exact DFr.drewN (DFr.drewN (DFr.refl b w) _) _ | exact DFr.drewN (DFr.drewN (DFr.drewN (DFr.refl b w) _) _) _
  · obtain ⟨n, hn1⟩ : ∃ n, s.nd = n + 1 := ⟨s.nd - 1, by omega⟩
    rw [hn1] at c0
    have e0 : (((n : Int) + 1) == 0) = false := beq_false_of_ne (by omega)
    have HGd := Lib.hid (hg (by omega))
    clear hg
    have hr : r = if 310 < s.dp then none else if s.dp < -330 then some 0 else fb2 (runw on1 st1 (mes1 (s, 0)) (s, 0)) := by rw [HRR.out]; unfold fbX; rw [if_neg hn]
    clear hn hn1
    obtain ⟨dp, hdp⟩ : ∃ dp, dp = s.dp := ⟨_, rfl⟩
    rw [← hdp] at c1 hr
    have HDP := Lib.hid hdp; clear hdp
    by_cases hbig : 310 < dp
    · rw [if_pos hbig] at hr
      have HR0 := Lib.hid hr; clear hr
      go_wp2_with fail
      go_step3
      refine H1.out _ _ ?_
      have hr := HR0.out
      as_aux_lemma =>
        clear H0 H1
        go_wp2_with fail
        go_quiet (fail)
        obtain ⟨M, hM⟩ : ∃ M : Nat, M = 0 := ⟨_, rfl⟩
        obtain ⟨E, hE⟩ : ∃ E : Nat, E = 2047 := ⟨_, rfl⟩
        rw [show (Value.int IntKind.u64 0) = Value.int IntKind.u64 (M : Int) by rw [hM]; rfl, show (Value.int IntKind.i64 1024) = Value.int IntKind.i64 ((E : Int) - 1023) by rw [hE]; rfl]
        have HV : RowKit.Hid (M % 4503599627370496 + E * 4503599627370496 = r.getD infB ∧ true = r.isNone) := Lib.hid (by rw [hM, hE, hr]; exact ⟨rfl, rfl⟩)
        have hE2 : E ≤ 2047 := by omega
        have hM64 : M < 18446744073709551616 := by omega
        clear hM hE hr
        go_wp2_with fail
        go_step3
        go_wp2_with fail
        go_quiet (fail)
        cases ng
        · go_wp2_with fail
          rw [Exit.noGoto_ret]
          go_ret2
          refine (fb_fin b _ w _ M E _ hM64 hE2 HV.out.1 HV.out.2 ?_).1
          first | exact DFr.refl b w | exact DFr.drewN (DFr.refl b w) _ | exact DFr.drewN (DFr.drewN (DFr.refl b w) _) _ | exact DFr.drewN (DFr.drewN (DFr.drewN (DFr.refl b w) _) _) _
        · go_wp2_with fail
          go_quiet (fail)
          go_wp2_with fail
          rw [Exit.noGoto_ret]
          go_ret2
          refine (fb_fin b _ w _ M E _ hM64 hE2 HV.out.1 HV.out.2 ?_).2
          first | exact DFr.refl b w | exact DFr.drewN (DFr.refl b w) _ | exact DFr.drewN (DFr.drewN (DFr.refl b w) _) _ | exact DFr.drewN (DFr.drewN (DFr.drewN (DFr.refl b w) _) _) _
    · rw [if_neg hbig] at hr
      by_cases hsm : dp < -330
      · rw [if_pos hsm] at hr
        have HR0 := Lib.hid hr; clear hr
        go_wp2_with fail
        go_step3
        refine H0.out _ _ ?_
        have hr := HR0.out
        as_aux_lemma =>
          clear H0 H1
          obtain ⟨M, hM⟩ : ∃ M : Nat, M = 0 := ⟨_, rfl⟩
          obtain ⟨E, hE⟩ : ∃ E : Nat, E = 0 := ⟨_, rfl⟩
          rw [show (Value.int IntKind.u64 0) = Value.int IntKind.u64 (M : Int) by rw [hM]; rfl, show (Value.int IntKind.i64 (-1023)) = Value.int IntKind.i64 ((E : Int) - 1023) by rw [hE]; rfl]
          have HV : RowKit.Hid (M % 4503599627370496 + E * 4503599627370496 = r.getD infB ∧ false = r.isNone) := Lib.hid (by rw [hM, hE, hr]; exact ⟨rfl, rfl⟩)
          have hE2 : E ≤ 2047 := by omega
          have hM64 : M < 18446744073709551616 := by omega
          clear hM hE hr
          go_wp2_with fail
          go_quiet (fail)
          cases ng
          · go_wp2_with fail
            rw [Exit.noGoto_ret]
            go_ret2
            refine (fb_fin b _ w _ M E _ hM64 hE2 HV.out.1 HV.out.2 ?_).1
            first | exact DFr.refl b w | exact DFr.drewN (DFr.refl b w) _ | exact DFr.drewN (DFr.drewN (DFr.refl b w) _) _ | exact DFr.drewN (DFr.drewN (DFr.drewN (DFr.refl b w) _) _) _
          · go_wp2_with fail
            go_quiet (fail)
            go_wp2_with fail
            rw [Exit.noGoto_ret]
            go_ret2
            refine (fb_fin b _ w _ M E _ hM64 hE2 HV.out.1 HV.out.2 ?_).2
            first | exact DFr.refl b w | exact DFr.drewN (DFr.refl b w) _ | exact DFr.drewN (DFr.drewN (DFr.refl b w) _) _ | exact DFr.drewN (DFr.drewN (DFr.drewN (DFr.refl b w) _) _) _
      · rw [if_neg hsm] at hr
        
        obtain ⟨p1, hp1⟩ : ∃ p, p = runw on1 st1 (mes1 (s, 0)) (s, 0) := ⟨_, rfl⟩
        rw [← hp1] at hr
        have hm0 : mes1 (s, 0) ≤ 700 := by
          unfold mes1
          have := HDP.out
          dsimp only
          split <;> omega
        have HB := Lib.hid (And.intro hB ho)
        have HAT : RowKit.Hid (FbAt b ng s w w) := Lib.hid ⟨h, DFr.refl b w⟩
        have HR := Lib.hid (And.intro hr hp1)
        clear hr hp1 hB ho h
        go_upto_block 0 with fail
        go_cut [6] (fun e wx => e = .int .i64 p1.2 ∧ RowKit.Hid (FbAt b ng p1.1 w wx) ∧ RowKit.Hid (p1.1.Good ∧ -330 ≤ p1.1.dp ∧ p1.1.dp ≤ 310 ∧ 0 ≤ p1.2 ∧ p1.2 ≤ 18900))
        case first =>
         as_aux_lemma =>
          go_wp2_with fail
          go_loopg [6] (mes1 (s, 0)) (fun f e wr => ∃ p : DS × Int, e = .int .i64 p.2 ∧ RowKit.Hid (FbAt b ng p.1 w wr) ∧ RowKit.Hid (p.1.Good ∧ mes1 p ≤ f ∧ p1 = runw on1 st1 f p ∧ -330 ≤ p.1.dp ∧ p.1.dp ≤ 310 ∧ 0 ≤ p.2 ∧ p.2 + 27 * mes1 p ≤ 18900))
          case atStart => exact ⟨(s, 0), rfl, HAT, Lib.hid ⟨HGd.out, Nat.le_refl _, HR.out.2, by have := HDP.out; dsimp only; omega, by have := HDP.out; dsimp only; omega, Int.le_refl 0, by dsimp only; omega⟩⟩
          case round =>
            clear c0 e0 c1 c2 i0 i1 i2 hm0 H0 H1 HR HAT
            obtain ⟨⟨t, e⟩, rfl, hat, hinv⟩ := hrel
            dsimp only at hat hinv
            have c1 := (Dec.cells hat.out.1).2.1
            have hGB := HB.out.1.fr HB.out.2 hat.out.2
            have q0 := hGB.ptab
            obtain ⟨D, hD⟩ : ∃ D, D = t.dp := ⟨_, rfl⟩
            rw [← hD] at c1
            have hb : 0 ≤ e ∧ e ≤ 18900 := by have := hinv.out; omega
            obtain ⟨hb1, hb2⟩ := hb
            by_cases hon : 0 < D
            · obtain ⟨d, hd⟩ : ∃ d : Nat, D = d := ⟨D.toNat, by omega⟩
              subst hd
              have hk := pw_law d
              have hon1 : on1 (t, e) = true := by
                unfold on1; dsimp only; rw [← hD]; simpa using hon
              have hst : st1 (t, e) = (rsS (pw d) t, e + pw d) := by unfold st1; dsimp only; rw [← hD]; rfl
              have hq : d < 9 → wr.cell? ⟨gp.1, gp.2 + d, none⟩ = some (.int .i64 (pw d : Nat)) := fun h => hGB.pow d h
              have hp9 : 9 ≤ d → pw d = 27 := fun h => by unfold pw; rw [if_neg (by omega)]
              obtain ⟨k, hkk⟩ : ∃ k, k = pw d := ⟨_, rfl⟩
              rw [← hkk] at hk hst hq hp9
              have HX := Lib.hid (And.intro hD (And.intro hon1 (And.intro hst hkk)))
              clear hD hon1 hst hkk hGB
              go_wp2_with fail
              go_quiet (fail)
              have hat1 : RowKit.Hid (FbAt b ng t w (wr.drewN nq)) := Lib.hid ⟨Dec.drew hat.out.1 nq, hat.out.2.drewN nq⟩
              obtain ⟨W1, hW1⟩ : ∃ W1, W1 = wr.drewN nq := ⟨_, rfl⟩
              rw [← hW1] at hat1 ⊢
              have c1' : W1.cell? ⟨b, 801, none⟩ = some (.int .i64 (d : Int)) := by rw [hW1]; exact c1
              have q0' : W1.cell? ⟨12, 0, none⟩ = some (.slice (some ⟨gp.1, gp.2, none⟩) 9 9) := by rw [hW1]; exact q0
              have hq' : d < 9 → W1.cell? ⟨gp.1, gp.2 + d, none⟩ = some (.int .i64 (k : Nat)) := by rw [hW1]; exact hq
              clear hW1 c1 q0 hq hat
              go_upto_if 46 with fail
              go_cut [8] (fun n wx => n = .int .i64 (k : Nat) ∧ RowKit.Hid (FbAt b ng t w wx))
              case first =>
                by_cases h9 : 9 ≤ d
                · have hp := hp9 h9
                  have HP := Lib.hid hp
                  clear hp hp9 hq'
                  go_wp2_with fail
                  go_meet
                  case rel => exact ⟨by rw [HP.out]; rfl, hat1⟩
                · have hq9 := hq' (by omega)
                  have h9' : d < 9 := by omega
                  clear hp9 hq'
                  go_wp2_with fail
                  go_quiet (fail)
                  go_wp2_with fail
                  go_meet
                  case rel => exact ⟨rfl, Lib.hid ⟨Dec.drew hat1.out.1 _, hat1.out.2.drewN _⟩⟩
              case rest =>
                obtain ⟨rfl, hat2⟩ := hcut
                clear c1' q0' hq' hp9 hat1
                obtain ⟨hk1, hk2, hk3⟩ := hk
                clear hk3
                have HC := Lib.hid (fun x hx => shiftR_any b t ng k x _ hat2.out.1 hinv.out.1 hk1 (by omega) (by have := hinv.out; omega) (by have := hinv.out; omega) hx)
                go_wp2_with (go_at_call 160; refine (HC.out _ ?_).mono ?_; rotate_left; rintro e w' ⟨rfl, k2, k3⟩)
                · have hx := hinv.out
                  have hml := mes1_lt (t, e) hx.1 HX.out.2.1
                  obtain ⟨f, rfl⟩ : ∃ f, gk = f + 1 := ⟨gk - 1, by omega⟩
                  have hrn := hx.2.2.1
                  rw [runw_on on1 st1 f (t, e) HX.out.2.1] at hrn
                  rw [HX.out.2.2.1] at hrn hml
                  rw [shr_off k k t (by omega)] at k2
                  have hgd := rsS_good k (by omega) t hx.1
                  have hdp := rsS_dp k (by omega) t hx.1
                  have hdd := HX.out.1
                  have HZ := Lib.hid (And.intro hml (And.intro hrn (And.intro hgd (And.intro hdp hdd))))
                  clear hml hrn hgd hdp hdd hx
                  go_roundg f
                  case rel =>
                    obtain ⟨z1, z2, z3, z4, z5⟩ := HZ.out
                    have hx := hinv.out
                    exact ⟨(rsS k t, e + k), rfl, Lib.hid ⟨k2, hat2.out.2.trans k3⟩, Lib.hid ⟨z3, by omega, z2, by dsimp only; omega, by dsimp only; omega, by dsimp only; omega, by dsimp only; omega⟩⟩
                  case measure => omega
                · rfl
            · have hoff : on1 (t, e) = false := by
                unfold on1; dsimp only; rw [← hD]; simpa using hon
              have hx := hinv.out
              have hp1 := hx.2.2.1
              rw [runw_off on1 st1 gk (t, e) hoff] at hp1
              have HP := Lib.hid hp1
              clear hp1 hx hoff hD hGB
              go_wp2_with fail
              go_meet
              case rel =>
                have hx := hinv.out
                rw [HP.out]
                exact ⟨rfl, hat, Lib.hid ⟨hx.1, hx.2.2.2.1, hx.2.2.2.2.1, by dsimp only; omega, by dsimp only; omega⟩⟩
        case rest =>
          obtain ⟨rfl, hat1, hin1⟩ := hcut
          clear c0 e0 c1 c2 i0 i1 i2 hm0 HAT
          obtain ⟨p2, hp2⟩ : ∃ p, p = runw on2 st2 (mes2 p1) p1 := ⟨_, rfl⟩
          have HR2 : RowKit.Hid (r = fbU p2.1 (p2.2 - 1) ∧ p2 = runw on2 st2 (mes2 p1) p1) := Lib.hid ⟨by rw [HR.out.1, hp2]; rfl, hp2⟩
          have hm2 : mes2 p1 ≤ 3310 := by
            unfold mes2
            have := hin1.out
            split <;> omega
          clear hp2 HR
          go_upto_block 2 with fail
          go_cut [6] (fun e wx => e = .int .i64 p2.2 ∧ RowKit.Hid (FbAt b ng p2.1 w wx) ∧ RowKit.Hid (p2.1.Good ∧ -330 ≤ p2.1.dp ∧ p2.1.dp ≤ 310 ∧ -90000 ≤ p2.2 ∧ p2.2 ≤ 18900))
          case first =>
           as_aux_lemma =>
            go_wp2_with fail
            go_loopg [6] (mes2 p1) (fun f e wr => ∃ p : DS × Int, e = .int .i64 p.2 ∧ RowKit.Hid (FbAt b ng p.1 w wr) ∧ RowKit.Hid (p.1.Good ∧ mes2 p ≤ f ∧ p2 = runw on2 st2 f p ∧ -330 ≤ p.1.dp ∧ p.1.dp ≤ 310 ∧ p.2 ≤ 18900 ∧ -90000 ≤ p.2 - 27 * mes2 p))
            case atStart => exact ⟨p1, rfl, hat1, Lib.hid ⟨hin1.out.1, Nat.le_refl _, HR2.out.2, by have := hin1.out; omega, by have := hin1.out; omega, by have := hin1.out; omega, by have := hin1.out; omega⟩⟩
            case round =>
              clear hm2 H0 H1 HR2 hat1 hin1
              obtain ⟨⟨t, e⟩, rfl, hat, hinv⟩ := hrel
              dsimp only at hat hinv
              have c1 := (Dec.cells hat.out.1).2.1
              have cy := (Dec.cells hat.out.1).2.2.2.2.1 0 hinv.out.1.1
              have hGB := HB.out.1.fr HB.out.2 hat.out.2
              have q0 := hGB.ptab
              obtain ⟨D, hD⟩ : ∃ D, D = t.dp := ⟨_, rfl⟩
              obtain ⟨y, hy⟩ : ∃ y, y = t.g 0 := ⟨_, rfl⟩
              rw [← hD] at c1
              rw [← hy] at cy
              have hb : -90000 ≤ e ∧ e ≤ 18900 ∧ -330 ≤ D := by have := hinv.out; omega
              obtain ⟨hb1, hb2, hb3⟩ := hb
              obtain ⟨B, hB⟩ : ∃ B, B = on2 (t, e) := ⟨_, rfl⟩
              have hon : B = (decide (D < 0) || (decide (D = 0) && decide (y < 5))) := by rw [hB]; unfold on2; dsimp only; rw [← hD, ← hy]
              have HON := Lib.hid (And.intro hon (And.intro hB (And.intro hD hy)))
              clear hon hB hD hy
              go_upto_region 18 with fail
              go_cut [80] (fun c wx => c = .bool B ∧ wr = wx)
              case first =>
                by_cases h1 : D < 0
                · have hv : B = true := by rw [HON.out.1, decide_eq_true h1]; rfl
                  have HVV := Lib.hid hv
                  clear hv
                  go_wp2_with fail
                  go_meet
                  case rel => exact ⟨by rw [HVV.out], rfl⟩
                · by_cases h2 : D = 0
                  · subst h2
                    by_cases h3 : y < 5
                    · have hv : B = true := by rw [HON.out.1, decide_eq_true h3]; rfl
                      have e3 : ((48 + (y : Int)) < 53) = True := eq_true (by omega)
                      have HVV := Lib.hid hv
                      clear hv
                      go_wp2_with fail
                      go_meet
                      case rel => exact ⟨by rw [HVV.out], rfl⟩
                    · have hv : B = false := by rw [HON.out.1, decide_eq_false h3]; rfl
                      have e3 : ((48 + (y : Int)) < 53) = False := eq_false (by omega)
                      have HVV := Lib.hid hv
                      clear hv
                      go_wp2_with fail
                      go_meet
                      case rel => exact ⟨by rw [HVV.out], rfl⟩
                  · have hv : B = false := by rw [HON.out.1, decide_eq_false h1, decide_eq_false h2]; rfl
                    have h0 : 0 < D := by omega
                    have e2 : (D == 0) = false := beq_false_of_ne h2
                    have HVV := Lib.hid hv
                    clear hv
                    go_wp2_with fail
                    go_meet
                    case rel => exact ⟨by rw [HVV.out], rfl⟩
              case rest =>
                obtain ⟨rfl, rfl⟩ := hcut
                clear cy
                cases B with
                | false =>
                  have hx := hinv.out
                  have hp2 := hx.2.2.1
                  rw [runw_off on2 st2 gk (t, e) HON.out.2.1.symm] at hp2
                  have HP := Lib.hid hp2
                  clear hp2 hx hGB
                  go_wp2_with fail
                  go_meet
                  case rel =>
                    have hx := hinv.out
                    rw [HP.out]
                    exact ⟨rfl, hat, Lib.hid ⟨hx.1, hx.2.2.2.1, hx.2.2.2.2.1, by dsimp only; omega, by dsimp only; omega⟩⟩
                | true =>
                  have hD0 : D ≤ 0 := by
                    have := HON.out.1
                    simp at this
                    omega
                  obtain ⟨d, hd⟩ : ∃ d : Nat, D = -(d : Int) := ⟨(-D).toNat, by omega⟩
                  subst hd
                  have hk := pw_law d
                  have hst : st2 (t, e) = (lsS (pw d) t, e - pw d) := by
                    unfold st2; dsimp only; rw [← HON.out.2.2.1]
                    rw [show (- -(d : Int)).toNat = d by omega]
                  have hq : d < 9 → wr.cell? ⟨gp.1, gp.2 + d, none⟩ = some (.int .i64 (pw d : Nat)) := fun h => hGB.pow d h
                  have hp9 : 9 ≤ d → pw d = 27 := fun h => by unfold pw; rw [if_neg (by omega)]
                  obtain ⟨k, hkk⟩ : ∃ k, k = pw d := ⟨_, rfl⟩
                  rw [← hkk] at hk hst hq hp9
                  have HX := Lib.hid (And.intro hst hkk)
                  clear hst hkk hGB
                  go_wp2_with fail
                  go_quiet (fail)
                  have hat1 : RowKit.Hid (FbAt b ng t w (wr.drewN nq)) := Lib.hid ⟨Dec.drew hat.out.1 nq, hat.out.2.drewN nq⟩
                  obtain ⟨W1, hW1⟩ : ∃ W1, W1 = wr.drewN nq := ⟨_, rfl⟩
                  rw [← hW1] at hat1 ⊢
                  have c1' : W1.cell? ⟨b, 801, none⟩ = some (.int .i64 (-(d : Int))) := by rw [hW1]; exact c1
                  have q0' : W1.cell? ⟨12, 0, none⟩ = some (.slice (some ⟨gp.1, gp.2, none⟩) 9 9) := by rw [hW1]; exact q0
                  have hq' : d < 9 → W1.cell? ⟨gp.1, gp.2 + d, none⟩ = some (.int .i64 (k : Nat)) := by rw [hW1]; exact hq
                  clear hW1 c1 q0 hq hat
                  go_upto_if 88 with fail
                  go_cut [9] (fun n wx => n = .int .i64 (k : Nat) ∧ RowKit.Hid (FbAt b ng t w wx))
                  case first =>
                    by_cases h9 : 9 ≤ d
                    · have hp := hp9 h9
                      have HP := Lib.hid hp
                      clear hp hp9 hq'
                      go_wp2_with fail
                      go_meet
                      case rel => exact ⟨by rw [HP.out]; rfl, hat1⟩
                    · have hq9 := hq' (by omega)
                      have h9' : d < 9 := by omega
                      clear hp9 hq'
                      go_wp2_with fail
                      go_quiet (fail)
                      go_wp2_with fail
                      go_meet
                      case rel => exact ⟨rfl, Lib.hid ⟨Dec.drew hat1.out.1 _, hat1.out.2.drewN _⟩⟩
                  case rest =>
                    obtain ⟨rfl, hat2⟩ := hcut
                    clear c1' q0' hq' hp9 hat1
                    obtain ⟨hk1, hk2, hk3⟩ := hk
                    clear hk3
                    have HC := Lib.hid (fun x hx => shiftL_any b gl t ng k x _ hat2.out.1 hinv.out.1 hk1 (by omega) (by have := hinv.out; omega) (by have := hinv.out; omega) (HB.out.1.fr HB.out.2 hat2.out.2).left hx)
                    go_wp2_with (go_at_call 160; refine (HC.out _ ?_).mono ?_; rotate_left; rintro e w' ⟨rfl, k2, k3⟩)
                    · have hx := hinv.out
                      have hml := mes2_lt (t, e) hx.1 HON.out.2.1.symm
                      obtain ⟨f, rfl⟩ : ∃ f, gk = f + 1 := ⟨gk - 1, by omega⟩
                      have hrn := hx.2.2.1
                      rw [runw_on on2 st2 f (t, e) HON.out.2.1.symm] at hrn
                      rw [HX.out.1] at hrn hml
                      have hgd := lsS_good k t hx.1
                      have hdp := lsS_dp k t hx.1
                      have hdd := HON.out.2.2.1
                      have HZ := Lib.hid (And.intro hml (And.intro hrn (And.intro hgd (And.intro hdp hdd))))
                      clear hml hrn hgd hdp hdd hx
                      go_roundg f
                      case rel =>
                        obtain ⟨z1, z2, z3, z4, z5⟩ := HZ.out
                        have hx := hinv.out
                        exact ⟨(lsS k t, e - k), rfl, Lib.hid ⟨k2, hat2.out.2.trans k3⟩, Lib.hid ⟨z3, by omega, z2, by dsimp only; omega, by dsimp only; omega, by dsimp only; omega, by dsimp only; omega⟩⟩
                      case measure => omega
                    · rfl
          case rest =>
            obtain ⟨rfl, hat2, hin2⟩ := hcut
            clear hat1 hin1 hm2
            obtain ⟨t2, x⟩ := p2
            dsimp only at hat2 hin2 HR2
            have HRX : RowKit.Hid (r = fbU t2 (x - 1)) := Lib.hid HR2.out.1
            clear HR2
            have i2 := (HB.out.1.fr HB.out.2 hat2.out.2).i2
            have hx : -90000 ≤ x ∧ x ≤ 18900 := by have := hin2.out; omega
            obtain ⟨hx1, hx2⟩ := hx
            go_upto_if 111 with fail
            go_cut [6] (fun e wx => ∃ s3 e3, e = .int .i64 e3 ∧ RowKit.Hid (FbAt b ng s3 w wx) ∧ RowKit.Hid (s3.Good ∧ -100000 ≤ s3.dp ∧ s3.dp ≤ 310 ∧ r = fbT s3 e3 ∧ -1022 ≤ e3 ∧ e3 ≤ 18900))
            case first =>
             as_aux_lemma =>
              by_cases hlow : x - 1 < -1022
              · obtain ⟨K, hK⟩ : ∃ K : Nat, K = (-1022 - (x - 1)).toNat := ⟨_, rfl⟩
                have hv := HRX.out
                have hv2 : fbU t2 (x - 1) = fbT (shr K K t2) (-1022) := by unfold fbU; rw [if_pos hlow, hK]
                rw [hv2] at hv
                have hl := shr_law K K t2 hin2.out.1 (Nat.le_refl _)
                have HV := Lib.hid (And.intro hv (And.intro hl hK))
                have hk1 : 1 ≤ K ∧ K ≤ 200000 := by omega
                have hK2 : (K : Int) = -1022 - (x - 1) := by omega
                have HC := Lib.hid (fun y hy => shiftR_any b t2 ng K y _ hat2.out.1 hin2.out.1 hk1.1 hk1.2 (by have := hin2.out; omega) (by have := hin2.out; omega) hy)
                have HK := Lib.hid hK2
                clear hv hv2 hl hK hk1 hK2 H0 H1
                go_wp2_with (go_at_call 160; refine (HC.out _ ?_).mono ?_; rotate_left; rintro e w' ⟨rfl, k2, k3⟩)
                · go_meet
                  case rel => exact ⟨shr K K t2, -1022, by congr 1; omega, Lib.hid ⟨k2, hat2.out.2.trans k3⟩, Lib.hid ⟨HV.out.2.1.1, by have := HV.out.2.1; have := hin2.out; have := HK.out; omega, by have := HV.out.2.1; have := hin2.out; omega, HV.out.1, by omega, by omega⟩⟩
                · have := HK.out
                  omega
              · have hv := HRX.out
                have hv2 : fbU t2 (x - 1) = fbT t2 (x - 1) := by unfold fbU; rw [if_neg hlow]
                rw [hv2] at hv
                have HV := Lib.hid hv
                clear hv hv2 H0 H1
                go_wp2_with fail
                go_meet
                case rel => exact ⟨t2, x - 1, rfl, hat2, Lib.hid ⟨hin2.out.1, by have := hin2.out; omega, by have := hin2.out; omega, HV.out, by omega, by omega⟩⟩
            case rest =>
              obtain ⟨s3, e3, rfl, hat3, hin3⟩ := hcut
              clear HRX i2 hat2 hin2
              obtain ⟨E3, hE3⟩ : ∃ E3 : Nat, e3 = (E3 : Int) - 1023 := ⟨(e3 + 1023).toNat, by have := hin3.out; omega⟩
              subst hE3
              have hE31 : 1 ≤ E3 ∧ E3 ≤ 20000 := by have := hin3.out; omega
              obtain ⟨hE3a, hE3b⟩ := hE31
              have hGB := HB.out.1.fr HB.out.2 hat3.out.2
              have i0 := hGB.i0
              have i1 := hGB.i1
              have i2 := hGB.i2
              have c2 := (Dec.cells hat3.out.1).2.2.1
              clear hGB
              go_wp2_with fail
              go_quiet (fail)
              have hat4 : RowKit.Hid (FbAt b ng s3 w (wc.drewN nq)) := Lib.hid ⟨Dec.drew hat3.out.1 nq, hat3.out.2.drewN nq⟩
              obtain ⟨W4, hW4⟩ : ∃ W4, W4 = wc.drewN nq := ⟨_, rfl⟩
              rw [← hW4] at hat4 ⊢
              have i0' : W4.cell? ⟨7, 0, none⟩ = some (.int .u64 52) := by rw [hW4]; exact i0
              have i1' : W4.cell? ⟨7, 1, none⟩ = some (.int .u64 11) := by rw [hW4]; exact i1
              have i2' : W4.cell? ⟨7, 2, none⟩ = some (.int .i64 (-1023)) := by rw [hW4]; exact i2
              have c2' : W4.cell? ⟨b, 802, none⟩ = some (.bool ng) := by rw [hW4]; exact c2
              clear hW4 i0 i1 i2 c2 hat3
              by_cases hov : 2047 ≤ E3
              · have hr : r = none := by
                  rw [hin3.out.2.2.2.1]
                  unfold fbT
                  rw [if_pos (by omega)]
                have HR0 := Lib.hid hr; clear hr
                go_wp2_with fail
                go_step3
                refine H1.out _ _ ?_
                have hr := HR0.out
                as_aux_lemma =>
                  clear H0 H1
                  go_wp2_with fail
                  go_quiet (fail)
                  obtain ⟨M, hM⟩ : ∃ M : Nat, M = 0 := ⟨_, rfl⟩
                  obtain ⟨E, hE⟩ : ∃ E : Nat, E = 2047 := ⟨_, rfl⟩
                  rw [show (Value.int IntKind.u64 0) = Value.int IntKind.u64 (M : Int) by rw [hM]; rfl, show (Value.int IntKind.i64 1024) = Value.int IntKind.i64 ((E : Int) - 1023) by rw [hE]; rfl]
                  have HV : RowKit.Hid (M % 4503599627370496 + E * 4503599627370496 = r.getD infB ∧ true = r.isNone) := Lib.hid (by rw [hM, hE, hr]; exact ⟨rfl, rfl⟩)
                  have hE2 : E ≤ 2047 := by omega
                  have hM64 : M < 18446744073709551616 := by omega
                  clear hM hE hr
                  go_wp2_with fail
                  go_step3
                  go_wp2_with fail
                  go_quiet (fail)
                  cases ng
                  · go_wp2_with fail
                    rw [Exit.noGoto_ret]
                    go_ret2
                    refine (fb_fin b _ w _ M E _ hM64 hE2 HV.out.1 HV.out.2 ?_).1
                    first | exact hat4.out.2 | exact DFr.drewN (hat4.out.2) _ | exact DFr.drewN (DFr.drewN (hat4.out.2) _) _ | exact DFr.drewN (DFr.drewN (DFr.drewN (hat4.out.2) _) _) _
                  · go_wp2_with fail
                    go_quiet (fail)
                    go_wp2_with fail
                    rw [Exit.noGoto_ret]
                    go_ret2
                    refine (fb_fin b _ w _ M E _ hM64 hE2 HV.out.1 HV.out.2 ?_).2
                    first | exact hat4.out.2 | exact DFr.drewN (hat4.out.2) _ | exact DFr.drewN (DFr.drewN (hat4.out.2) _) _ | exact DFr.drewN (DFr.drewN (DFr.drewN (hat4.out.2) _) _) _
              · have hr : r = (fbM (riX (lsS 53 s3)) ((E3 : Int) - 1023)).map (fun q => fbE q.1 q.2) := by
                  rw [hin3.out.2.2.2.1]
                  unfold fbT
                  rw [if_neg (by omega)]
                have HRX := Lib.hid hr
                clear hr
                have HC := Lib.hid (fun y hy => shiftL_any b gl s3 ng 53 y _ hat4.out.1 hin3.out.1 (by decide) (by decide) (by have := hin3.out; omega) (by have := hin3.out; omega) (HB.out.1.fr HB.out.2 hat4.out.2).left hy)
                have HGD := Lib.hid (And.intro (lsS_good 53 s3 hin3.out.1) (And.intro (lsS_dp 53 s3 hin3.out.1) hin3.out.2))
                go_upto_region 31 with fail
                go_cut [] (fun wx => RowKit.Hid (FbAt b ng (lsS 53 s3) w wx))
                case first =>
                  clear H0 H1
                  go_wp2_with (go_at_call 160; refine (HC.out _ ?_).mono ?_; rotate_left; rintro e w' ⟨rfl, k2, k3⟩)
                  · go_meet
                    case rel => exact Lib.hid ⟨k2, hat4.out.2.trans k3⟩
                  · rfl
                case rest =>
                  have hat5 := hcut
                  clear hcut HC hat4 i0' i1' i2' c2' hin3
                  obtain ⟨s4, hs4⟩ : ∃ s4, s4 = lsS 53 s3 := ⟨_, rfl⟩
                  rw [← hs4] at hat5 HGD HRX
                  have hin5 := HGD.out
                  obtain ⟨m, hm⟩ : ∃ m, m = riX s4 := ⟨_, rfl⟩
                  have hri : riF s4.nd s4.g s4.dp s4.tr = (m : Int) := by
                    rw [hm]
                    unfold riX
                    have := riF_in s4.nd s4.g s4.dp s4.tr
                    omega
                  have hm64 : m < 18446744073709551616 := by
                    have := riF_in s4.nd s4.g s4.dp s4.tr
                    omega
                  rw [← hm] at HRX
                  have HC := Lib.hid (hri ▸ rounded_any b s4.nd s4.g s4.dp ng s4.tr wc hat5.out.1 (by omega))
                  clear hri hm hin5 HGD hs4
                  have hGB := HB.out.1.fr HB.out.2 hat5.out.2
                  have i0 := hGB.i0
                  have i1 := hGB.i1
                  have i2 := hGB.i2
                  have c2 := (Dec.cells hat5.out.1).2.2.1
                  clear hGB
                  go_upto_region 32 with fail
                  go_cut [7] (fun v wx => v = .int .u64 (m : Nat) ∧ wc = wx)
                  case first =>
                    clear H0 H1
                    go_wp2_with (go_at_call 161; refine HC.out.mono ?_; rintro e w' ⟨rfl, rfl⟩)
                    go_meet
                    case rel => exact ⟨rfl, rfl⟩
                  case rest =>
                    obtain ⟨rfl, rfl⟩ := hcut
                    clear HC
                    have hat6 := hat5
                    clear hat5
                    by_cases h53 : m = 9007199254740992
                    · subst h53
                      by_cases hov2 : 2046 ≤ E3
                      · have hr : r = none := by
                          rw [HRX.out]
                          unfold fbM
                          rw [if_pos rfl, if_pos (by omega)]
                          rfl
                        have HR0 := Lib.hid hr; clear hr
                        have h2046 : E3 = 2046 := by omega
                        subst h2046
                        go_wp2_with fail
                        go_quiet (fail)
                        go_wp2_with fail
                        go_step3
                        refine H1.out _ _ ?_
                        have hr := HR0.out
                        as_aux_lemma =>
                          clear H0 H1
                          go_wp2_with fail
                          go_quiet (fail)
                          obtain ⟨M, hM⟩ : ∃ M : Nat, M = 0 := ⟨_, rfl⟩
                          obtain ⟨E, hE⟩ : ∃ E : Nat, E = 2047 := ⟨_, rfl⟩
                          rw [show (Value.int IntKind.u64 0) = Value.int IntKind.u64 (M : Int) by rw [hM]; rfl, show (Value.int IntKind.i64 1024) = Value.int IntKind.i64 ((E : Int) - 1023) by rw [hE]; rfl]
                          have HV : RowKit.Hid (M % 4503599627370496 + E * 4503599627370496 = r.getD infB ∧ true = r.isNone) := Lib.hid (by rw [hM, hE, hr]; exact ⟨rfl, rfl⟩)
                          have hE2 : E ≤ 2047 := by omega
                          have hM64 : M < 18446744073709551616 := by omega
                          clear hM hE hr
                          go_wp2_with fail
                          go_step3
                          go_wp2_with fail
                          go_quiet (fail)
                          cases ng
                          · go_wp2_with fail
                            rw [Exit.noGoto_ret]
                            go_ret2
                            refine (fb_fin b _ w _ M E _ hM64 hE2 HV.out.1 HV.out.2 ?_).1
                            first | exact hat6.out.2 | exact DFr.drewN (hat6.out.2) _ | exact DFr.drewN (DFr.drewN (hat6.out.2) _) _ | exact DFr.drewN (DFr.drewN (DFr.drewN (hat6.out.2) _) _) _
                          · go_wp2_with fail
                            go_quiet (fail)
                            go_wp2_with fail
                            rw [Exit.noGoto_ret]
                            go_ret2
                            refine (fb_fin b _ w _ M E _ hM64 hE2 HV.out.1 HV.out.2 ?_).2
                            first | exact hat6.out.2 | exact DFr.drewN (hat6.out.2) _ | exact DFr.drewN (DFr.drewN (hat6.out.2) _) _ | exact DFr.drewN (DFr.drewN (DFr.drewN (hat6.out.2) _) _) _
                      · obtain ⟨E, hE⟩ : ∃ E : Nat, E = E3 + 1 := ⟨_, rfl⟩
                        have hr : r = some (E * 4503599627370496) := by
                          rw [HRX.out]
                          unfold fbM
                          rw [if_pos rfl, if_neg (by omega)]
                          show some (fbE 4503599627370496 ((E3 : Int) - 1023 + 1)) = _
                          unfold fbE
                          rw [if_neg (by decide), show ((E3 : Int) - 1023 + 1 + 1023).toNat = E by omega]
                          congr 1
                          omega
                        have HR0 := Lib.hid hr; clear hr
                        have hee : (E3 : Int) - 1023 + 1 = (E : Int) - 1023 := by omega
                        have hb52 : bits .and .u64 4503599627370496 4503599627370496 = 4503599627370496 := by decide +kernel
                        have hE2 : E ≤ 2046 := by omega
                        have hE1 : 1 ≤ E := by omega
                        clear hE
                        go_wp2_with fail
                        go_quiet (fail)
                        go_wp2_with fail
                        go_step3
                        refine H0.out _ _ ?_
                        have hr := HR0.out
                        as_aux_lemma =>
                          clear H0 H1 hee hb52
                          obtain ⟨M, hM⟩ : ∃ M : Nat, M = 4503599627370496 := ⟨_, rfl⟩
                          rw [show (Value.int IntKind.u64 4503599627370496) = Value.int IntKind.u64 (M : Int) by rw [hM]; rfl]
                          have HV : RowKit.Hid (M % 4503599627370496 + E * 4503599627370496 = r.getD infB ∧ false = r.isNone) := Lib.hid ⟨by rw [hM, hr, Option.getD_some]; omega, by rw [hr, Option.isNone_some]⟩
                          have hE2 : E ≤ 2047 := by omega
                          have hM64 : M < 18446744073709551616 := by omega
                          clear hM hr
                          go_wp2_with fail
                          go_quiet (fail)
                          cases ng
                          · go_wp2_with fail
                            rw [Exit.noGoto_ret]
                            go_ret2
                            refine (fb_fin b _ w _ M E _ hM64 hE2 HV.out.1 HV.out.2 ?_).1
                            first | exact hat6.out.2 | exact DFr.drewN (hat6.out.2) _ | exact DFr.drewN (DFr.drewN (hat6.out.2) _) _ | exact DFr.drewN (DFr.drewN (DFr.drewN (hat6.out.2) _) _) _
                          · go_wp2_with fail
                            go_quiet (fail)
                            go_wp2_with fail
                            rw [Exit.noGoto_ret]
                            go_ret2
                            refine (fb_fin b _ w _ M E _ hM64 hE2 HV.out.1 HV.out.2 ?_).2
                            first | exact hat6.out.2 | exact DFr.drewN (hat6.out.2) _ | exact DFr.drewN (DFr.drewN (hat6.out.2) _) _ | exact DFr.drewN (DFr.drewN (DFr.drewN (hat6.out.2) _) _) _
                    · have h53b : ((m : Int) == 9007199254740992) = false := beq_false_of_ne (by omega)
                      obtain ⟨M, hM⟩ : ∃ M, M = m := ⟨_, rfl⟩
                      rw [← hM] at h53b hm64 HRX ⊢
                      have hr : r = some (fbE M ((E3 : Int) - 1023)) := by
                        rw [HRX.out]
                        unfold fbM
                        rw [if_neg (by rw [hM]; exact h53)]
                        rfl
                      clear h53 hM HRX
                      have hand := and_bit52 M hm64
                      have hM64 := hm64
                      rcases Nat.mod_two_eq_zero_or_one (M / 4503599627370496) with hq | hq
                      · rw [hq] at hand
                        have hand2 : bits .and .u64 (M : Int) 4503599627370496 = 0 := hand
                        have hr2 : r = some (M % 4503599627370496) := by
                          rw [hr]; unfold fbE; rw [if_pos hq]; simp
                        have HR0 := Lib.hid hr2
                        clear hr hr2 hand hq hm64
                        go_wp2_with fail
                        go_step3
                        refine H0.out _ _ ?_
                        have hr := HR0.out
                        as_aux_lemma =>
                          clear H0 H1 hand2 h53b
                          obtain ⟨E, hE⟩ : ∃ E : Nat, E = 0 := ⟨_, rfl⟩
                          rw [show (Value.int IntKind.i64 (-1023)) = Value.int IntKind.i64 ((E : Int) - 1023) by rw [hE]; rfl]
                          have HV : RowKit.Hid (M % 4503599627370496 + E * 4503599627370496 = r.getD infB ∧ false = r.isNone) := Lib.hid ⟨by rw [hE, hr, Option.getD_some]; omega, by rw [hr, Option.isNone_some]⟩
                          have hE2 : E ≤ 2047 := by omega
                          clear hE hr
                          go_wp2_with fail
                          go_quiet (fail)
                          cases ng
                          · go_wp2_with fail
                            rw [Exit.noGoto_ret]
                            go_ret2
                            refine (fb_fin b _ w _ M E _ hM64 hE2 HV.out.1 HV.out.2 ?_).1
                            first | exact hat6.out.2 | exact DFr.drewN (hat6.out.2) _ | exact DFr.drewN (DFr.drewN (hat6.out.2) _) _ | exact DFr.drewN (DFr.drewN (DFr.drewN (hat6.out.2) _) _) _
                          · go_wp2_with fail
                            go_quiet (fail)
                            go_wp2_with fail
                            rw [Exit.noGoto_ret]
                            go_ret2
                            refine (fb_fin b _ w _ M E _ hM64 hE2 HV.out.1 HV.out.2 ?_).2
                            first | exact hat6.out.2 | exact DFr.drewN (hat6.out.2) _ | exact DFr.drewN (DFr.drewN (hat6.out.2) _) _ | exact DFr.drewN (DFr.drewN (DFr.drewN (hat6.out.2) _) _) _
                      · rw [hq] at hand
                        have hand2 : bits .and .u64 (M : Int) 4503599627370496 = 4503599627370496 := hand
                        have hr2 : r = some (M % 4503599627370496 + E3 * 4503599627370496) := by
                          rw [hr]; unfold fbE; rw [if_neg (by omega), show ((E3 : Int) - 1023 + 1023).toNat = E3 by omega]
                        have HR0 := Lib.hid hr2
                        clear hr hr2 hand hq hm64
                        go_wp2_with fail
                        go_step3
                        refine H0.out _ _ ?_
                        have hr := HR0.out
                        as_aux_lemma =>
                          clear H0 H1 hand2 h53b
                          obtain ⟨E, hE⟩ : ∃ E, E = E3 := ⟨_, rfl⟩
                          rw [← hE]
                          have HV : RowKit.Hid (M % 4503599627370496 + E * 4503599627370496 = r.getD infB ∧ false = r.isNone) := Lib.hid ⟨by rw [hE, hr, Option.getD_some], by rw [hr, Option.isNone_some]⟩
                          have hE2 : E ≤ 2047 := by omega
                          clear hE hr
                          go_wp2_with fail
                          go_quiet (fail)
                          cases ng
                          · go_wp2_with fail
                            rw [Exit.noGoto_ret]
                            go_ret2
                            refine (fb_fin b _ w _ M E _ hM64 hE2 HV.out.1 HV.out.2 ?_).1
                            first | exact hat6.out.2 | exact DFr.drewN (hat6.out.2) _ | exact DFr.drewN (DFr.drewN (hat6.out.2) _) _ | exact DFr.drewN (DFr.drewN (DFr.drewN (hat6.out.2) _) _) _
                          · go_wp2_with fail
                            go_quiet (fail)
                            go_wp2_with fail
                            rw [Exit.noGoto_ret]
                            go_ret2
                            refine (fb_fin b _ w _ M E _ hM64 hE2 HV.out.1 HV.out.2 ?_).2
                            first | exact hat6.out.2 | exact DFr.drewN (hat6.out.2) _ | exact DFr.drewN (DFr.drewN (hat6.out.2) _) _ | exact DFr.drewN (DFr.drewN (DFr.drewN (hat6.out.2) _) _) _

end Go.Proofs.YtblpcpkkjbkakaaGreatDoor
