/- Lemmas towards the seat's laws: 3 texts joined. -/
import Derived.Test.YtblpcpkkjbkakaaGreatDoorY24
import Derived.Test.YtblpcpkkjbkakaaGreatDoorY05
import Derived.WalkMore
import Derived.Test.YtblpcpkkjbkakaaGreatDoorY03
/- special: the words of floats. -/
namespace Go.Proofs.YtblpcpkkjbkakaaGreatDoor
open Go Go.RowKit
set_option linter.unusedVariables false
set_option linter.unusedSimpArgs false

/-- The common beginning's length. -/
theorem cpl_any (s p : ByteArray) (w : World) (hs : s.size ≤ 100000) (hp : p.size ≤ 100000) :
    Calls Tryz.prog 147 #[.string s, .string p] w (fun e w' => (∃ n : Nat, n ≤ p.size ∧ e = .returned (.int .i64 n)) ∧ w = w') := by
  go_enter Tryz.func147, Tryz.ntmps147
  obtain ⟨M, hM⟩ : ∃ M : Nat, min (p.size : Int) (s.size : Int) = M := ⟨min p.size s.size, by omega⟩
  have hM1 : M ≤ p.size := by omega
  have hM2 : M ≤ s.size := by omega
  go_wp2_with fail
  go_loop [6] (fun i => ∃ k : Nat, k ≤ M ∧ i = .int .i64 k) (fun i => M - (intOf i).toNat)
  case atStart => exact ⟨0, by omega, rfl⟩
  case round =>
    obtain ⟨k, hk, rfl⟩ := hrel
    by_cases hlt : k < M
    · have h1 : k < s.size := by omega
      have h2 : k < p.size := by omega
      go_wp2
      all_goals first | (go_ret; exact ⟨⟨k, by omega, rfl⟩, rfl⟩) | skip
      all_goals go_round
      all_goals first | (case rel => exact ⟨k + 1, by omega, by go_num⟩) | skip
      all_goals first | (case measure => simp [intOf]; omega) | skip
    · go_wp2
      go_ret
      exact ⟨⟨M, hM1, rfl⟩, rfl⟩

theorem cpl_zero (s p : ByteArray) (w : World) (hs : s.size ≤ 100000) (hp : p.size ≤ 100000) (hp0 : 0 < p.size)
    (h : ∀ h0 : 0 < s.size, ((s[0].toNat : Int) < 65 ∨ 90 < (s[0].toNat : Int)) ∧ (s[0].toNat : Int) ≠ (p[0].toNat : Int)) :
    Calls Tryz.prog 147 #[.string s, .string p] w (fun e w' => e = .returned (.int .i64 0) ∧ w = w') := by
  have HH := Lib.hid h; clear h
  go_enter Tryz.func147, Tryz.ntmps147
  obtain ⟨M, hM⟩ : ∃ M : Nat, min (p.size : Int) (s.size : Int) = M := ⟨min p.size s.size, by omega⟩
  have hM1 : M ≤ p.size := by omega
  have hM2 : M ≤ s.size := by omega
  have hM3 : s.size = 0 → M = 0 := by omega
  go_wp2_with fail
  go_loop [6] (fun i => i = .int .i64 0) (fun i => 0)
  case atStart => rfl
  case round =>
    subst hrel
    by_cases hlt : 0 < M
    · have h1 : 0 < s.size := by omega
      obtain ⟨ha, hb⟩ := HH.out h1
      have hn : ((s[0].toNat : Int) == (p[0].toNat : Int)) = false := beq_false_of_ne hb
      have hn2 : ((s[0].toNat : Int) != (p[0].toNat : Int)) = true := by simpa using hb
      rcases ha with ha | ha
      · go_wp2
        go_ret
        exact ⟨rfl, rfl⟩
      · go_wp2
        go_ret
        exact ⟨rfl, rfl⟩
    · have hM0 : M = 0 := by omega
      subst hM0
      go_wp2
      go_ret
      exact ⟨rfl, rfl⟩

def specialWord (f : Nat) : Prop := f = 9218868437227405312 ∨ f = 18442240474082181120 ∨ f = 9221120237041090561
theorem inf_any (k : Int) (w : World) : Calls Tryz.prog 148 #[.int .i64 k] w (fun e w' => (∃ f, specialWord f ∧ e = .returned (.float .f64 f)) ∧ w = w') := by
  have h134 := call134
  go_enter Tryz.func148, Tryz.ntmps148
  by_cases h : 0 ≤ k
  · go_wp2_with fail
    go_ret
    exact ⟨⟨_, .inl rfl, rfl⟩, rfl⟩
  · go_wp2_with fail
    go_ret
    exact ⟨⟨_, .inr (.inl rfl), rfl⟩, rfl⟩
theorem nan_any (w : World) : Calls Tryz.prog 149 #[] w (fun e w' => (∃ f, specialWord f ∧ e = .returned (.float .f64 f)) ∧ w = w') := by
  have h134 := call134
  go_enter Tryz.func149, Tryz.ntmps149
  go_wp2_with fail
  go_ret
  exact ⟨⟨_, .inr (.inr rfl), rfl⟩, rfl⟩

theorem results_tmp3 {fn : Func} {a b c : Tmp} (h : fn.results = #[.tmp a, .tmp b, .tmp c]) (tmps : Array Value) (P : Program) (w : World) :
    (results fn tmps).run P w = .ok (.tuple #[tmps.getD a undef, tmps.getD b undef, tmps.getD c undef]) w := by
  simp [results, h]
def SpPost (w : World) (e : Ending) (w' : World) : Prop :=
  (∃ f n ok, e = .returned (.tuple #[.float .f64 f, .int .i64 n, .bool ok]) ∧ (ok = true → specialWord f) ∧ 0 ≤ n ∧ n ≤ 100) ∧ w = w'

set_option maxRecDepth 100000 in
set_option maxHeartbeats 2000000 in
theorem special_any (s : ByteArray) (w : World) (hs : s.size ≤ 100000) (h0 : 0 < s.size) : Calls Tryz.prog 124 #[.string s] w (SpPost w) := by
  have hemp : (s = ByteArray.empty) = False := eq_false (fun e => by rw [e] at h0; exact absurd h0 (by decide))
  go_enter Tryz.func124, Tryz.ntmps124
  have hext : ∀ k, (s.extract k s.size).size ≤ 100000 := fun k => by rw [size_ext]; omega
  have i1 := fun (t : ByteArray) (W : World) (h : t.size ≤ 100000) => cpl_any t ⟨#[105, 110, 102, 105, 110, 105, 116, 121]⟩ W h (by decide)
  have i2 := fun (t : ByteArray) (W : World) (h : t.size ≤ 100000) => cpl_any t ⟨#[110, 97, 110]⟩ W h (by decide)
  have I1 := Lib.hid i1; clear i1
  have I2 := Lib.hid i2; clear i2
  have HX := Lib.hid hext; clear hext
  have HS := Lib.hid hs
  by_cases c1 : s[0] = 43
  · have e1 : ((s[0].toNat : Int) == 43) = true := by rw [c1]; rfl
    have e2 : ((s[0].toNat : Int) == 45) = false := by rw [c1]; rfl
    clear c1
    go_upto_region 17 with (go_at_call 147; refine (I1.out _ _ (HX.out 1)).mono ?_; rintro e w' ⟨⟨n, hn, rfl⟩, rfl⟩)
    have hn8 : n ≤ 8 := hn
    have hn9 : n = 0 ∨ n = 1 ∨ n = 2 ∨ n = 3 ∨ n = 4 ∨ n = 5 ∨ n = 6 ∨ n = 7 ∨ n = 8 := by omega
    clear hn hn8
    rcases hn9 with rfl | rfl | rfl | rfl | rfl | rfl | rfl | rfl | rfl
    all_goals go_wp2_with (go_at_call 148; refine (inf_any _ _).mono ?_; rintro e w' ⟨⟨f, hf, rfl⟩, rfl⟩)
    all_goals first | exact bodyPost_ret_by (results_tmp3 rfl _ _ _) rfl ⟨⟨0, 0, false, rfl, (fun h => by cases h), by omega, by omega⟩, rfl⟩ | exact bodyPost_ret_by (results_tmp3 rfl _ _ _) rfl ⟨⟨f, _, true, rfl, fun _ => hf, by omega, by omega⟩, rfl⟩
  · have d1 : ((s[0].toNat : Int) == 43) = false := beq_false_of_ne (fun e => c1 ((byte_eq _ _).2 e))
    by_cases c2 : s[0] = 45
    · have e2 : ((s[0].toNat : Int) == 45) = true := by rw [c2]; rfl
      clear c1 c2
      go_upto_region 17 with (go_at_call 147; refine (I1.out _ _ (HX.out 1)).mono ?_; rintro e w' ⟨⟨n, hn, rfl⟩, rfl⟩)
      have hn8 : n ≤ 8 := hn
      have hn9 : n = 0 ∨ n = 1 ∨ n = 2 ∨ n = 3 ∨ n = 4 ∨ n = 5 ∨ n = 6 ∨ n = 7 ∨ n = 8 := by omega
      clear hn hn8
      rcases hn9 with rfl | rfl | rfl | rfl | rfl | rfl | rfl | rfl | rfl
      all_goals go_wp2_with (go_at_call 148; refine (inf_any _ _).mono ?_; rintro e w' ⟨⟨f, hf, rfl⟩, rfl⟩)
      all_goals first | exact bodyPost_ret_by (results_tmp3 rfl _ _ _) rfl ⟨⟨0, 0, false, rfl, (fun h => by cases h), by omega, by omega⟩, rfl⟩ | exact bodyPost_ret_by (results_tmp3 rfl _ _ _) rfl ⟨⟨f, _, true, rfl, fun _ => hf, by omega, by omega⟩, rfl⟩
    · have d2 : ((s[0].toNat : Int) == 45) = false := beq_false_of_ne (fun e => c2 ((byte_eq _ _).2 e))
      by_cases c3 : s[0] = 105
      · have e3 : ((s[0].toNat : Int) == 105) = true := by rw [c3]; rfl
        clear c1 c2 c3
        go_upto_region 17 with (go_at_call 147; refine (I1.out _ _ HS.out).mono ?_; rintro e w' ⟨⟨n, hn, rfl⟩, rfl⟩)
        have hn8 : n ≤ 8 := hn
        have hn9 : n = 0 ∨ n = 1 ∨ n = 2 ∨ n = 3 ∨ n = 4 ∨ n = 5 ∨ n = 6 ∨ n = 7 ∨ n = 8 := by omega
        clear hn hn8
        rcases hn9 with rfl | rfl | rfl | rfl | rfl | rfl | rfl | rfl | rfl
        all_goals go_wp2_with (go_at_call 148; refine (inf_any _ _).mono ?_; rintro e w' ⟨⟨f, hf, rfl⟩, rfl⟩)
        all_goals first | exact bodyPost_ret_by (results_tmp3 rfl _ _ _) rfl ⟨⟨0, 0, false, rfl, (fun h => by cases h), by omega, by omega⟩, rfl⟩ | exact bodyPost_ret_by (results_tmp3 rfl _ _ _) rfl ⟨⟨f, _, true, rfl, fun _ => hf, by omega, by omega⟩, rfl⟩
      · have d3 : ((s[0].toNat : Int) == 105) = false := beq_false_of_ne (fun e => c3 ((byte_eq _ _).2 e))
        by_cases c4 : s[0] = 73
        · have e4 : ((s[0].toNat : Int) == 73) = true := by rw [c4]; rfl
          clear c1 c2 c3 c4
          go_upto_region 17 with (go_at_call 147; refine (I1.out _ _ HS.out).mono ?_; rintro e w' ⟨⟨n, hn, rfl⟩, rfl⟩)
          have hn8 : n ≤ 8 := hn
          have hn9 : n = 0 ∨ n = 1 ∨ n = 2 ∨ n = 3 ∨ n = 4 ∨ n = 5 ∨ n = 6 ∨ n = 7 ∨ n = 8 := by omega
          clear hn hn8
          rcases hn9 with rfl | rfl | rfl | rfl | rfl | rfl | rfl | rfl | rfl
          all_goals go_wp2_with (go_at_call 148; refine (inf_any _ _).mono ?_; rintro e w' ⟨⟨f, hf, rfl⟩, rfl⟩)
          all_goals first | exact bodyPost_ret_by (results_tmp3 rfl _ _ _) rfl ⟨⟨0, 0, false, rfl, (fun h => by cases h), by omega, by omega⟩, rfl⟩ | exact bodyPost_ret_by (results_tmp3 rfl _ _ _) rfl ⟨⟨f, _, true, rfl, fun _ => hf, by omega, by omega⟩, rfl⟩
        · have d4 : ((s[0].toNat : Int) == 73) = false := beq_false_of_ne (fun e => c4 ((byte_eq _ _).2 e))
          have hor : ((s[0].toNat : Int) == 110) = true ∨ (((s[0].toNat : Int) == 110) = false ∧ ((s[0].toNat : Int) == 78) = true) ∨ (((s[0].toNat : Int) == 110) = false ∧ ((s[0].toNat : Int) == 78) = false) := by
            cases ((s[0].toNat : Int) == 110) <;> cases ((s[0].toNat : Int) == 78) <;> simp
          clear c1 c2 c3 c4
          rcases hor with e5 | ⟨d5, e6⟩ | ⟨d5, d6⟩
          · go_wp2_with fail
            refine (I2.out s _ HS.out).mono ?_
            rintro e w' ⟨⟨n, hn, rfl⟩, rfl⟩
            have hn3 : n ≤ 3 := hn
            have hn9 : n = 0 ∨ n = 1 ∨ n = 2 ∨ n = 3 := by omega
            clear hn hn3
            rcases hn9 with rfl | rfl | rfl | rfl
            all_goals go_wp2_with (go_at_call 149; refine (nan_any _).mono ?_; rintro e w' ⟨⟨f, hf, rfl⟩, rfl⟩)
            all_goals first | exact bodyPost_ret_by (results_tmp3 rfl _ _ _) rfl ⟨⟨0, 0, false, rfl, (fun h => by cases h), by omega, by omega⟩, rfl⟩ | exact bodyPost_ret_by (results_tmp3 rfl _ _ _) rfl ⟨⟨f, _, true, rfl, fun _ => hf, by omega, by omega⟩, rfl⟩
          · go_wp2_with fail
            refine (I2.out s _ HS.out).mono ?_
            rintro e w' ⟨⟨n, hn, rfl⟩, rfl⟩
            have hn3 : n ≤ 3 := hn
            have hn9 : n = 0 ∨ n = 1 ∨ n = 2 ∨ n = 3 := by omega
            clear hn hn3
            rcases hn9 with rfl | rfl | rfl | rfl
            all_goals go_wp2_with (go_at_call 149; refine (nan_any _).mono ?_; rintro e w' ⟨⟨f, hf, rfl⟩, rfl⟩)
            all_goals first | exact bodyPost_ret_by (results_tmp3 rfl _ _ _) rfl ⟨⟨0, 0, false, rfl, (fun h => by cases h), by omega, by omega⟩, rfl⟩ | exact bodyPost_ret_by (results_tmp3 rfl _ _ _) rfl ⟨⟨f, _, true, rfl, fun _ => hf, by omega, by omega⟩, rfl⟩
          · go_wp2_with fail
            refine bodyPost_ret_by (results_tmp3 rfl _ _ _) rfl ⟨⟨0, 0, false, rfl, (fun h => by cases h), by omega, by omega⟩, rfl⟩

set_option maxRecDepth 100000 in
set_option maxHeartbeats 2000000 in
/-- A decimal, with a sign or without, is no special word. -/
theorem special_dec (s : ByteArray) (neg : Bool) (i0 : Nat) (w : World) (hs : s.size ≤ 100000) (hlt : i0 < s.size)
    (hn : (neg = true ∧ i0 = 1 ∧ ∃ h : 0 < s.size, s[0] = 45) ∨ (neg = false ∧ i0 = 0)) (hd : isDig s[i0] = true ∨ s[i0] = 46) :
    Calls Tryz.prog 124 #[.string s] w (fun e w' => e = .returned (.tuple #[.float .f64 0, .int .i64 0, .bool false]) ∧ w = w') := by
  have h0 : 0 < s.size := by omega
  have hemp : (s = ByteArray.empty) = False := eq_false (fun e => by rw [e] at h0; exact absurd h0 (by decide))
  have hb : 46 ≤ (s[i0].toNat : Int) ∧ (s[i0].toNat : Int) ≤ 57 ∧ (s[i0].toNat : Int) ≠ 45 := by
    rcases hd with hd | hd
    · rw [isDig_iff] at hd; omega
    · rw [hd]; decide
  go_enter Tryz.func124, Tryz.ntmps124
  rcases hn with ⟨rfl, rfl, hh, h45⟩ | ⟨rfl, rfl⟩
  · have e1 : ((s[0].toNat : Int) == 43) = false := by rw [h45]; rfl
    have e2 : ((s[0].toNat : Int) == 45) = true := by rw [h45]; rfl
    have hcp := fun W => cpl_zero (s.extract 1 s.size) ⟨#[105, 110, 102, 105, 110, 105, 116, 121]⟩ W (by rw [size_ext]; omega) (by decide) (by decide) (fun h => by
      have he : (s.extract 1 s.size)[0] = s[1] := by simp [ByteArray.getElem_extract]
      rw [he]
      refine ⟨.inl (by omega), ?_⟩
      show (s[1].toNat : Int) ≠ 105
      omega)
    have HC := Lib.hid hcp; clear hcp h45 hb hd
    go_wp2_with (go_at_call 147; refine (HC.out _).mono ?_; rintro e w' ⟨rfl, rfl⟩)
    exact bodyPost_ret_by (results_tmp3 rfl _ _ _) rfl ⟨rfl, rfl⟩
  · have q1 : ((s[0].toNat : Int) == 43) = false := beq_false_of_ne (by omega)
    have q2 : ((s[0].toNat : Int) == 45) = false := beq_false_of_ne (by omega)
    have q3 : ((s[0].toNat : Int) == 105) = false := beq_false_of_ne (by omega)
    have q4 : ((s[0].toNat : Int) == 73) = false := beq_false_of_ne (by omega)
    have q5 : ((s[0].toNat : Int) == 110) = false := beq_false_of_ne (by omega)
    have q6 : ((s[0].toNat : Int) == 78) = false := beq_false_of_ne (by omega)
    clear hb hd
    go_wp2_with fail
    exact bodyPost_ret_by (results_tmp3 rfl _ _ _) rfl ⟨rfl, rfl⟩

end Go.Proofs.YtblpcpkkjbkakaaGreatDoor
/- readFloat on what is no number. -/
namespace Go.Proofs.YtblpcpkkjbkakaaGreatDoor
open Go Go.RowKit
set_option linter.unusedVariables false
set_option linter.unusedSimpArgs false

theorem results_tmp7' {fn : Func} {a b c d e f g : Tmp} (h : fn.results = #[.tmp a, .tmp b, .tmp c, .tmp d, .tmp e, .tmp f, .tmp g]) (tmps : Array Value) (P : Program) (w : World) :
    (results fn tmps).run P w = .ok (.tuple #[tmps.getD a undef, tmps.getD b undef, tmps.getD c undef, tmps.getD d undef, tmps.getD e undef, tmps.getD f undef, tmps.getD g undef]) w := by
  simp [results, h]
def RfNot (w : World) (e : Ending) (w' : World) : Prop :=
  (∃ a b c d x, 0 ≤ x ∧ x ≤ 1 ∧ e = .returned (.tuple #[a, b, c, d, .bool false, .int .i64 x, .bool false])) ∧ w = w'

set_option maxRecDepth 100000 in
set_option maxHeartbeats 2000000 in
theorem readFloat_not (s : ByteArray) (w : World) (hs : s.size ≤ 100000) (h0 : 0 < s.size)
    (h : (s[0] = 45 ∧ s.size = 1) ∨ (isDig s[0] = false ∧ s[0] ≠ 46 ∧ s[0] ≠ 95 ∧ s[0] ≠ 43 ∧ s[0] ≠ 45)) : Calls Tryz.prog 125 #[.string s] w (RfNot w) := by
  have hemp : (s = ByteArray.empty) = False := eq_false (fun e => by rw [e] at h0; exact absurd h0 (by decide))
  rcases h with ⟨h45, h1⟩ | ⟨hd, h46, h95, h43, h45⟩
  · have e1 : ((s[0].toNat : Int) == 43) = false := by rw [h45]; rfl
    have e2 : ((s[0].toNat : Int) == 45) = true := by rw [h45]; rfl
    clear h45
    go_enter Tryz.func125, Tryz.ntmps125
    go_wp2_with fail
    go_step3
    go_wp2_with fail
    go_step3
    go_wp2_with fail
    refine wp_loop_once ?_
    go_wp2_with fail
    exact bodyPost_ret_by (results_tmp7' rfl _ _ _) rfl ⟨⟨_, _, _, _, 1, by omega, by omega, rfl⟩, rfl⟩
  · have q1 : ((s[0].toNat : Int) == 43) = false := beq_false_of_ne (fun e => h43 ((byte_eq _ _).2 e))
    have q2 : ((s[0].toNat : Int) == 45) = false := beq_false_of_ne (fun e => h45 ((byte_eq _ _).2 e))
    have q3 : ((s[0].toNat : Int) == 46) = false := beq_false_of_ne (fun e => h46 ((byte_eq _ _).2 e))
    have q4 : ((s[0].toNat : Int) == 95) = false := beq_false_of_ne (fun e => h95 ((byte_eq _ _).2 e))
    have hor : (s[0].toNat : Int) < 48 ∨ (48 ≤ (s[0].toNat : Int) ∧ 57 < (s[0].toNat : Int)) := by
      have : ¬ isDig s[0] = true := by rw [hd]; decide
      rw [isDig_iff] at this
      omega
    have q5 : ((s[0].toNat : Int) == 48) = false := beq_false_of_ne (by omega)
    clear hd h46 h95 h43 h45
    rcases hor with hor | ⟨hor, hor2⟩
    all_goals
      go_enter Tryz.func125, Tryz.ntmps125
      go_wp2_with fail
      go_step3
      go_wp2_with fail
      all_goals go_step3
      all_goals go_wp2_with fail
      all_goals refine wp_loop_once ?_
      all_goals go_wp2_with fail
      all_goals exact bodyPost_ret_by (results_tmp7' rfl _ _ _) rfl ⟨⟨_, _, _, _, 0, by omega, by omega, rfl⟩, rfl⟩
end Go.Proofs.YtblpcpkkjbkakaaGreatDoor
/- IsNaN and IsInf. -/
namespace Go.Proofs.YtblpcpkkjbkakaaGreatDoor
open Go Go.RowKit
set_option linter.unusedVariables false
set_option linter.unusedSimpArgs false

theorem call8 (n : Nat) (w : World) : (callFunc 8 #[.float .f64 n]).run Tryz.prog w = .ok (.value (.int .u64 n)) w := by
  rw [run_callFunc_extern Tryz.func8 (by kernel_rfl) (by kernel_rfl) (by kernel_rfl) (show Extern.find _ = some Extern.MathFloatBits.float64bits by kernel_rfl)]
  rfl
theorem call99 (n : Int) (w : World) : (callFunc 99 #[.int .u64 n]).run Tryz.prog w = .ok (.value (.float .f64 n.toNat)) w := by
  rw [run_callFunc_extern Tryz.func99 (by kernel_rfl) (by kernel_rfl) (by kernel_rfl) (show Extern.find _ = some Extern.MathFloatBits.float64frombits by kernel_rfl)]
  rfl

def nanw (x : Nat) : Bool := FloatKind.f64.format.order x x != some Ordering.eq
def M63 : Nat := 9223372036854775807
theorem andNot63 (a : Nat) (ha : a < 18446744073709551616) : bits BinOp.andNot IntKind.u64 (a : Int) 9223372036854775808 = ((a &&& M63 : Nat) : Int) := by
  have h1 : (BitVec.ofInt 64 (a : Int)) = BitVec.ofNat 64 a := by simp
  have h2 : ~~~ (BitVec.ofInt 64 (9223372036854775808 : Int)) = BitVec.ofNat 64 M63 := by decide +kernel
  unfold bits
  show IntKind.u64.wrap (((BitVec.ofInt 64 (a : Int)) &&& ~~~ (BitVec.ofInt 64 (9223372036854775808 : Int))).toNat : Int) = _
  rw [h1, h2, BitVec.toNat_and, BitVec.toNat_ofNat, BitVec.toNat_ofNat, Nat.mod_eq_of_lt (by simpa using ha), Nat.mod_eq_of_lt (by decide +kernel)]
  have h3 : a &&& M63 ≤ a := Nat.and_le_left
  simp only [IntKind.wrap_u64]
  omega
def infw (x : Nat) : Bool := FloatKind.f64.format.order (x &&& M63) 9218868437227405311 == some Ordering.gt

theorem isNaN_any (x : Nat) (w : World) : Calls Tryz.prog 43 #[.float .f64 x] w (fun e w' => e = .returned (.bool (nanw x)) ∧ w = w') := by
  go_enter Tryz.func43, Tryz.ntmps43
  go_wp2_with fail
  go_ret
  exact ⟨rfl, rfl⟩
theorem abs_any (x : Nat) (w : World) (hx : x < 18446744073709551616) : Calls Tryz.prog 69 #[.float .f64 x] w (fun e w' => e = .returned (.float .f64 (x &&& M63)) ∧ w = w') := by
  have h8 := call8
  have h99 := call99
  have ha := andNot63 x hx
  go_enter Tryz.func69, Tryz.ntmps69
  go_wp2_with fail
  go_ret
  exact ⟨rfl, rfl⟩
theorem isInf_any (x : Nat) (w : World) (hx : x < 18446744073709551616) : Calls Tryz.prog 44 #[.float .f64 x, .int .i64 0] w (fun e w' => e = .returned (.bool (infw x)) ∧ w = w') := by
  go_enter Tryz.func44, Tryz.ntmps44
  go_wp2_with (go_at_call 69; refine (abs_any _ _ hx).mono ?_; rintro e w' ⟨rfl, rfl⟩)
  go_ret
  exact ⟨rfl, rfl⟩

theorem special_refused (x : Nat) (h : specialWord x) : (nanw x || infw x) = true := by
  rcases h with rfl | rfl | rfl <;> decide +kernel
theorem fin_not (x : Nat) (hx : x < 2047 * 2 ^ 52) : nanw x = false ∧ infw x = false := by
  have hl : Ieee.double.leastPlace = -1074 := by decide +kernel
  have hb : Ieee.double.binade = 2 ^ 52 := rfl
  have hi : Ieee.double.infRung = 2047 * 2 ^ 52 := by decide +kernel
  obtain ⟨m, p, e1, l1, l2⟩ : ∃ m : Nat, ∃ p : Int, mk false x = .number false m p ∧ m < 2 ^ 53 ∧ p ≤ 971 := by
    unfold mk
    rw [hl, hb, hi]
    by_cases ha : x < 2 ^ 52
    · rw [if_pos ha]; exact ⟨x, _, rfl, by omega, by omega⟩
    · rw [if_neg ha, if_pos hx]
      exact ⟨_, _, rfl, by have := Nat.mod_lt x (Nat.two_pow_pos 52); omega, by omega⟩
  have hxl : x < SW := by unfold SW; omega
  have hrd := read_plain x hxl
  rw [e1] at hrd
  constructor
  · unfold nanw
    show (Ieee.double.order x x != some Ordering.eq) = false
    unfold Ieee.Format.order
    rw [hrd]
    show (some (compare (Ieee.signed false m _) (Ieee.signed false m _)) != some Ordering.eq) = false
    have : compare (Ieee.signed false m (p - min p p).toNat) (Ieee.signed false m (p - min p p).toNat) = Ordering.eq := by rw [Int.compare_eq_eq]
    rw [this]; rfl
  · have hand : x &&& M63 = x := by
      show x &&& (2 ^ 63 - 1) = x
      rw [Nat.and_two_pow_sub_one_eq_mod, Nat.mod_eq_of_lt (by omega)]
    have hmax : Ieee.double.read 9218868437227405311 = .number false 9007199254740991 971 := by decide +kernel
    unfold infw
    rw [hand]
    show (Ieee.double.order x 9218868437227405311 == some Ordering.gt) = false
    unfold Ieee.Format.order
    rw [hrd, hmax]
    show (some (compare (Ieee.signed false m (p - min p 971).toNat) (Ieee.signed false 9007199254740991 (971 - min p 971).toNat)) == some Ordering.gt) = false
    apply beq_false_of_ne
    intro h
    have h2 := Option.some.inj h
    rw [Int.compare_eq_gt] at h2
    have hmin : min p 971 = p := by omega
    rw [hmin] at h2
    have h3 : (p - p).toNat = 0 := by omega
    rw [h3] at h2
    have h4 : ((9007199254740991 <<< (971 - p).toNat : Nat) : Int) < ((m <<< 0 : Nat) : Int) := h2
    rw [Nat.shiftLeft_eq, Nat.shiftLeft_zero] at h4
    have h5 : 9007199254740991 * 1 ≤ 9007199254740991 * 2 ^ (971 - p).toNat := Nat.mul_le_mul_left _ Nat.one_le_two_pow
    omega

end Go.Proofs.YtblpcpkkjbkakaaGreatDoor
