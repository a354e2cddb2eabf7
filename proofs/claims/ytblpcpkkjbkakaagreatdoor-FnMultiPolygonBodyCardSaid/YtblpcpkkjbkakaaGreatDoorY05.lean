/- Lemmas towards the seat's laws: 1 texts joined. -/
import Derived.Test.YtblpcpkkjbkakaaGreatDoorProg
import Derived.Test.YtblpcpkkjbkakaaGreatDoorY04
import Derived.WalkSpells
import Derived.WalkLawsBesides
import Derived.BigQuiet
import Derived.Deep.QuietTactic
import Derived.Deep.LoopGhost
import Derived.Deep.DeepCutAuto
import Derived.Deep.CutBlock
import Derived.Deep.Light
import Derived.StillTailTactics
import Derived.Lib.Hide
import Derived.KernelRfl
/- The walks of the reference's small functions on texts. -/
namespace Go.Proofs.YtblpcpkkjbkakaaGreatDoor
open Go Go.RowKit
set_option linter.unusedVariables false
set_option linter.unusedSimpArgs false

theorem ret_int {k : IntKind} {a b : Int} (h : a = b) : Ending.returned (.int k a) = .returned (.int k b) := by rw [h]
theorem ret_bool {a b : Bool} (h : a = b) : Ending.returned (.bool a) = .returned (.bool b) := by rw [h]

set_option maxHeartbeats 400000 in
theorem isLetter_any (c : UInt8) (w : World) :
    Calls Tryz.prog 38 #[.int .u8 c.toNat] w fun e w' => e = .returned (.bool (isLet c)) ∧ w = w' := by
  have hi := isLet_iff c
  have HI := Lib.hid hi
  clear hi
  go_enter Tryz.func38, Tryz.ntmps38
  go_wp2
  all_goals
    go_ret
    have hi := HI.out
    refine ⟨ret_bool ?_, rfl⟩
    rw [Bool.eq_iff_iff, hi]
    simp
    omega

set_option maxHeartbeats 400000 in
theorem digits_any (s : ByteArray) (w : World) (hs : s.size ≤ 1000000) :
    Calls Tryz.prog 40 #[.string s] w fun e w' => e = .returned (.int .i64 (digs s.data.toList)) ∧ w = w' := by
  go_enter Tryz.func40, Tryz.ntmps40
  go_wp2
  go_loop [3] (fun i => ∃ k : Nat, k ≤ s.size ∧ digs s.data.toList = k + digs (s.data.toList.drop k) ∧ i = .int .i64 k) (fun i => s.size - (intOf i).toNat)
  case atStart => exact ⟨0, Nat.zero_le _, by simp, rfl⟩
  case round =>
    obtain ⟨k, hk, hd, rfl⟩ := hrel
    have HD := Lib.hid hd
    clear hd
    by_cases hlt : k < s.size
    · by_cases hg : isDig s[k] = true
      · obtain ⟨h1, h2⟩ := (isDig_iff _).1 hg
        have HG := Lib.hid hg
        clear hg
        go_wp2
        go_round
        case rel => exact ⟨k + 1, by omega, by rw [HD.out, drop_at s k hlt]; simp only [digs, HG.out, if_true]; omega, by go_num⟩
        case measure => simp [intOf]; omega
      · have hn : digs (s.data.toList.drop k) = 0 := by rw [drop_at s k hlt]; simp [digs, hg]
        have HN := Lib.hid hn
        have HG := Lib.hid (fun h => hg ((isDig_iff _).2 h))
        clear hg hn
        go_wp2
        · exact (HG.out ⟨by assumption, by assumption⟩).elim
        all_goals
          go_ret
          exact ⟨ret_int (by rw [HD.out, HN.out]; simp), rfl⟩
    · have hn : digs (s.data.toList.drop k) = 0 := by rw [drop_end s k (by omega)]; rfl
      have HN := Lib.hid hn
      clear hn
      go_wp2
      go_ret
      exact ⟨ret_int (by rw [HD.out, HN.out]; simp), rfl⟩

theorem size_ext (s : ByteArray) (a : Nat) : (s.extract a s.size).size = s.size - a := by simp
theorem digits_n (s : ByteArray) (w : World) (hs : s.size ≤ 1000000) (n : Nat) (h : digs s.data.toList = n) :
    Calls Tryz.prog 40 #[.string s] w fun e w' => e = .returned (.int .i64 n) ∧ w = w' := h ▸ digits_any s w hs
theorem digits_d (s : ByteArray) (w : World) (hs : s.size ≤ 1000000) (m n : Nat) (h : digs (s.data.toList.drop m) = n) :
    Calls Tryz.prog 40 #[.string (s.extract m s.size)] w fun e w' => e = .returned (.int .i64 n) ∧ w = w' :=
  digits_n _ w (by simp; omega) n (by rw [extract_drop]; exact h)
theorem beq_lit (c : UInt8) (k : Nat) (h : k < 256) : ((c.toNat : Int) == (k : Int)) = (c == UInt8.ofNat k) := by
  rw [Bool.eq_iff_iff]; simp only [beq_iff_eq]
  constructor
  · intro e; apply UInt8.toNat_inj.1; simp; omega
  · intro e; subst e; simp; omega
theorem get_beq (s : ByteArray) (n k : Nat) (h : n < s.size) (hk : k < 256) : ((s[n].toNat : Int) == (k : Int)) = (s.data.toList[n]? == some (UInt8.ofNat k)) := by
  rw [get_at s n h, beq_lit _ _ hk]; rfl

set_option maxRecDepth 100000 in
set_option maxHeartbeats 1000000 in
theorem decimal_any (s : ByteArray) (w : World) (hs : s.size ≤ 1000000) :
    Calls Tryz.prog 39 #[.string s] w fun e w' => e = .returned (.int .i64 (decm s.data.toList)) ∧ w = w' := by
  obtain ⟨n, hn⟩ : ∃ n, digs s.data.toList = n := ⟨_, rfl⟩
  have hnl : n ≤ s.size := by have := digs_le s.data.toList; simp at this; omega
  have hm (m : Nat) : digs (s.data.toList.drop m) ≤ s.size - m := by have := digs_le (s.data.toList.drop m); simpa using this
  obtain ⟨m, hmm⟩ : ∃ m, digs (s.data.toList.drop (n + 1)) = m := ⟨_, rfl⟩
  have hml : m ≤ s.size - (n + 1) := hmm ▸ hm _
  have HN := Lib.hid hn; have HM := Lib.hid hm; have HMM := Lib.hid hmm; clear hn hm hmm
  go_enter Tryz.func39, Tryz.ntmps39
  go_upto_region 3 with (go_at_call 40; refine (digits_n _ _ hs n HN.out).mono ?_; rintro e w' ⟨rfl, rfl⟩)
  go_cut [20] (fun c wx => ∃ b : Bool, c = .bool b ∧ RowKit.Hid ((s.data.toList[n]? == some 46) = b) ∧ w = wx)
  case first =>
    by_cases hlt : n < s.size
    · have hg := Lib.hid (get_beq s n 46 hlt (by omega))
      go_wp2
      all_goals (go_meet; case rel => exact ⟨_, rfl, hg.out.symm, rfl⟩)
    · have hg := Lib.hid (get_end s n (by omega))
      go_wp2
      all_goals (go_meet; case rel => exact ⟨_, rfl, (by rw [hg.out]; rfl : (_ == _) = false), rfl⟩)
  case rest =>
    obtain ⟨b, rfl, HB, rfl⟩ := hcut
    go_upto_if 20 with fail
    go_cut [3] (fun c wx => ∃ p : Nat, c = .int .i64 p ∧ p ≤ s.size ∧ RowKit.Hid (decm s.data.toList = if p = 0 then 0 else dexp s.data.toList p) ∧ w = wx)
    case first =>
      cases b with
      | true =>
        have hd : s.data.toList[n]? = some 46 := by have := HB.out; simpa using this
        have hlt : n < s.size := by have := lt_of_get hd; simpa using this
        have HD := Lib.hid hd; clear hd
        by_cases h0 : n + m = 0
        · go_wp2_with (go_at_call 40; refine (digits_d s _ hs _ m HMM.out).mono ?_; rintro e w' ⟨rfl, rfl⟩)
          go_ret
          exact ⟨ret_int (by have h1 := HD.out; have h2 := HN.out; have h3 := HMM.out; unfold decm; simp only [h2, h1, h3, if_true, h0]; rfl), rfl⟩
        · go_wp2_with (go_at_call 40; refine (digits_d s _ hs _ m HMM.out).mono ?_; rintro e w' ⟨rfl, rfl⟩)
          go_meet
          case rel =>
            go_light
            refine ⟨n + (1 + m), by go_num, by omega, ?_, rfl⟩
            have h1 := HD.out; have h2 := HN.out; have h3 := HMM.out
            show _ = _
            unfold decm; simp only [h2, h1, h3, if_true, h0, if_false]
            rw [if_neg (by omega), Nat.add_assoc]
      | false =>
        have hd : ¬ s.data.toList[n]? = some 46 := by have := HB.out; simpa using this
        have HD := Lib.hid hd; clear hd
        go_wp2_with fail
        go_meet
        case rel =>
          go_light
          refine ⟨n, rfl, hnl, ?_, rfl⟩
          have h1 := HD.out; have h2 := HN.out
          show _ = _
          unfold decm; simp only [h2, h1, if_false]
    case rest =>
      obtain ⟨p, rfl, hp, HP, rfl⟩ := hcut
      by_cases hp0 : p = 0
      · subst hp0
        go_wp2
        go_ret
        exact ⟨ret_int (by rw [HP.out]; rfl), rfl⟩
      · go_upto_region 10 with fail
        go_cut [51] (fun c wx => ∃ b : Bool, c = .bool b ∧ RowKit.Hid ((s.data.toList[p]? = some 101 ∨ s.data.toList[p]? = some 69) ↔ b = true) ∧ w = wx)
        case first =>
          by_cases hlt : p < s.size
          · have hg := Lib.hid (get_beq s p 101 hlt (by omega))
            have hg2 := Lib.hid (get_beq s p 69 hlt (by omega))
            go_wp2
            all_goals (go_meet; case rel => go_light; exact ⟨_, rfl, (by have h1 := hg.out; have h2 := hg2.out; simp_all : (_ ↔ _)), rfl⟩)
          · have hg := Lib.hid (get_end s p (by omega))
            go_wp2
            all_goals (go_meet; case rel => exact ⟨_, rfl, (by rw [hg.out]; simp : (_ ↔ _)), rfl⟩)
        case rest =>
          obtain ⟨b, rfl, HB, rfl⟩ := hcut
          cases b with
          | false =>
            go_wp2_with fail
            go_ret
            exact ⟨ret_int (by rw [HP.out, if_neg hp0]; unfold dexp; rw [if_neg (by have := HB.out; simpa using this)]), rfl⟩
          | true =>
            have hlt : p < s.size := by
              have := HB.out.2 rfl
              rcases this with h | h <;> (have := lt_of_get h; simpa using this)
            go_upto_region 12 with fail
            go_cut [69] (fun c wx => ∃ b : Bool, c = .bool b ∧ RowKit.Hid ((s.data.toList[p + 1]? = some 43 ∨ s.data.toList[p + 1]? = some 45) ↔ b = true) ∧ w = wx)
            case first =>
              by_cases hlt2 : p + 1 < s.size
              · have hg := Lib.hid (get_beq s (p + 1) 43 hlt2 (by omega))
                have hg2 := Lib.hid (get_beq s (p + 1) 45 hlt2 (by omega))
                go_wp2
                all_goals (go_meet; case rel => go_light; exact ⟨_, rfl, (by have h1 := hg.out; have h2 := hg2.out; simp_all : (_ ↔ _)), rfl⟩)
              · have hg := Lib.hid (get_end s (p + 1) (by omega))
                go_wp2
                all_goals (go_meet; case rel => exact ⟨_, rfl, (by rw [hg.out]; simp : (_ ↔ _)), rfl⟩)
            case rest =>
              obtain ⟨b, rfl, HB2, rfl⟩ := hcut
              obtain ⟨a1, ha1⟩ : ∃ a1, (if s.data.toList[p + 1]? = some 43 ∨ s.data.toList[p + 1]? = some 45 then p + 2 else p + 1) = a1 := ⟨_, rfl⟩
              obtain ⟨k, hk⟩ : ∃ k, digs (s.data.toList.drop a1) = k := ⟨_, rfl⟩
              have hkl : k ≤ s.size - a1 := hk ▸ HM.out a1
              have HA := Lib.hid ha1; have HK := Lib.hid hk; clear ha1 hk
              have hal : a1 ≤ s.size := by
                have h1 := HA.out
                split at h1
                · rename_i h
                  have : p + 1 < s.size := by rcases h with h | h <;> (have := lt_of_get h; simpa using this)
                  omega
                · omega
              have fin : RowKit.Hid (decm s.data.toList = if 0 < k then a1 + k else p) := by
                show _ = _
                rw [HP.out, if_neg hp0]; unfold dexp; rw [if_pos (HB.out.2 rfl)]; dsimp only; rw [HA.out, HK.out]
              cases b with
              | true =>
                have hA : a1 = p + 2 := by rw [← HA.out, if_pos (HB2.out.2 rfl)]
                subst hA
                go_wp2_with (go_at_call 40; refine (digits_d s _ hs _ k HK.out).mono ?_; rintro e w' ⟨rfl, rfl⟩)
                · go_ret
                  exact ⟨ret_int (by rw [fin.out, if_pos (by assumption)]; omega), rfl⟩
                · go_ret
                  exact ⟨ret_int (by rw [fin.out, if_neg (by assumption)]), rfl⟩
              | false =>
                have hA : a1 = p + 1 := by rw [← HA.out, if_neg (by have := HB2.out; simpa using this)]
                subst hA
                go_wp2_with (go_at_call 40; refine (digits_d s _ hs _ k HK.out).mono ?_; rintro e w' ⟨rfl, rfl⟩)
                · go_ret
                  exact ⟨ret_int (by rw [fin.out, if_pos (by assumption)]; omega), rfl⟩
                · go_ret
                  exact ⟨ret_int (by rw [fin.out, if_neg (by assumption)]), rfl⟩

end Go.Proofs.YtblpcpkkjbkakaaGreatDoor
