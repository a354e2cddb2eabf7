/- Lemmas towards the seat's laws: 1 texts joined. -/
import Derived.Test.YtblpcpkkjbkakaaGreatDoorY17
import Derived.WalkMore
/- readFloat. -/
namespace Go.Proofs.YtblpcpkkjbkakaaGreatDoor
open Go Go.RowKit
set_option linter.unusedVariables false
set_option linter.unusedSimpArgs false
theorem results_tmp7 {fn : Func} {a b c d e f g : Tmp} (h : fn.results = #[.tmp a, .tmp b, .tmp c, .tmp d, .tmp e, .tmp f, .tmp g]) (tmps : Array Value) (P : Program) (w : World) :
    (results fn tmps).run P w = .ok (.tuple #[tmps.getD a undef, tmps.getD b undef, tmps.getD c undef, tmps.getD d undef, tmps.getD e undef, tmps.getD f undef, tmps.getD g undef]) w := by
  simp [results, h]
def RfPost (S : ByteArray) (neg : Bool) (l : List UInt8) (m : Nat) (w : World) (e : Ending) (w' : World) : Prop :=
  e = .returned (.tuple #[.int .u64 (readM l m), .int .i64 (readX l m), .bool neg, .bool (readT l m), .bool false, .int .i64 S.size, .bool true]) ∧ w = w'

def lowu (c : Int) : Int := bits BinOp.or IntKind.u8 c 32
theorem lowu_tab : ∀ n : Nat, n < 256 → (lowu n = 120 ↔ (n = 120 ∨ n = 88)) ∧ (lowu n = 101 ↔ (n = 101 ∨ n = 69)) := by
  have h : ∀ n : Fin 256, (lowu n.1 = 120 ↔ (n.1 = 120 ∨ n.1 = 88)) ∧ (lowu n.1 = 101 ↔ (n.1 = 101 ∨ n.1 = 69)) := by decide +kernel
  intro n hn
  exact h ⟨n, hn⟩
theorem loweru_c (c : Int) (w : World) : Calls Tryz.prog 150 #[.int .u8 c] w (fun e w' => e = .returned (.int .u8 (lowu c)) ∧ w = w') := by
  go_enter Tryz.func150, Tryz.ntmps150
  go_wp2_with fail
  go_ret
  exact ⟨rfl, rfl⟩

set_option maxRecDepth 100000 in
set_option maxHeartbeats 2000000 in
theorem readFloat_any (S : ByteArray) (neg : Bool) (i0 D m : Nat) (dot : Bool) (w : World) (hs : S.size ≤ 3000) (hm0 : 0 < m) (hml : i0 + m ≤ S.size)
    (hn : (neg = true ∧ i0 = 1 ∧ ∃ h : 0 < S.size, S[0] = 45) ∨ (neg = false ∧ i0 = 0))
    (hP : Parts (S.data.toList.drop i0) D dot m) (hE : decm (S.data.toList.drop i0) = (S.data.toList.drop i0).length)  :
    Calls Tryz.prog 125 #[.string S] w (RfPost S neg (S.data.toList.drop i0) m w) := by
  obtain ⟨c0, hc0, hcc⟩ := hP.chars 0 hm0
  rw [get_drop, Nat.add_zero] at hc0
  have hlt0 : i0 < S.size := by omega
  have hS0 : S[i0] = c0 := by rw [get_at S i0 hlt0] at hc0; exact Option.some.inj hc0
  have hx120 : ∀ h : i0 + 1 < S.size, (lowu (S[i0 + 1].toNat : Int) == 120) = false := by
    intro h
    have hg : (S.data.toList.drop i0)[1]? = some S[i0 + 1] := by rw [get_drop, get_at S _ h]
    have hb := (lowu_tab S[i0 + 1].toNat (by have := S[i0 + 1].toNat_lt; omega)).1
    refine beq_false_of_ne fun e => ?_
    have hb2 := hb.1 e
    have hno : ∀ c : UInt8, S[i0 + 1] = c → c.toNat ≠ 120 → c.toNat ≠ 88 → False := fun c h1 h2 h3 => by rw [h1] at hb2; omega
    by_cases h1 : 1 < m
    · obtain ⟨c, hc, hcc⟩ := hP.chars 1 h1
      rw [hg] at hc
      have hcs := Option.some.inj hc
      rcases hcc with hd | ⟨rfl, _⟩
      · rw [isDig_iff] at hd; exact hno c hcs (by omega) (by omega)
      · exact hno 46 hcs (by decide) (by decide)
    · have hm1 : m = 1 := by omega
      have hl2 : 1 < (S.data.toList.drop i0).length := lt_of_get hg
      rcases hP.hexp with ⟨h2 | h2, _⟩ | ⟨h2, _⟩
      · rw [hm1, hg] at h2; exact hno 101 (Option.some.inj h2) (by decide) (by decide)
      · rw [hm1, hg] at h2; exact hno 69 (Option.some.inj h2) (by decide) (by decide)
      · omega
  have hq0 : c0 = 46 ∨ isDig c0 = true := by rcases hcc with h | ⟨h, _⟩; exact .inr h; exact .inl h
  have q1 : ((S[i0].toNat : Int) == 43) = false := by
    rw [hS0]; refine beq_false_of_ne fun e => ?_
    rcases hq0 with rfl | h
    · simp at e
    · rw [isDig_iff] at h; omega
  have q2 : ((S[i0].toNat : Int) == 45) = false := by
    rw [hS0]; refine beq_false_of_ne fun e => ?_
    rcases hq0 with rfl | h
    · simp at e
    · rw [isDig_iff] at h; omega
  clear hq0
  have HP := Lib.hid hP; clear hP
  have HE := Lib.hid hE; clear hE
  have HC := Lib.hid hcc; clear hcc
  clear hc0 hS0
  have hS1 : 0 < S.size := by omega
  have hemp : (S = ByteArray.empty) = False := eq_false (fun e => by rw [e] at hS1; exact absurd hS1 (by decide))
  have HN := Lib.hid hn; clear hn
  go_enter Tryz.func125, Tryz.ntmps125
  go_wp2_with fail
  go_step3
  go_upto_block 0 with fail
  go_cut [4, 7] (fun n i wx => n = .bool neg ∧ i = .int .i64 i0 ∧ wx = w)
  case first =>
   as_aux_lemma =>
    rcases HN.out with ⟨rfl, rfl, hh, h45⟩ | ⟨rfl, rfl⟩
    · have e1 : ((S[0].toNat : Int) == 43) = false := by rw [h45]; rfl
      have e2 : ((S[0].toNat : Int) == 45) = true := by rw [h45]; rfl
      clear h45
      go_wp2_with fail
      go_meet
      case rel => exact ⟨rfl, rfl, rfl⟩
    · go_wp2_with fail
      go_meet
      case rel => exact ⟨rfl, rfl, rfl⟩
  case rest =>
    obtain ⟨rfl, rfl, rfl⟩ := hcut
    clear hemp
    go_upto_region 12 with fail
    go_cut [54] (fun c wx => c = .bool false ∧ wc = wx)
    case first =>
     as_aux_lemma =>
      by_cases h2 : i0 + 2 < S.size
      · have e1 := hx120 (by omega)
        go_wp2_with (go_at_call 150; refine (loweru_c _ _).mono ?_; rintro e w' ⟨rfl, rfl⟩)
        all_goals go_meet
        all_goals (case rel => exact ⟨rfl, rfl⟩)
      · go_wp2_with (go_at_call 150; refine (loweru_c _ _).mono ?_; rintro e w' ⟨rfl, rfl⟩)
        all_goals go_meet
        all_goals (case rel => exact ⟨rfl, rfl⟩)
    case rest =>
      obtain ⟨rfl, rfl⟩ := hcut
      clear hx120 q1 q2 HC
      have hl : ∀ k, (S.data.toList.drop i0)[k]? = S.data.toList[i0 + k]? := fun k => get_drop S i0 k
      obtain ⟨l, hldef⟩ : ∃ l, l = S.data.toList.drop i0 := ⟨_, rfl⟩
      have hlen : l.length = S.size - i0 := by rw [hldef, List.length_drop, ← Lib.size_eq]
      rw [← hldef] at HP HE hl
      have HLD := Lib.hid hldef
      have HL := Lib.hid hl; clear hl hldef
      have HN2 := HN; clear HN
      go_upto_region 22 with fail
      go_wp2_with fail
      go_step3
      go_upto_block 1 with fail
      go_cut [2, 5, 7, 9, 13, 14, 15, 16, 17] (fun man tr i us sd sg nd ndm dp wx => man = .int .u64 (RS.run l m).man ∧ tr = .bool (RS.run l m).tr ∧ i = .int .i64 ((i0 + m : Nat) : Int) ∧ us = .bool false ∧ sd = .bool (RS.run l m).sd ∧ sg = .bool (RS.run l m).sg ∧ nd = .int .i64 ((RS.run l m).nd : Int) ∧ ndm = .int .i64 ((RS.run l m).ndm : Int) ∧ dp = .int .i64 (RS.run l m).dp ∧ wx = wc)
      case first =>
       as_aux_lemma =>
        go_wp2_with fail
        go_loopg [2, 5, 7, 9, 13, 14, 15, 16, 17] m (fun k' man tr i us sd sg nd ndm dp wx => ∃ k j : Nat, k + k' = m ∧ j = i0 + k ∧ man = .int .u64 (RS.run l k).man ∧ tr = .bool (RS.run l k).tr ∧ i = .int .i64 (j : Int) ∧ us = .bool false ∧ sd = .bool (RS.run l k).sd ∧ sg = .bool (RS.run l k).sg ∧ nd = .int .i64 ((RS.run l k).nd : Int) ∧ ndm = .int .i64 ((RS.run l k).ndm : Int) ∧ dp = .int .i64 (RS.run l k).dp ∧ wx = wc)
        case atStart => exact ⟨0, i0, by omega, by omega, rfl, rfl, rfl, rfl, rfl, rfl, rfl, rfl, rfl, rfl⟩
        case round =>
          obtain ⟨k, j, hk, hj, rfl, rfl, rfl, rfl, rfl, rfl, rfl, rfl, rfl, rfl⟩ := hrel
          by_cases hkm : k < m
          · obtain ⟨c, hc, hcc⟩ := HP.out.chars k hkm
            have hs1 := RS.run_succ l k c hc
            have hok := RS.run_ok HP.out k (by omega)
            have hsd := RS.run_sd HP.out k (by omega)
            rw [HL.out k, ← hj] at hc
            have hlt : j < S.size := by omega
            have hSc : S[j] = c := by rw [get_at S j hlt] at hc; exact Option.some.inj hc
            clear hc
            have HJ := Lib.hid hj; clear hj
            generalize hst : RS.run l k = st at *
            obtain ⟨nd, ndm, dp, man, tr, sd, sg⟩ := st
            obtain ⟨o1, o2, ⟨o3, o4⟩, o5⟩ := hok
            dsimp only at o1 o2 o3 o4 o5 hsd
            rcases hcc with hd | ⟨rfl, rfl, hdd⟩
            · have h46 : c ≠ 46 := (not_e_dig c hd).2.2.2.2
              have hdi := (isDig_iff c).1 hd
              have e1 : ((S[j].toNat : Int) == 95) = false := by rw [hSc]; exact beq_false_of_ne (by omega)
              have e2 : ((S[j].toNat : Int) == 46) = false := by rw [hSc]; exact beq_false_of_ne (fun e => h46 ((byte_eq _ _).2 e))
              have e3 : (48 : Int) ≤ (S[j].toNat : Int) := by rw [hSc]; exact hdi.1
              have e4 : (S[j].toNat : Int) ≤ 57 := by rw [hSc]; exact hdi.2
              by_cases h0 : c = 48 ∧ nd = 0
              · obtain ⟨hc48, rfl⟩ := h0
                have e5 : ((S[j].toNat : Int) == 48) = true := by rw [hSc, hc48]; rfl
                have hs2 : RS.run l (k + 1) = ⟨0, ndm, dp - 1, man, tr, sd, true⟩ := by rw [hs1]; unfold RS.step; rw [if_neg h46, if_pos ⟨hc48, rfl⟩]
                have HS := Lib.hid hs2; clear hs2 hs1 hst hSc hsd hdi hd h46 hc48 o5
                go_wp2_with fail
                go_roundg (gk - 1)
                case rel =>
                  have hj := HJ.out
                  refine ⟨k + 1, j + 1, by omega, by omega, ?_, ?_, by go_num, rfl, ?_, ?_, ?_, ?_, ?_, rfl⟩
                  all_goals rw [HS.out]
                  all_goals first | rfl | (congr 1; push_cast; omega) | (congr 1; simp) | (simp; done)
                case measure => omega
              · have hnd : ((S[j].toNat : Int) == 48 && (nd : Int) == 0) = false := by
                  rw [hSc]
                  by_cases h48 : c = 48
                  · have : ((nd : Int) == 0) = false := beq_false_of_ne (by have : ¬ nd = 0 := fun e => h0 ⟨h48, e⟩; omega)
                    rw [this, Bool.and_false]
                  · have : ((c.toNat : Int) == 48) = false := beq_false_of_ne (fun e => h48 ((byte_eq _ _).2 e))
                    rw [this, Bool.false_and]
                by_cases hm : ndm < 19
                · have hs2 : RS.run l (k + 1) = ⟨nd + 1, ndm + 1, dp, man * 10 + (c.toNat - 48), tr, sd, true⟩ := by rw [hs1]; unfold RS.step; rw [if_neg h46, if_neg h0, if_pos hm]
                  have o6 : man < 1000000000000000000 := by
                    have : 10 ^ ndm ≤ 10 ^ 18 := Nat.pow_le_pow_right (by decide) (by omega)
                    omega
                  rw [← hSc] at hs2
                  have HS := Lib.hid hs2; clear hs2 hs1 hst hsd hdi hd h46 o5
                  by_cases h48 : ((S[j].toNat : Int) == 48) = true
                  · have h00 : ((nd : Int) == 0) = false := by rw [h48, Bool.true_and] at hnd; exact hnd
                    clear hSc h0 hnd
                    go_wp2_with fail
                    go_roundg (gk - 1)
                    case rel =>
                      have hj := HJ.out
                      refine ⟨k + 1, j + 1, by omega, by omega, ?_, ?_, by go_num, rfl, ?_, ?_, ?_, ?_, ?_, rfl⟩
                      all_goals rw [HS.out]
                      all_goals first | rfl | (congr 1; push_cast; omega) | (congr 1; simp) | (simp; done)
                    case measure => omega
                  · have h48' : ((S[j].toNat : Int) == 48) = false := by simpa using h48
                    clear hSc h0 hnd h48
                    go_wp2_with fail
                    go_roundg (gk - 1)
                    case rel =>
                      have hj := HJ.out
                      refine ⟨k + 1, j + 1, by omega, by omega, ?_, ?_, by go_num, rfl, ?_, ?_, ?_, ?_, ?_, rfl⟩
                      all_goals rw [HS.out]
                      all_goals first | rfl | (congr 1; push_cast; omega) | (congr 1; simp) | (simp; done)
                    case measure => omega
                · have o7 : ndm = 19 := by omega
                  subst o7
                  by_cases h48 : c = 48
                  · have hs2 : RS.run l (k + 1) = ⟨nd + 1, 19, dp, man, tr, sd, true⟩ := by
                      rw [hs1]; unfold RS.step; rw [if_neg h46, if_neg h0, if_neg hm, h48]; simp
                    have e5 : ((S[j].toNat : Int) == 48) = true := by rw [hSc, h48]; rfl
                    have h00 : ((nd : Int) == 0) = false := by rw [e5, Bool.true_and] at hnd; exact hnd
                    have HS := Lib.hid hs2; clear hs2 hs1 hst hsd hdi hd h46 o5 hSc h0 hnd h48 hm
                    go_wp2_with fail
                    go_roundg (gk - 1)
                    case rel =>
                      have hj := HJ.out
                      refine ⟨k + 1, j + 1, by omega, by omega, ?_, ?_, by go_num, rfl, ?_, ?_, ?_, ?_, ?_, rfl⟩
                      all_goals rw [HS.out]
                      all_goals first | rfl | (congr 1; push_cast; omega) | (congr 1; simp) | (simp; done)
                    case measure => omega
                  · have hs2 : RS.run l (k + 1) = ⟨nd + 1, 19, dp, man, true, sd, true⟩ := by
                      rw [hs1]; unfold RS.step; rw [if_neg h46, if_neg h0, if_neg hm]
                      have : (c != 48) = true := by simpa using h48
                      rw [this, Bool.or_true]
                    have e5 : ((S[j].toNat : Int) == 48) = false := by rw [hSc]; exact beq_false_of_ne (fun e => h48 ((byte_eq _ _).2 e))
                    have HS := Lib.hid hs2; clear hs2 hs1 hst hsd hdi hd h46 o5 hSc h0 hnd h48 hm
                    go_wp2_with fail
                    go_roundg (gk - 1)
                    case rel =>
                      have hj := HJ.out
                      refine ⟨k + 1, j + 1, by omega, by omega, ?_, ?_, by go_num, rfl, ?_, ?_, ?_, ?_, ?_, rfl⟩
                      all_goals rw [HS.out]
                      all_goals first | rfl | (congr 1; push_cast; omega) | (congr 1; simp) | (simp; done)
                    case measure => omega
            · have hs2 : RS.run l (k + 1) = ⟨nd, ndm, nd, man, tr, true, sg⟩ := by rw [hs1]; unfold RS.step; rw [if_pos rfl]
              have hsf : sd = false := by rw [hsd, hdd]; simp
              subst hsf
              have e1 : ((S[j].toNat : Int) == 95) = false := by rw [hSc]; rfl
              have e2 : ((S[j].toNat : Int) == 46) = true := by rw [hSc]; rfl
              have HS := Lib.hid hs2; clear hs2 hs1 hst hsd hSc o5
              go_wp2_with fail
              go_roundg (gk - 1)
              case rel =>
                have hj := HJ.out
                refine ⟨k + 1, j + 1, by omega, by omega, ?_, ?_, by go_num, rfl, ?_, ?_, ?_, ?_, ?_, rfl⟩
                all_goals rw [HS.out]
                all_goals first | rfl | (congr 1; push_cast; omega) | (congr 1; simp) | (simp; done)
              case measure => omega
          · have hkm2 : k = m := by omega
            subst hkm2
            have hje : j = i0 + k := hj
            by_cases hlt : j < S.size
            · obtain ⟨c, hc, he⟩ : ∃ c, l[k]? = some c ∧ (c = 101 ∨ c = 69) := by
                have hE := HE.out
                rcases HP.out.hexp with ⟨h1 | h1, _⟩ | ⟨h1, _⟩
                · exact ⟨_, h1, .inl rfl⟩
                · exact ⟨_, h1, .inr rfl⟩
                · omega
              rw [HL.out k, ← hj, get_at S j hlt] at hc
              have hSc : S[j] = c := Option.some.inj hc
              have HJ := Lib.hid hj; clear hj hc hje
              have hcv : (S[j].toNat : Int) = 101 ∨ (S[j].toNat : Int) = 69 := by rw [hSc]; rcases he with rfl | rfl; exact .inl rfl; exact .inr rfl
              have e1 : ((S[j].toNat : Int) == 95) = false := beq_false_of_ne (by omega)
              have e2 : ((S[j].toNat : Int) == 46) = false := beq_false_of_ne (by omega)
              have e3 : ((S[j].toNat : Int) ≤ 57) = False := eq_false (by omega)
              have e4 : ((48 : Int) ≤ (S[j].toNat : Int)) = True := eq_true (by omega)
              clear hSc hcv he
              go_wp2_with fail
              go_meet
              case rel =>
                exact ⟨rfl, rfl, by rw [HJ.out], rfl, rfl, rfl, rfl, rfl, rfl, rfl⟩
            · have HJ := Lib.hid hj; clear hj hje
              go_wp2_with fail
              go_meet
              case rel =>
                exact ⟨rfl, rfl, by rw [HJ.out], rfl, rfl, rfl, rfl, rfl, rfl, rfl⟩
      case rest =>
        obtain ⟨rfl, rfl, rfl, rfl, rfl, rfl, rfl, rfl, rfl, rfl⟩ := hcut
        have hsg := RS.run_sg HP.out
        have hok := RS.run_ok HP.out m (Nat.le_refl _)
        have hsd0 : readDp l m = if (RS.run l m).sd then (RS.run l m).dp else (RS.run l m).nd := rfl
        have hx0 : readX l m = if (RS.run l m).man = 0 then 0 else readDp l m + readE l m - (RS.run l m).ndm := rfl
        have hrm : readM l m = (RS.run l m).man := rfl
        have hrt : readT l m = (RS.run l m).tr := rfl
        have HR := Lib.hid (And.intro hx0 (And.intro hrm hrt)); clear hx0 hrm hrt
        generalize hst : RS.run l m = st at *
        obtain ⟨nd, ndm, dp, man, tr, sd, sg⟩ := st
        have hman := hok.man_lt
        obtain ⟨o1, o2, ⟨o3, o4⟩, o5⟩ := hok
        dsimp only at o1 o2 o3 o4 hsg hsd0 hman
        subst hsg
        clear o5 hst
        have hdb : -3000 ≤ readDp l m ∧ readDp l m ≤ 3000 := by rw [hsd0]; split <;> omega
        obtain ⟨DP, hDP⟩ : ∃ D, D = readDp l m := ⟨_, rfl⟩
        rw [← hDP] at hsd0 hdb
        obtain ⟨d1, d2⟩ := hdb
        have HDP := Lib.hid hDP; clear hDP
        go_upto_if 142 with fail
        go_cut [17] (fun dp wx => dp = .int .i64 DP ∧ wx = wc)
        case first =>
         as_aux_lemma =>
          cases sd with
          | true =>
            simp only [if_true] at hsd0
            go_wp2_with fail
            go_meet
            case rel => exact ⟨by rw [hsd0], rfl⟩
          | false =>
            simp only [Bool.false_eq_true, if_false] at hsd0
            go_wp2_with fail
            go_meet
            case rel => exact ⟨by rw [hsd0], rfl⟩
        case rest =>
          obtain ⟨rfl, rfl⟩ := hcut
          clear hsd0 o3 o4
          obtain ⟨EX, hEX⟩ : ∃ E, E = readE l m := ⟨_, rfl⟩
          have HEX := Lib.hid hEX; clear hEX
          go_upto_region 57 with fail
          go_cut [161] (fun c wx => c = .bool (decide (m < l.length)) ∧ wx = wc)
          case first =>
           as_aux_lemma =>
            by_cases hlt : m < l.length
            · have hlt2 : i0 + m < S.size := by omega
              obtain ⟨c, hc, he⟩ : ∃ c, l[m]? = some c ∧ (c = 101 ∨ c = 69) := by
                have hE := HE.out
                rcases HP.out.hexp with ⟨h1 | h1, _⟩ | ⟨h1, _⟩
                · exact ⟨_, h1, .inl rfl⟩
                · exact ⟨_, h1, .inr rfl⟩
                · omega
              rw [HL.out m, get_at S _ hlt2] at hc
              have hSc : S[i0 + m] = c := Option.some.inj hc
              have e1 : (lowu (S[i0 + m].toNat : Int) == 101) = true := by rw [hSc]; rcases he with rfl | rfl <;> decide +kernel
              have e2 : decide (m < l.length) = true := decide_eq_true hlt
              clear hc hSc he
              go_wp2_with (go_at_call 150; refine (loweru_c _ _).mono ?_; rintro e w' ⟨rfl, rfl⟩)
              all_goals go_meet
              all_goals (case rel => exact ⟨by rw [e2], rfl⟩)
            · have e2 : decide (m < l.length) = false := decide_eq_false hlt
              go_wp2_with (go_at_call 150; refine (loweru_c _ _).mono ?_; rintro e w' ⟨rfl, rfl⟩)
              all_goals go_meet
              all_goals (case rel => exact ⟨by rw [e2], rfl⟩)
          case rest =>
            obtain ⟨rfl, rfl⟩ := hcut
            go_upto_if 161 with fail
            go_cut [7, 9, 17] (fun i us dp wx => i = .int .i64 (S.size : Int) ∧ us = .bool false ∧ dp = .int .i64 (DP + EX) ∧ (-100000 ≤ EX ∧ EX ≤ 100000) ∧ wx = wc)
            case first =>
             as_aux_lemma =>
              by_cases hlt : m < l.length
              · have e2 : decide (m < l.length) = true := decide_eq_true hlt
                obtain ⟨a, hae, hk, hde⟩ : ∃ a, (a = if l[m + 1]? = some 43 ∨ l[m + 1]? = some 45 then m + 2 else m + 1) ∧ 0 < digs (l.drop a) ∧ l.length = a + digs (l.drop a) := by
                  rcases HP.out.hexp with ⟨_, a, h1, h2, h3⟩ | ⟨h1, _⟩
                  · exact ⟨a, h1, h2, HE.out.symm.trans h3⟩
                  · have := HE.out; omega
                obtain ⟨ES, hES⟩ : ∃ ES : Int, ES = if l[m + 1]? = some 45 then -1 else 1 := ⟨_, rfl⟩
                obtain ⟨E0, hE0⟩ : ∃ E0, E0 = exRun (l.drop a) (l.length - a) := ⟨_, rfl⟩
                have hEX : EX = (E0 : Int) * ES := by
                  rw [HEX.out, hE0, hES]
                  unfold readE
                  rw [if_pos hlt]
                  by_cases h45 : l[m + 1]? = some 45
                  · rw [if_pos h45, if_pos h45]
                    have : a = m + 2 := by rw [hae, if_pos (Or.inr h45)]
                    rw [this]; omega
                  · rw [if_neg h45, if_neg h45]
                    by_cases h43 : l[m + 1]? = some 43
                    · have : a = m + 2 := by rw [hae, if_pos (Or.inl h43)]
                      rw [if_pos h43, this]; omega
                    · have : a = m + 1 := by rw [hae, if_neg (by rintro (h | h); exact h43 h; exact h45 h)]
                      rw [if_neg h43, this]; omega
                have hm1 : m + 1 < l.length := by
                  by_cases h : l[m + 1]? = some 43 ∨ l[m + 1]? = some 45
                  · rcases h with h | h <;> exact lt_of_get h
                  · rw [if_neg h] at hae; omega
                obtain ⟨q, hq⟩ : ∃ q, q = i0 + m := ⟨_, rfl⟩
                have hq1 : q + 1 < S.size := by omega
                have hS1 : S.data.toList[q + 1]? = some S[q + 1] := get_at S (q + 1) hq1
                have hl1 : l[m + 1]? = some S[q + 1] := by rw [HL.out, ← hS1, hq]; rfl
                have hqa : i0 + a ≤ S.size := by omega
                obtain ⟨r, hr⟩ : ∃ r, r = i0 + a := ⟨_, rfl⟩
                have hra : (l[m + 1]? = some 43 ∨ l[m + 1]? = some 45 → r = q + 2) ∧ (¬ (l[m + 1]? = some 43 ∨ l[m + 1]? = some 45) → r = q + 1) := by
                  refine ⟨fun h => ?_, fun h => ?_⟩
                  · rw [if_pos h] at hae; omega
                  · rw [if_neg h] at hae; omega
                rw [← hq]
                have HQ := Lib.hid hq; clear hq
                have HRA := Lib.hid hra; clear hra
                have HR0 := Lib.hid hr; clear hr
                have HES := Lib.hid hES; clear hES
                have HE0 := Lib.hid hE0; clear hE0
                have HEX2 := Lib.hid hEX; clear hEX hae
                have HL1 := Lib.hid hl1; clear hl1 hS1
                have HDE := Lib.hid (And.intro hk hde); clear hk hde
                go_upto_block 4 with fail
                go_cut [7, 19] (fun i es wx => i = .int .i64 (r : Int) ∧ es = .int .i64 ES ∧ wx = wc)
                case first =>
                 as_aux_lemma =>
                  by_cases h43 : S[q + 1] = 43
                  · have e3 : ((S[q + 1].toNat : Int) == 43) = true := by rw [h43]; rfl
                    have hr := HRA.out.1 (.inl (by rw [HL1.out, h43]))
                    have hes : ES = 1 := by rw [HES.out, if_neg (by rw [HL1.out, h43]; decide)]
                    have HH := Lib.hid (And.intro hr hes); clear hr hes h43
                    go_wp2_with fail
                    go_meet
                    case rel => exact ⟨by rw [HH.out.1]; go_num, by rw [HH.out.2], rfl⟩
                  · have e3 : ((S[q + 1].toNat : Int) == 43) = false := beq_false_of_ne (fun e => h43 ((byte_eq _ _).2 e))
                    by_cases h45 : S[q + 1] = 45
                    · have e4 : ((S[q + 1].toNat : Int) == 45) = true := by rw [h45]; rfl
                      have hr := HRA.out.1 (.inr (by rw [HL1.out, h45]))
                      have hes : ES = -1 := by rw [HES.out, if_pos (by rw [HL1.out, h45])]
                      have HH := Lib.hid (And.intro hr hes); clear hr hes h43 h45
                      go_wp2_with fail
                      go_meet
                      case rel => exact ⟨by rw [HH.out.1]; go_num, by rw [HH.out.2], rfl⟩
                    · have e4 : ((S[q + 1].toNat : Int) == 45) = false := beq_false_of_ne (fun e => h45 ((byte_eq _ _).2 e))
                      have hr := HRA.out.2 (by rw [HL1.out]; rintro (h | h); exact h43 (Option.some.inj h); exact h45 (Option.some.inj h))
                      have hes : ES = 1 := by rw [HES.out, if_neg (by rw [HL1.out]; intro h; exact h45 (Option.some.inj h))]
                      have HH := Lib.hid (And.intro hr hes); clear hr hes h43 h45
                      go_wp2_with fail
                      go_meet
                      case rel => exact ⟨by rw [HH.out.1]; go_num, by rw [HH.out.2], rfl⟩
                case rest =>
                  obtain ⟨rfl, rfl, rfl⟩ := hcut
                  obtain ⟨n, hn⟩ : ∃ n, n = digs (l.drop a) := ⟨_, rfl⟩
                  obtain ⟨n1, n2⟩ := HDE.out
                  rw [← hn] at n1 n2
                  have hr0 := HR0.out
                  have hrn : r + n = S.size := by omega
                  have hdg : ∀ k, k < n → ∃ (h : r + k < S.size), isDig S[r + k] = true ∧ (l.drop a)[k]? = some S[r + k] := by
                    intro k hk
                    have hlt2 : r + k < S.size := by omega
                    obtain ⟨c, hc, hd⟩ := digs_dig (l.drop a) k (by omega)
                    have hc2 := hc
                    rw [List.getElem?_drop, HL.out, show i0 + (a + k) = r + k by omega, get_at S (r + k) hlt2] at hc2
                    have := Option.some.inj hc2
                    exact ⟨hlt2, by rw [this]; exact hd, by rw [this]; exact hc⟩
                  have hE0 : E0 = exRun (l.drop a) n := by rw [HE0.out]; congr 1; omega
                  have HDG := Lib.hid hdg; clear hdg
                  have HE00 := Lib.hid hE0; clear hE0 hn
                  clear hr0 n2 HE0 HDE HL1 HRA
                  have hr1 : r < S.size := by omega
                  have hES1 : ES = 1 ∨ ES = -1 := by rw [HES.out]; split; exact .inr rfl; exact .inl rfl
                  have HES1 := Lib.hid hES1; clear hES1 HES
                  have hdr : isDig (S[r]'hr1) = true := by obtain ⟨h, hd, _⟩ := HDG.out 0 n1; exact hd
                  rw [isDig_iff] at hdr
                  have e5 : ((S[r].toNat : Int) < 48) = False := eq_false (by omega)
                  have e6 : ((57 : Int) < (S[r].toNat : Int)) = False := eq_false (by omega)
                  clear hdr
                  have HRN := Lib.hid hrn; clear hrn
                  go_upto_block 5 with fail
                  go_cut [7, 9, 20] (fun i us e wx => i = .int .i64 (S.size : Int) ∧ us = .bool false ∧ e = .int .i64 (E0 : Int) ∧ wx = wc)
                  case first =>
                   as_aux_lemma =>
                    clear e5 e6
                    go_wp2_with fail
                    go_loopg [7, 9, 20] n (fun k' i us e wx => ∃ k j x : Nat, k + k' = n ∧ j = r + k ∧ i = .int .i64 (j : Int) ∧ us = .bool false ∧ e = .int .i64 (x : Int) ∧ x = exRun (l.drop a) k ∧ x < 100000 ∧ wx = wc)
                    case atStart => exact ⟨0, r, 0, by omega, by omega, rfl, rfl, rfl, rfl, by omega, rfl⟩
                    case round =>
                      obtain ⟨k, j, x, hk, hj, rfl, rfl, rfl, hx, hxl, rfl⟩ := hrel
                      by_cases hkn : k < n
                      · obtain ⟨hh, hd, hc⟩ := HDG.out k hkn
                        have hxs := exRun_succ (l.drop a) k _ hc
                        rw [← hx] at hxs
                        have hlt2 : j < S.size := by omega
                        have hxl2 := exStep_lt x _ hxl hd
                        have hSj : S[j] = S[r + k] := by congr 1
                        rw [← hSj] at hd hxs hxl2
                        rw [isDig_iff] at hd
                        obtain ⟨f1, f2⟩ := hd
                        have f3 : ((S[j].toNat : Int) == 95) = false := beq_false_of_ne (by omega)
                        have HJ := Lib.hid hj; clear hj hSj hc hh hx
                        by_cases hx1 : x < 10000
                        · have hxe : exStep x S[j] = x * 10 + (S[j].toNat - 48) := by unfold exStep; rw [if_pos hx1]
                          rw [hxe] at hxs hxl2
                          have HXS := Lib.hid (And.intro hxs hxl2); clear hxs hxl2 hxe
                          go_wp2_with fail
                          go_roundg (gk - 1)
                          case rel =>
                            have hj := HJ.out
                            exact ⟨k + 1, j + 1, x * 10 + (S[j].toNat - 48), by omega, by omega, by go_num, rfl, by congr 1; push_cast; omega, HXS.out.1.symm, HXS.out.2, rfl⟩
                          case measure => omega
                        · have hxe : exStep x S[j] = x := by unfold exStep; rw [if_neg hx1]
                          rw [hxe] at hxs hxl2
                          have HXS := Lib.hid (And.intro hxs hxl2); clear hxs hxl2 hxe
                          go_wp2_with fail
                          go_roundg (gk - 1)
                          case rel =>
                            have hj := HJ.out
                            exact ⟨k + 1, j + 1, x, by omega, by omega, by go_num, rfl, rfl, HXS.out.1.symm, HXS.out.2, rfl⟩
                          case measure => omega
                      · have hkn2 : k = n := by omega
                        have hrn := HRN.out
                        have hjs : j = S.size := by omega
                        have hxe : x = E0 := by rw [hx, HE00.out, hkn2]
                        have HJ := Lib.hid (And.intro hjs hxe)
                        have hnl : ¬ j < S.size := by omega
                        clear hj hjs hx hxe hrn hkn2
                        go_wp2_with fail
                        go_meet
                        case rel => exact ⟨by rw [HJ.out.1], rfl, by rw [HJ.out.2], rfl⟩
                  case rest =>
                    obtain ⟨rfl, rfl, rfl, rfl⟩ := hcut
                    have hEl : E0 < 100000 := by
                      have : ∀ k, k ≤ n → exRun (l.drop a) k < 100000 := by
                        intro k
                        induction k with
                        | zero => intro _; unfold exRun; simp
                        | succ k ih =>
                          intro hk
                          obtain ⟨hh, hd, hc⟩ := HDG.out k (by omega)
                          rw [exRun_succ (l.drop a) k _ hc]
                          exact exStep_lt _ _ (ih (by omega)) hd
                      rw [HE00.out]; exact this n (Nat.le_refl _)
                    clear e5 e6
                    rcases HES1.out with rfl | rfl
                    · go_wp2_with fail
                      go_meet
                      case rel => exact ⟨rfl, rfl, by rw [HEX2.out]; congr 1; omega, by rw [HEX2.out]; omega, rfl⟩
                    · go_wp2_with fail
                      go_meet
                      case rel => exact ⟨rfl, rfl, by rw [HEX2.out]; congr 1; omega, by rw [HEX2.out]; omega, rfl⟩
              · have e2 : decide (m < l.length) = false := decide_eq_false hlt
                have hEX : EX = 0 := by rw [HEX.out]; unfold readE; rw [if_neg hlt]
                have hsz : ((S.size : Nat) : Int) = ((i0 + m : Nat) : Int) := by omega
                have HH := Lib.hid (And.intro hEX hsz); clear hEX hsz
                go_wp2_with fail
                go_meet
                case rel => exact ⟨by rw [HH.out.2]; go_num, rfl, by rw [HH.out.1]; simp, by rw [HH.out.1]; omega, rfl⟩
            case rest =>
              obtain ⟨rfl, rfl, rfl, ⟨x1, x2⟩, rfl⟩ := hcut
              have hR := HR.out
              rw [← HDP.out, ← HEX.out] at hR
              have HR2 := Lib.hid hR; clear hR
              by_cases hmz : man = 0
              · have hb : ((man : Int) == 0) = true := by rw [hmz]; rfl
                have hR := HR2.out
                rw [if_pos hmz] at hR
                have HR3 := Lib.hid hR; clear hR
                go_wp2_with fail
                refine bodyPost_ret_by (results_tmp7 rfl _ _ _) rfl ⟨?_, rfl⟩
                rw [← HLD.out, HR3.out.1, HR3.out.2.1, HR3.out.2.2, hmz]
                rfl
              · have hb : ((man : Int) == 0) = false := beq_false_of_ne (by omega)
                have hR := HR2.out
                rw [if_neg hmz] at hR
                have HR3 := Lib.hid hR; clear hR
                go_wp2_with fail
                refine bodyPost_ret_by (results_tmp7 rfl _ _ _) rfl ⟨?_, rfl⟩
                rw [← HLD.out, HR3.out.1, HR3.out.2.1, HR3.out.2.2]
                rfl
end Go.Proofs.YtblpcpkkjbkakaaGreatDoor
