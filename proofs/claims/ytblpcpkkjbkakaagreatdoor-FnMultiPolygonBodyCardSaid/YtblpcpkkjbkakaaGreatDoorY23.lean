/- Lemmas towards the seat's laws: 1 texts joined. -/
import Derived.Test.YtblpcpkkjbkakaaGreatDoorY18
import Derived.Test.YtblpcpkkjbkakaaGreatDoorY22
/- decimal.set on a decimal. -/
namespace Go.Proofs.YtblpcpkkjbkakaaGreatDoor
open Go Go.RowKit
set_option linter.unusedVariables false
set_option linter.unusedSimpArgs false

theorem Dec.sign {w : World} {b nd : Nat} {g : Nat → Nat} {dp : Int} {ng tr : Bool} (h : Dec w b nd g dp ng tr) (x : Bool) : Dec (w.setCell ⟨b, 802, none⟩ (.bool x)) b nd g dp x tr := by
  obtain ⟨h0, h1, R, hr, h2⟩ := h
  exact ⟨h0, h1, _, hr.sign x, fun i hi => by rw [upd_ne _ _ _ _ (by omega)]; exact h2 i (by omega)⟩
theorem Dec.rest {w : World} {b nd : Nat} {g : Nat → Nat} {dp : Int} {ng tr : Bool} (h : Dec w b nd g dp ng tr) (x : Bool) : Dec (w.setCell ⟨b, 803, none⟩ (.bool x)) b nd g dp ng x := by
  obtain ⟨h0, h1, R, hr, h2⟩ := h
  exact ⟨h0, h1, _, hr.rest x, fun i hi => by rw [upd_ne _ _ _ _ (by omega)]; exact h2 i (by omega)⟩
theorem Dec.put {w : World} {b nd : Nat} {g : Nat → Nat} {dp : Int} {ng tr : Bool} (h : Dec w b nd g dp ng tr) (h8 : nd < 800) (d : Nat) (hd : d < 10) :
    Dec ((w.setCell ⟨b, nd, none⟩ (.int .u8 ((48 + d : Nat) : Int))).setCell ⟨b, 800, none⟩ (.int .i64 ((nd + 1 : Nat) : Int))) b (nd + 1) (fun i => if i = nd then d else g i) dp ng tr := by
  obtain ⟨h0, h1, R, hr, h2⟩ := h
  refine ⟨by omega, fun i hi => ?_, _, (hr.byte nd h8 (48 + d) (by omega)).num _, fun i hi => ?_⟩
  · dsimp only
    split
    · exact hd
    · exact h1 i (by omega)
  · rw [upd_ne _ _ _ _ (by omega)]
    dsimp only
    by_cases e : i = nd
    · rw [e, upd_at, if_pos rfl]
    · rw [upd_ne _ _ _ _ e, if_neg e]; exact h2 i (by omega)
def SAt (b : Nat) (ng : Bool) (s : SS) (w wx : World) : Prop := Dec wx b s.nd s.g s.dp ng s.tr ∧ DFr b w wx
def SetPost (b : Nat) (s : DS) (ng : Bool) (w : World) (e : Ending) (w' : World) : Prop :=
  e = .returned (.bool true) ∧ s.At ng w' b ∧ DFr b w w'

set_option maxRecDepth 100000 in
set_option maxHeartbeats 4000000 in
theorem set_any (S : ByteArray) (neg : Bool) (i0 D m b : Nat) (dot ng0 tr0 : Bool) (g0 : Nat → Nat) (w : World) (h : Dec w b 0 g0 0 ng0 tr0) (hs : S.size ≤ 3000) (hm0 : 0 < m) (hml : i0 + m ≤ S.size)
    (hn : (neg = true ∧ i0 = 1 ∧ ∃ h : 0 < S.size, S[0] = 45) ∨ (neg = false ∧ i0 = 0))
    (hP : Parts (S.data.toList.drop i0) D dot m) (hE : decm (S.data.toList.drop i0) = (S.data.toList.drop i0).length) :
    Calls Tryz.prog 131 #[.pointer (some ⟨b, 0, none⟩), .string S] w (SetPost b (setX (S.data.toList.drop i0) m) neg w) := by
  obtain ⟨c0, hc0, hcc⟩ := hP.chars 0 hm0
  rw [get_drop, Nat.add_zero] at hc0
  have hlt0 : i0 < S.size := by omega
  have hS0 : S[i0] = c0 := by rw [get_at S i0 hlt0] at hc0; exact Option.some.inj hc0
  have hq0 : c0 = 46 ∨ isDig c0 = true := by rcases hcc with h | ⟨h, _⟩; exact .inr h; exact .inl h
  have q1 : ((S[i0].toNat : Int) == 43) = false := by
    rw [hS0]; refine beq_false_of_ne fun e => ?_
    rcases hq0 with rfl | h
    · simp at e
    · rw [isDig_iff] at h; omega
  have q2 : ((S[i0].toNat : Int) == 45) = false := by
    rw [hS0]; refine beq_false_of_ne fun e => ?_
    rcases hq0 with rfl | h
    · simp at e
    · rw [isDig_iff] at h; omega
  clear hq0
  have HP := Lib.hid hP; clear hP
  have HE := Lib.hid hE; clear hE
  clear hc0 hS0 hcc
  have hS1 : 0 < S.size := by omega
  have hemp : (S = ByteArray.empty) = False := eq_false (fun e => by rw [e] at hS1; exact absurd hS1 (by decide))
  have HN := Lib.hid hn; clear hn
  obtain ⟨-, -, d2, d3, -, df⟩ := h.cells
  have f2 := df 802
  have f3 := df 803
  have H := Lib.hid h
  clear h df
  go_enter Tryz.func131, Tryz.ntmps131
  go_upto_block 0 with fail
  go_cut [5] (fun i wx => i = .int .i64 i0 ∧ RowKit.Hid (SAt b neg SS.init w wx))
  case first =>
   as_aux_lemma =>
    have h1 : SAt b false SS.init w ((w.setCell ⟨b, 802, none⟩ (.bool false)).setCell ⟨b, 803, none⟩ (.bool false)) := by
      refine ⟨?_, ((DFr.refl b w).set _ _).set _ _⟩
      obtain ⟨a, b1, R, c, d⟩ := (H.out.sign false).rest false
      exact ⟨a, fun i hi => absurd hi (by show ¬ i < 0; omega), R, c, fun i hi => absurd hi (by show ¬ i < 0; omega)⟩
    have HI := Lib.hid h1; clear h1
    rcases HN.out with ⟨rfl, rfl, hh, h45⟩ | ⟨rfl, rfl⟩
    · have e1 : ((S[0].toNat : Int) == 43) = false := by rw [h45]; rfl
      have e2 : ((S[0].toNat : Int) == 45) = true := by rw [h45]; rfl
      clear h45
      go_wp2_with fail
      go_meet
      case rel => exact ⟨rfl, Lib.hid ⟨HI.out.1.sign true, HI.out.2.set _ _⟩⟩
    · go_wp2_with fail
      go_meet
      case rel => exact ⟨rfl, HI⟩
  case rest =>
    obtain ⟨rfl, hat0⟩ := hcut
    clear hemp d2 d3 f2 f3 q1 q2 H
    have hl : ∀ k, (S.data.toList.drop i0)[k]? = S.data.toList[i0 + k]? := fun k => get_drop S i0 k
    obtain ⟨l, hldef⟩ : ∃ l, l = S.data.toList.drop i0 := ⟨_, rfl⟩
    have hlen : l.length = S.size - i0 := by rw [hldef, List.length_drop, ← Lib.size_eq]
    rw [← hldef] at HP HE hl
    have HLD := Lib.hid hldef
    clear hldef
    have HL := Lib.hid hl; clear hl
    clear HN
    go_upto_block 1 with fail
    go_cut [5, 6, 7] (fun i sd sg wx => i = .int .i64 ((i0 + m : Nat) : Int) ∧ sd = .bool (SS.run l m).sd ∧ sg = .bool (SS.run l m).sg ∧ RowKit.Hid (SAt b neg (SS.run l m) w wx))
    case first =>
     as_aux_lemma =>
      go_wp2_with fail
      go_loopg [5, 6, 7] m (fun k' i sd sg wx => ∃ k j : Nat, k + k' = m ∧ j = i0 + k ∧ i = .int .i64 (j : Int) ∧ sd = .bool (SS.run l k).sd ∧ sg = .bool (SS.run l k).sg ∧ RowKit.Hid (SAt b neg (SS.run l k) w wx))
      case atStart => exact ⟨0, i0, by omega, by omega, rfl, rfl, rfl, hat0⟩
      case round =>
        obtain ⟨k, j, hk, hj, rfl, rfl, rfl, hat⟩ := hrel
        by_cases hkm : k < m
        · obtain ⟨c, hc, hcc⟩ := HP.out.chars k hkm
          have hs1 := SS.run_succ l k c hc
          have hok := SS.run_ok HP.out k (by omega)
          have hsd := SS.run_sd HP.out k (by omega)
          rw [HL.out k, ← hj] at hc
          have hlt : j < S.size := by omega
          have hSc : S[j] = c := by rw [get_at S j hlt] at hc; exact Option.some.inj hc
          clear hc
          have HJ := Lib.hid hj; clear hj
          generalize hst : SS.run l k = st at *
          obtain ⟨nd, dp, tr, sd, sg, g⟩ := st
          obtain ⟨o1, o2, ⟨o3, o4⟩, o5, o6⟩ := hok
          dsimp only at o1 o2 o3 o4 o5 o6 hsd
          obtain ⟨d0, d1, -, d3, -, df⟩ := Dec.cells hat.out.1
          dsimp only at d0 d1 d3
          have f0 := df 800
          have f1 := df 801
          have f3 := df 803
          have hdec : Dec wr b nd g dp neg tr := hat.out.1
          have HD := Lib.hid (And.intro hdec hat.out.2)
          clear hdec hat
          rcases hcc with hd | ⟨rfl, rfl, hdd⟩
          · have h46 : c ≠ 46 := (not_e_dig c hd).2.2.2.2
            have hdi := (isDig_iff c).1 hd
            have e1 : ((S[j].toNat : Int) == 95) = false := by rw [hSc]; exact beq_false_of_ne (by omega)
            have e2 : ((S[j].toNat : Int) == 46) = false := by rw [hSc]; exact beq_false_of_ne (fun e => h46 ((byte_eq _ _).2 e))
            have e3 : (48 : Int) ≤ (S[j].toNat : Int) := by rw [hSc]; exact hdi.1
            have e4 : (S[j].toNat : Int) ≤ 57 := by rw [hSc]; exact hdi.2
            by_cases h0 : c = 48 ∧ nd = 0
            · obtain ⟨hc48, rfl⟩ := h0
              have e5 : ((S[j].toNat : Int) == 48) = true := by rw [hSc, hc48]; rfl
              have hs2 : SS.run l (k + 1) = ⟨0, dp - 1, tr, sd, true, g⟩ := by rw [hs1]; unfold SS.step; rw [if_neg h46, if_pos ⟨hc48, rfl⟩]
              have HS := Lib.hid hs2; clear hs2 hs1 hst hSc hsd hdi hd h46 hc48 o5 o6 df
              go_wp2_with fail
              go_roundg (gk - 1)
              case rel =>
                have hj := HJ.out
                refine ⟨k + 1, j + 1, by omega, by omega, by go_num, ?_, ?_, ?_⟩
                · rw [HS.out]
                · rw [HS.out]
                · rw [HS.out]
                  exact Lib.hid ⟨HD.out.1.point _, HD.out.2.set _ _⟩
              case measure => omega
            · have hnd : ((S[j].toNat : Int) == 48 && (nd : Int) == 0) = false := by
                rw [hSc]
                by_cases h48 : c = 48
                · have : ((nd : Int) == 0) = false := beq_false_of_ne (by have : ¬ nd = 0 := fun e => h0 ⟨h48, e⟩; omega)
                  rw [this, Bool.and_false]
                · have : ((c.toNat : Int) == 48) = false := beq_false_of_ne (fun e => h48 ((byte_eq _ _).2 e))
                  rw [this, Bool.false_and]
              by_cases hm : nd < 800
              · have hs2 : SS.run l (k + 1) = ⟨nd + 1, dp, tr, sd, true, fun i => if i = nd then c.toNat - 48 else g i⟩ := by rw [hs1]; unfold SS.step; rw [if_neg h46, if_neg h0, if_pos hm]
                have hdw : Dec wr.drew b nd g dp neg tr := HD.out.1
                have hfw : DFr b w wr.drew := HD.out.2.drewN 1
                have fn : wr.drew.frozen? ⟨b, nd, none⟩ = false := df nd
                have fn0 : wr.drew.frozen? ⟨b, 800, none⟩ = false := f0
                obtain ⟨z, hz1, hz2⟩ : ∃ z : Nat, z < 256 ∧ wr.drew.cell? ⟨b, nd, none⟩ = some (.int .u8 (z : Int)) := by
                  obtain ⟨-, -, R, hr, -⟩ := hdw
                  obtain ⟨x, h1, h2⟩ := hr.2.1 nd hm
                  exact ⟨x, h1, (hr.1.cell nd).trans h2⟩
                have dn0 : wr.drew.cell? ⟨b, 800, none⟩ = some (.int .i64 (nd : Int)) := d0
                have hput := hdw.put hm (c.toNat - 48) (by omega)
                have hfr := (hfw.set nd (.int .u8 (S[j].toNat : Int))).set 800 (.int .i64 ((nd + 1 : Nat) : Int))
                rw [show 48 + (c.toNat - 48) = S[j].toNat by rw [hSc]; omega] at hput
                obtain ⟨W, hW⟩ : ∃ W, W = wr.drew := ⟨_, rfl⟩
                rw [← hW] at hput hfr fn fn0 hz2 dn0
                have HS := Lib.hid (And.intro hs2 (And.intro hput hfr)); clear hs2 hs1 hst hsd hdi hd h46 o5 o6 df hput hfr hdw hfw
                have hstep : RowKit.Hid (((S[j].toNat : Int) == 48) = false ∨ (((S[j].toNat : Int) == 48) = true ∧ ((nd : Int) == 0) = false)) := Lib.hid (by
                  cases h : ((S[j].toNat : Int) == 48) with
                  | false => exact .inl rfl
                  | true => rw [h, Bool.true_and] at hnd; exact .inr ⟨rfl, hnd⟩)
                clear hSc h0 hnd
                have HW := Lib.hid hW; clear hW
                rcases hstep.out with h48 | ⟨h48, h49⟩
                all_goals
                  go_wp2_with fail
                  go_still_tail 11, (by kernel_rfl)
                  change wpList _ _ _ _ _ wr.drew
                  rw [← HW.out]
                  clear d0 d1 d3 f0 f1 f3
                  go_wp2_with fail
                  go_roundg (gk - 1)
                  case rel =>
                    have hj := HJ.out
                    refine ⟨k + 1, j + 1, by omega, by omega, by go_num, ?_, ?_, ?_⟩
                    · rw [HS.out.1]
                    · rw [HS.out.1]
                    · rw [HS.out.1]
                      exact Lib.hid HS.out.2
                  case measure => omega
              · have o7 : nd = 800 := by omega
                subst o7
                have e6 : ((800 : Int) == 0) = false := rfl
                by_cases h48 : c = 48
                · have hs2 : SS.run l (k + 1) = ⟨800, dp, tr, sd, true, g⟩ := by
                    rw [hs1]; unfold SS.step; rw [if_neg h46, if_neg h0, if_neg hm, h48]; simp
                  have e5 : ((S[j].toNat : Int) == 48) = true := by rw [hSc, h48]; rfl
                  have HS := Lib.hid hs2; clear hs2 hs1 hst hsd hdi hd h46 o5 o6 hSc h0 hnd h48 hm df
                  go_wp2_with fail
                  go_roundg (gk - 1)
                  case rel =>
                    have hj := HJ.out
                    refine ⟨k + 1, j + 1, by omega, by omega, by go_num, ?_, ?_, ?_⟩
                    · rw [HS.out]
                    · rw [HS.out]
                    · rw [HS.out]
                      exact Lib.hid HD.out
                  case measure => omega
                · have hs2 : SS.run l (k + 1) = ⟨800, dp, true, sd, true, g⟩ := by
                    rw [hs1]; unfold SS.step; rw [if_neg h46, if_neg h0, if_neg hm]
                    have : (c != 48) = true := by simpa using h48
                    rw [this, Bool.or_true]
                  have e5 : ((S[j].toNat : Int) == 48) = false := by rw [hSc]; exact beq_false_of_ne (fun e => h48 ((byte_eq _ _).2 e))
                  have HS := Lib.hid hs2; clear hs2 hs1 hst hsd hdi hd h46 o5 o6 hSc h0 hnd h48 hm df
                  go_wp2_with fail
                  go_roundg (gk - 1)
                  case rel =>
                    have hj := HJ.out
                    refine ⟨k + 1, j + 1, by omega, by omega, by go_num, ?_, ?_, ?_⟩
                    · rw [HS.out]
                    · rw [HS.out]
                    · rw [HS.out]
                      exact Lib.hid ⟨HD.out.1.rest true, HD.out.2.set _ _⟩
                  case measure => omega
          · have hs2 : SS.run l (k + 1) = ⟨nd, nd, tr, true, sg, g⟩ := by rw [hs1]; unfold SS.step; rw [if_pos rfl]
            have hsf : sd = false := by rw [hsd, hdd]; simp
            subst hsf
            have e1 : ((S[j].toNat : Int) == 95) = false := by rw [hSc]; rfl
            have e2 : ((S[j].toNat : Int) == 46) = true := by rw [hSc]; rfl
            have HS := Lib.hid hs2; clear hs2 hs1 hst hsd hSc o5 o6 df
            go_wp2_with fail
            go_roundg (gk - 1)
            case rel =>
              have hj := HJ.out
              refine ⟨k + 1, j + 1, by omega, by omega, by go_num, ?_, ?_, ?_⟩
              · rw [HS.out]
              · rw [HS.out]
              · rw [HS.out]
                exact Lib.hid ⟨HD.out.1.point _, HD.out.2.set _ _⟩
            case measure => omega
        · have hkm2 : k = m := by omega
          subst hkm2
          have hje : j = i0 + k := hj
          by_cases hlt : j < S.size
          · obtain ⟨c, hc, he⟩ : ∃ c, l[k]? = some c ∧ (c = 101 ∨ c = 69) := by
              have hE := HE.out
              rcases HP.out.hexp with ⟨h1 | h1, _⟩ | ⟨h1, _⟩
              · exact ⟨_, h1, .inl rfl⟩
              · exact ⟨_, h1, .inr rfl⟩
              · omega
            rw [HL.out k, ← hj, get_at S j hlt] at hc
            have hSc : S[j] = c := Option.some.inj hc
            have HJ := Lib.hid hj; clear hj hc hje
            have hcv : (S[j].toNat : Int) = 101 ∨ (S[j].toNat : Int) = 69 := by rw [hSc]; rcases he with rfl | rfl; exact .inl rfl; exact .inr rfl
            have e1 : ((S[j].toNat : Int) == 95) = false := beq_false_of_ne (by omega)
            have e2 : ((S[j].toNat : Int) == 46) = false := beq_false_of_ne (by omega)
            have e3 : ((S[j].toNat : Int) ≤ 57) = False := eq_false (by omega)
            have e4 : ((48 : Int) ≤ (S[j].toNat : Int)) = True := eq_true (by omega)
            clear hSc hcv he
            go_wp2_with fail
            go_meet
            case rel => exact ⟨by rw [HJ.out], rfl, rfl, hat⟩
          · have HJ := Lib.hid hj; clear hj hje
            go_wp2_with fail
            go_meet
            case rel => exact ⟨by rw [HJ.out], rfl, rfl, hat⟩
    case rest =>
      obtain ⟨rfl, rfl, rfl, hat⟩ := hcut
      clear hat0
      have hsg := SS.run_sg HP.out
      have hok := SS.run_ok HP.out m (Nat.le_refl _)
      have hX : setX l m = ⟨(SS.run l m).nd, (SS.run l m).g, (if (SS.run l m).sd then (SS.run l m).dp else (SS.run l m).nd) + readE l m, (SS.run l m).tr⟩ := rfl
      generalize hst : SS.run l m = st at *
      obtain ⟨nd, dp, tr, sd, sg, g⟩ := st
      obtain ⟨o1, o2, ⟨o3, o4⟩, -, -⟩ := hok
      dsimp only at o1 o2 o3 o4 hsg hX
      subst hsg
      clear hst
      obtain ⟨DP, hDP⟩ : ∃ DP : Int, DP = if sd then dp else (nd : Int) := ⟨_, rfl⟩
      have hdb : -3000 ≤ DP ∧ DP ≤ 3000 := by rw [hDP]; split <;> omega
      obtain ⟨b1, b2⟩ := hdb
      rw [← hDP] at hX
      have hdec : Dec wc b nd g dp neg tr := hat.out.1
      have hdf : DFr b w wc := hat.out.2
      obtain ⟨d0, d1, -, -, -, df⟩ := hdec.cells
      have f1 := df 801
      have HD := Lib.hid (And.intro hdec hdf)
      have HX := Lib.hid hX
      have HDP := Lib.hid hDP
      clear hdec hdf hat df hX hDP
      go_upto_if 120 with fail
      go_cut [] (fun wx => RowKit.Hid (Dec wx b nd g DP neg tr ∧ DFr b w wx))
      case first =>
       as_aux_lemma =>
        cases sd with
        | true =>
          have hDP := HDP.out
          simp only [if_true] at hDP
          have HH := Lib.hid hDP; clear hDP
          go_wp2_with fail
          go_meet
          case rel => rw [HH.out]; exact HD
        | false =>
          have hDP := HDP.out
          simp only [Bool.false_eq_true, if_false] at hDP
          have HH := Lib.hid hDP; clear hDP
          go_wp2_with fail
          go_meet
          case rel => rw [HH.out]; exact Lib.hid ⟨HD.out.1.point _, HD.out.2.set _ _⟩
      case rest =>
        have hat := hcut
        clear hcut d0 d1 f1 HD HDP o1 o3 o4
        obtain ⟨EX, hEX⟩ : ∃ E, E = readE l m := ⟨_, rfl⟩
        have HEX := Lib.hid hEX; clear hEX
        go_upto_region 32 with fail
        go_cut [138] (fun c wx => c = .bool (decide (m < l.length)) ∧ wc = wx)
        case first =>
         as_aux_lemma =>
          by_cases hlt : m < l.length
          · have hlt2 : i0 + m < S.size := by omega
            obtain ⟨c, hc, he⟩ : ∃ c, l[m]? = some c ∧ (c = 101 ∨ c = 69) := by
              have hE := HE.out
              rcases HP.out.hexp with ⟨h1 | h1, _⟩ | ⟨h1, _⟩
              · exact ⟨_, h1, .inl rfl⟩
              · exact ⟨_, h1, .inr rfl⟩
              · omega
            rw [HL.out m, get_at S _ hlt2] at hc
            have hSc : S[i0 + m] = c := Option.some.inj hc
            have e1 : (lowu (S[i0 + m].toNat : Int) == 101) = true := by rw [hSc]; rcases he with rfl | rfl <;> decide +kernel
            have e2 : decide (m < l.length) = true := decide_eq_true hlt
            clear hc hSc he
            go_wp2_with (go_at_call 150; refine (loweru_c _ _).mono ?_; rintro e w' ⟨rfl, rfl⟩)
            all_goals go_meet
            all_goals (case rel => exact ⟨by rw [e2], rfl⟩)
          · have e2 : decide (m < l.length) = false := decide_eq_false hlt
            go_wp2_with (go_at_call 150; refine (loweru_c _ _).mono ?_; rintro e w' ⟨rfl, rfl⟩)
            all_goals go_meet
            all_goals (case rel => exact ⟨by rw [e2], rfl⟩)
        case rest =>
          obtain ⟨rfl, rfl⟩ := hcut
          go_upto_if 138 with fail
          go_cut [5] (fun i wx => i = .int .i64 (S.size : Int) ∧ RowKit.Hid (Dec wx b nd g (DP + EX) neg tr ∧ DFr b w wx))
          case first =>
           as_aux_lemma =>
            by_cases hlt : m < l.length
            · have e2 : decide (m < l.length) = true := decide_eq_true hlt
              obtain ⟨a, hae, hk, hde⟩ : ∃ a, (a = if l[m + 1]? = some 43 ∨ l[m + 1]? = some 45 then m + 2 else m + 1) ∧ 0 < digs (l.drop a) ∧ l.length = a + digs (l.drop a) := by
                rcases HP.out.hexp with ⟨_, a, h1, h2, h3⟩ | ⟨h1, _⟩
                · exact ⟨a, h1, h2, HE.out.symm.trans h3⟩
                · have := HE.out; omega
              obtain ⟨ES, hES⟩ : ∃ ES : Int, ES = if l[m + 1]? = some 45 then -1 else 1 := ⟨_, rfl⟩
              obtain ⟨E0, hE0⟩ : ∃ E0, E0 = exRun (l.drop a) (l.length - a) := ⟨_, rfl⟩
              have hEX : EX = (E0 : Int) * ES := by
                rw [HEX.out, hE0, hES]
                unfold readE
                rw [if_pos hlt]
                by_cases h45 : l[m + 1]? = some 45
                · rw [if_pos h45, if_pos h45]
                  have : a = m + 2 := by rw [hae, if_pos (Or.inr h45)]
                  rw [this]; omega
                · rw [if_neg h45, if_neg h45]
                  by_cases h43 : l[m + 1]? = some 43
                  · have : a = m + 2 := by rw [hae, if_pos (Or.inl h43)]
                    rw [if_pos h43, this]; omega
                  · have : a = m + 1 := by rw [hae, if_neg (by rintro (h | h); exact h43 h; exact h45 h)]
                    rw [if_neg h43, this]; omega
              have hm1 : m + 1 < l.length := by
                by_cases h : l[m + 1]? = some 43 ∨ l[m + 1]? = some 45
                · rcases h with h | h <;> exact lt_of_get h
                · rw [if_neg h] at hae; omega
              obtain ⟨q, hq⟩ : ∃ q, q = i0 + m := ⟨_, rfl⟩
              have hq1 : q + 1 < S.size := by omega
              have hS1 : S.data.toList[q + 1]? = some S[q + 1] := get_at S (q + 1) hq1
              have hl1 : l[m + 1]? = some S[q + 1] := by rw [HL.out, ← hS1, hq]; rfl
              have hqa : i0 + a ≤ S.size := by omega
              obtain ⟨r, hr⟩ : ∃ r, r = i0 + a := ⟨_, rfl⟩
              have hra : (l[m + 1]? = some 43 ∨ l[m + 1]? = some 45 → r = q + 2) ∧ (¬ (l[m + 1]? = some 43 ∨ l[m + 1]? = some 45) → r = q + 1) := by
                refine ⟨fun h => ?_, fun h => ?_⟩
                · rw [if_pos h] at hae; omega
                · rw [if_neg h] at hae; omega
              rw [← hq]
              have HQ := Lib.hid hq; clear hq
              have HRA := Lib.hid hra; clear hra
              have HR0 := Lib.hid hr; clear hr
              have HES := Lib.hid hES; clear hES
              have HE0 := Lib.hid hE0; clear hE0
              have HEX2 := Lib.hid hEX; clear hEX hae
              have HL1 := Lib.hid hl1; clear hl1 hS1
              have HDE := Lib.hid (And.intro hk hde); clear hk hde
              go_upto_block 4 with fail
              go_cut [5, 8] (fun i es wx => i = .int .i64 (r : Int) ∧ es = .int .i64 ES ∧ wc = wx)
              case first =>
               as_aux_lemma =>
                by_cases h43 : S[q + 1] = 43
                · have e3 : ((S[q + 1].toNat : Int) == 43) = true := by rw [h43]; rfl
                  have hr := HRA.out.1 (.inl (by rw [HL1.out, h43]))
                  have hes : ES = 1 := by rw [HES.out, if_neg (by rw [HL1.out, h43]; decide)]
                  have HH := Lib.hid (And.intro hr hes); clear hr hes h43
                  go_wp2_with fail
                  go_meet
                  case rel => exact ⟨by rw [HH.out.1]; go_num, by rw [HH.out.2], rfl⟩
                · have e3 : ((S[q + 1].toNat : Int) == 43) = false := beq_false_of_ne (fun e => h43 ((byte_eq _ _).2 e))
                  by_cases h45 : S[q + 1] = 45
                  · have e4 : ((S[q + 1].toNat : Int) == 45) = true := by rw [h45]; rfl
                    have hr := HRA.out.1 (.inr (by rw [HL1.out, h45]))
                    have hes : ES = -1 := by rw [HES.out, if_pos (by rw [HL1.out, h45])]
                    have HH := Lib.hid (And.intro hr hes); clear hr hes h43 h45
                    go_wp2_with fail
                    go_meet
                    case rel => exact ⟨by rw [HH.out.1]; go_num, by rw [HH.out.2], rfl⟩
                  · have e4 : ((S[q + 1].toNat : Int) == 45) = false := beq_false_of_ne (fun e => h45 ((byte_eq _ _).2 e))
                    have hr := HRA.out.2 (by rw [HL1.out]; rintro (h | h); exact h43 (Option.some.inj h); exact h45 (Option.some.inj h))
                    have hes : ES = 1 := by rw [HES.out, if_neg (by rw [HL1.out]; intro h; exact h45 (Option.some.inj h))]
                    have HH := Lib.hid (And.intro hr hes); clear hr hes h43 h45
                    go_wp2_with fail
                    go_meet
                    case rel => exact ⟨by rw [HH.out.1]; go_num, by rw [HH.out.2], rfl⟩
              case rest =>
                obtain ⟨rfl, rfl, rfl⟩ := hcut
                obtain ⟨n, hn⟩ : ∃ n, n = digs (l.drop a) := ⟨_, rfl⟩
                obtain ⟨n1, n2⟩ := HDE.out
                rw [← hn] at n1 n2
                have hr0 := HR0.out
                have hrn : r + n = S.size := by omega
                have hdg : ∀ k, k < n → ∃ (h : r + k < S.size), isDig S[r + k] = true ∧ (l.drop a)[k]? = some S[r + k] := by
                  intro k hk
                  have hlt2 : r + k < S.size := by omega
                  obtain ⟨c, hc, hd⟩ := digs_dig (l.drop a) k (by omega)
                  have hc2 := hc
                  rw [List.getElem?_drop, HL.out, show i0 + (a + k) = r + k by omega, get_at S (r + k) hlt2] at hc2
                  have := Option.some.inj hc2
                  exact ⟨hlt2, by rw [this]; exact hd, by rw [this]; exact hc⟩
                have hE0 : E0 = exRun (l.drop a) n := by rw [HE0.out]; congr 1; omega
                have HDG := Lib.hid hdg; clear hdg
                have HE00 := Lib.hid hE0; clear hE0 hn
                clear hr0 n2 HE0 HDE HL1 HRA
                have hr1 : r < S.size := by omega
                have hES1 : ES = 1 ∨ ES = -1 := by rw [HES.out]; split; exact .inr rfl; exact .inl rfl
                have HES1 := Lib.hid hES1; clear hES1 HES
                have hdr : isDig (S[r]'hr1) = true := by obtain ⟨h, hd, _⟩ := HDG.out 0 n1; exact hd
                rw [isDig_iff] at hdr
                have e5 : ((S[r].toNat : Int) < 48) = False := eq_false (by omega)
                have e6 : ((57 : Int) < (S[r].toNat : Int)) = False := eq_false (by omega)
                clear hdr
                have HRN := Lib.hid hrn; clear hrn
                go_upto_block 5 with fail
                go_cut [5, 9] (fun i e wx => i = .int .i64 (S.size : Int) ∧ e = .int .i64 (E0 : Int) ∧ wc = wx)
                case first =>
                 as_aux_lemma =>
                  clear e5 e6
                  go_wp2_with fail
                  go_loopg [5, 9] n (fun k' i e wx => ∃ k j x : Nat, k + k' = n ∧ j = r + k ∧ i = .int .i64 (j : Int) ∧ e = .int .i64 (x : Int) ∧ x = exRun (l.drop a) k ∧ x < 100000 ∧ wc = wx)
                  case atStart => exact ⟨0, r, 0, by omega, by omega, rfl, rfl, rfl, by omega, rfl⟩
                  case round =>
                    obtain ⟨k, j, x, hk, hj, rfl, rfl, hx, hxl, rfl⟩ := hrel
                    by_cases hkn : k < n
                    · obtain ⟨hh, hd, hc⟩ := HDG.out k hkn
                      have hxs := exRun_succ (l.drop a) k _ hc
                      rw [← hx] at hxs
                      have hlt2 : j < S.size := by omega
                      have hxl2 := exStep_lt x _ hxl hd
                      have hSj : S[j] = S[r + k] := by congr 1
                      rw [← hSj] at hd hxs hxl2
                      rw [isDig_iff] at hd
                      obtain ⟨f1, f2⟩ := hd
                      have f3 : ((S[j].toNat : Int) == 95) = false := beq_false_of_ne (by omega)
                      have HJ := Lib.hid hj; clear hj hSj hc hh hx
                      by_cases hx1 : x < 10000
                      · have hxe : exStep x S[j] = x * 10 + (S[j].toNat - 48) := by unfold exStep; rw [if_pos hx1]
                        rw [hxe] at hxs hxl2
                        have HXS := Lib.hid (And.intro hxs hxl2); clear hxs hxl2 hxe
                        go_wp2_with fail
                        go_roundg (gk - 1)
                        case rel =>
                          have hj := HJ.out
                          exact ⟨k + 1, j + 1, x * 10 + (S[j].toNat - 48), by omega, by omega, by go_num, by congr 1; push_cast; omega, HXS.out.1.symm, HXS.out.2, rfl⟩
                        case measure => omega
                      · have hxe : exStep x S[j] = x := by unfold exStep; rw [if_neg hx1]
                        rw [hxe] at hxs hxl2
                        have HXS := Lib.hid (And.intro hxs hxl2); clear hxs hxl2 hxe
                        go_wp2_with fail
                        go_roundg (gk - 1)
                        case rel =>
                          have hj := HJ.out
                          exact ⟨k + 1, j + 1, x, by omega, by omega, by go_num, rfl, HXS.out.1.symm, HXS.out.2, rfl⟩
                        case measure => omega
                    · have hkn2 : k = n := by omega
                      have hrn := HRN.out
                      have hjs : j = S.size := by omega
                      have hxe : x = E0 := by rw [hx, HE00.out, hkn2]
                      have HJ := Lib.hid (And.intro hjs hxe)
                      have hnl : ¬ j < S.size := by omega
                      clear hj hjs hx hxe hrn hkn2
                      go_wp2_with fail
                      go_meet
                      case rel => exact ⟨by rw [HJ.out.1], by rw [HJ.out.2], rfl⟩
                case rest =>
                  obtain ⟨rfl, rfl, rfl⟩ := hcut
                  have hEl : E0 < 100000 := by
                    have : ∀ k, k ≤ n → exRun (l.drop a) k < 100000 := by
                      intro k
                      induction k with
                      | zero => intro _; unfold exRun; simp
                      | succ k ih =>
                        intro hk
                        obtain ⟨hh, hd, hc⟩ := HDG.out k (by omega)
                        rw [exRun_succ (l.drop a) k _ hc]
                        exact exStep_lt _ _ (ih (by omega)) hd
                    rw [HE00.out]; exact this n (Nat.le_refl _)
                  clear e5 e6
                  obtain ⟨-, d1, -, -, -, df⟩ := hat.out.1.cells
                  have f1 := df 801
                  clear df
                  rcases HES1.out with rfl | rfl
                  · go_wp2_with fail
                    go_meet
                    case rel =>
                      refine ⟨rfl, ?_⟩
                      rw [HEX2.out]
                      have := hat.out.1.point (DP + (E0 : Int) * 1)
                      rw [Int.mul_one] at this ⊢
                      exact Lib.hid ⟨this, hat.out.2.set _ _⟩
                  · go_wp2_with fail
                    go_meet
                    case rel =>
                      refine ⟨rfl, ?_⟩
                      rw [HEX2.out, show DP + (E0 : Int) * -1 = DP + -(E0 : Int) by omega]
                      exact Lib.hid ⟨hat.out.1.point _, hat.out.2.set _ _⟩
            · have e2 : decide (m < l.length) = false := decide_eq_false hlt
              have hEX : EX = 0 := by rw [HEX.out]; unfold readE; rw [if_neg hlt]
              have hsz : ((S.size : Nat) : Int) = ((i0 + m : Nat) : Int) := by omega
              have HH := Lib.hid (And.intro hEX hsz); clear hEX hsz
              go_wp2_with fail
              go_meet
              case rel => exact ⟨by rw [HH.out.2], by rw [HH.out.1, Int.add_zero]; exact hat⟩
          case rest =>
            obtain ⟨rfl, hat2⟩ := hcut
            go_wp2_with fail
            go_ret
            rw [← HLD.out]
            refine ⟨rfl, ?_, hat2.out.2⟩
            rw [HX.out, ← HEX.out]
            exact hat2.out.1

end Go.Proofs.YtblpcpkkjbkakaaGreatDoor
