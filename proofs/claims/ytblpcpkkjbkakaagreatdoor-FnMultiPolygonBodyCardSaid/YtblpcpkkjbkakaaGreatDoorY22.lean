/- Lemmas towards the seat's laws: 5 texts joined. -/
import Derived.Test.YtblpcpkkjbkakaaGreatDoorY21
import GoSem.PinnedTables
import Derived.Test.YtblpcpkkjbkakaaGreatDoorY17
/- rightShift. -/
namespace Go.Proofs.YtblpcpkkjbkakaaGreatDoor
open Go Go.RowKit
set_option linter.unusedVariables false
set_option linter.unusedSimpArgs false

theorem idp (n k : Nat) : ((n : Int) / 2 ^ k) = ((n / 2 ^ k : Nat) : Int) := by
  rw [Int.natCast_ediv]; simp

def RsPost (b nd : Nat) (g : Nat → Nat) (dp : Int) (ng tr : Bool) (k : Nat) (w : World) (e : Ending) (w' : World) : Prop :=
  e = .returned (.tuple #[]) ∧ Dec w' b (rsN nd g k) (rsD nd g k) (dp - ((rsR nd g k : Int) - 1)) ng (rsT nd g k tr (nd + 80)) ∧ DFr b w w'

set_option maxRecDepth 100000 in
set_option maxHeartbeats 1000000 in
theorem right_any (b nd : Nat) (g : Nat → Nat) (dp : Int) (ng tr : Bool) (k : Nat) (w : World) (h : Dec w b nd g dp ng tr) (h0 : 0 < nd) (hg : g 0 ≠ 0) (hk1 : 1 ≤ k) (hk : k ≤ 60)
    (hd1 : -1000000 ≤ dp) (hd2 : dp ≤ 1000000) : Calls Tryz.prog 168 #[.pointer (some ⟨b, 0, none⟩), .int .u64 (k : Int)] w (RsPost b nd g dp ng tr k w) := by
  have h8 := h.2.1
  have hl := h.1
  obtain ⟨hR20, hRs, hRe⟩ := rsR_found nd g h0 hg k hk
  have hP := two_pow_lt k hk
  obtain ⟨c0, c1, -, c3, cd, cf⟩ := h.cells
  have HC := Lib.hid cd; clear cd
  have H8 := Lib.hid h8; clear h8
  have H := Lib.hid h; clear h
  have HR := Lib.hid (And.intro hR20 (And.intro hRs hRe)); clear hR20 hRs hRe
  have HP := Lib.hid hP; clear hP
  have HG := Lib.hid hg; clear hg
  have f1 := cf 801
  go_enter Tryz.func168, Tryz.ntmps168
  go_upto_block 0 with fail
  go_cut [4, 6, 7] (fun r n _ wx => r = .int .i64 (rsR nd g k) ∧ n = .int .u64 (rsM nd g k 0) ∧ wx = w)
  case first =>
    go_wp2_with fail
    go_loop [4, 6, 7] (fun r n c => ∃ j : Nat, j ≤ nd ∧ j ≤ 20 ∧ r = .int .i64 j ∧ n = .int .u64 (pn nd g j) ∧ RowKit.Hid (∀ i, i < j → pn nd g i < 2 ^ k)) (fun r _ _ => 20 - (intOf r).toNat)
    case atStart => exact ⟨0, Nat.zero_le _, Nat.zero_le _, rfl, rfl, Lib.hid (fun i hi => absurd hi (by omega))⟩
    case round =>
      obtain ⟨j, hj, hj20, rfl, rfl, hj2⟩ := hrel
      by_cases hp : pn nd g j < 2 ^ k
      · have hj19 := pn_short nd g h0 HG.out k hk j hp
        by_cases hjn : j < nd
        · have ck := HC.out j hjn
          have hd := H8.out j hjn
          have hnx : pn nd g (j + 1) = pn nd g j * 10 + g j := by
            show pn nd g j * 10 + gz nd g j = _
            unfold gz; rw [if_pos hjn]
          have hb := HP.out
          obtain ⟨n, hn⟩ : ∃ n, n = pn nd g j := ⟨_, rfl⟩
          obtain ⟨y, hy⟩ : ∃ y, y = g j := ⟨_, rfl⟩
          rw [← hn] at hnx hp ⊢
          rw [← hy] at ck hd hnx
          have hz : n / 2 ^ k = 0 := Nat.div_eq_of_lt hp
          have hq := idp n k
          rw [hz] at hq
          have e1 : (IntKind.u64.wrap (IntKind.u64.wrap (IntKind.u64.wrap ((n : Int) * 10) + ((48 + y : Nat) : Int)) - 48)) = ((n * 10 + y : Nat) : Int) := by simp only [IntKind.wrap_u64]; omega
          have HN := Lib.hid hnx; clear hnx
          have HY := Lib.hid (And.intro hn (And.intro hy hp)); clear hn hy hp hz
          have hj8 : j < 800 := by omega
          have hn60 : n < 1152921504606846976 := by have := HY.out.2.2; omega
          go_wp2_with fail
          go_round
          case rel =>
            refine ⟨j + 1, by omega, by omega, by go_num, ?_, Lib.hid (fun i hi => ?_)⟩
            · rw [HN.out]
              congr 1
              omega
            · by_cases e : i = j
              · rw [e, ← HY.out.1]; exact HY.out.2.2
              · exact hj2.out i (by omega)
          case measure => simp [intOf]; omega
        · have hb := HP.out
          have hjp : pn nd g j ≠ 0 := by
            have : 1 ≤ j := by omega
            obtain ⟨i, rfl⟩ : ∃ i, j = i + 1 := ⟨j - 1, by omega⟩
            have h1 := pn_ge nd g h0 HG.out i
            have h2 : 0 < 10 ^ i := Nat.pow_pos (by decide)
            omega
          obtain ⟨n, hn⟩ : ∃ n, n = pn nd g j := ⟨_, rfl⟩
          rw [← hn] at hp hjp ⊢
          have hz : n / 2 ^ k = 0 := Nat.div_eq_of_lt hp
          have hq := idp n k
          rw [hz] at hq
          have e0 : ((n : Int) == 0) = false := beq_false_of_ne (by omega)
          have hn60 : n < 1152921504606846976 := by omega
          have HY := Lib.hid (And.intro hn (And.intro hp hjp)); clear hn hp hjp hz
          have HJ := Lib.hid hj; clear hj
          go_wp2_with fail
          go_loop [4, 6] (fun r n => ∃ i : Nat, nd ≤ i ∧ i ≤ 20 ∧ r = .int .i64 i ∧ n = .int .u64 (pn nd g i) ∧ RowKit.Hid (∀ x, x < i → pn nd g x < 2 ^ k)) (fun r _ => 20 - (intOf r).toNat)
          case atStart => exact ⟨j, by omega, hj20, rfl, by rw [HY.out.1], hj2⟩
          case round =>
            obtain ⟨i, hi1, hi2, rfl, rfl, hi3⟩ := hrel
            by_cases hp : pn nd g i < 2 ^ k
            · have hi19 := pn_short nd g h0 HG.out k hk i hp
              have hnx : pn nd g (i + 1) = pn nd g i * 10 := by
                show pn nd g i * 10 + gz nd g i = _
                unfold gz; rw [if_neg (by omega)]; rfl
              obtain ⟨m, hm⟩ : ∃ n, n = pn nd g i := ⟨_, rfl⟩
              rw [← hm] at hnx hp ⊢
              have hz : m / 2 ^ k = 0 := Nat.div_eq_of_lt hp
              have hq := idp m k
              rw [hz] at hq
              have hm60 : m < 1152921504606846976 := by omega
              have HN := Lib.hid hnx; clear hnx
              have HY2 := Lib.hid (And.intro hm hp); clear hm hp hz
              go_wp2_with fail
              go_round
              case rel =>
                refine ⟨i + 1, by omega, by omega, by go_num, ?_, Lib.hid (fun x hx => ?_)⟩
                · rw [HN.out]
                  congr 1
                · by_cases e : x = i
                  · rw [e, ← HY2.out.1]; exact HY2.out.2
                  · exact hi3.out x (by omega)
              case measure => simp [intOf]; omega
            · have hRi := rsR_eq nd g k i hi3.out (by omega) (by omega)
              have hM : rsM nd g k 0 = pn nd g i := by show pn nd g (rsR nd g k) = _; rw [hRi]
              have HRi := Lib.hid (And.intro hRi hM); clear hRi hM
              obtain ⟨m, hm⟩ : ∃ n, n = pn nd g i := ⟨_, rfl⟩
              rw [← hm] at hp ⊢
              have hz : 0 < m / 2 ^ k := Nat.div_pos (by omega) (Nat.pow_pos (by decide))
              have hq := idp m k
              obtain ⟨q, hqq⟩ : ∃ q, q = m / 2 ^ k := ⟨_, rfl⟩
              rw [← hqq] at hq hz
              have e5 : ((q : Int) == 0) = false := beq_false_of_ne (by omega)
              have HY2 := Lib.hid (And.intro hm (And.intro hp hqq)); clear hm hp hqq
              go_wp2_with fail
              go_meet
              case rel => exact ⟨by rw [HRi.out.1], by rw [HRi.out.2, HY2.out.1], rfl⟩
      · have hRi := rsR_eq nd g k j hj2.out (by omega) (by omega)
        have hM : rsM nd g k 0 = pn nd g j := by show pn nd g (rsR nd g k) = _; rw [hRi]
        have HRi := Lib.hid (And.intro hRi hM); clear hRi hM
        obtain ⟨m, hm⟩ : ∃ n, n = pn nd g j := ⟨_, rfl⟩
        rw [← hm] at hp ⊢
        have hz : 0 < m / 2 ^ k := Nat.div_pos (by omega) (Nat.pow_pos (by decide))
        have hq := idp m k
        obtain ⟨q, hqq⟩ : ∃ q, q = m / 2 ^ k := ⟨_, rfl⟩
        rw [← hqq] at hq hz
        have e5 : ((q : Int) == 0) = false := beq_false_of_ne (by omega)
        have HY2 := Lib.hid (And.intro hm (And.intro hp hqq)); clear hm hp hqq
        go_wp2_with fail
        go_meet
        case rel => exact ⟨by rw [HRi.out.1], by rw [HRi.out.2, HY2.out.1], rfl⟩
  case rest =>
    obtain ⟨rfl, rfl, rfl⟩ := hcut
    rename World => W0
    have hM0 := rsM_lt nd g h0 HG.out H8.out k hk 0
    have hb := HP.out
    have hsh : IntKind.u64.wrap (2 ^ k) = ((2 ^ k : Nat) : Int) := by
      rw [IntKind.wrap_u64]
      have : (2 : Int) ^ k = ((2 ^ k : Nat) : Int) := by simp
      rw [this]; omega
    have hpp : 0 < 2 ^ k := Nat.pow_pos (by decide)
    obtain ⟨R, hRR⟩ : ∃ R, R = rsR nd g k := ⟨_, rfl⟩
    obtain ⟨P, hPP⟩ : ∃ P : Nat, P = 2 ^ k := ⟨_, rfl⟩
    rw [← hPP] at hsh hb hpp
    have hR1 : 1 ≤ R ∧ R ≤ 20 := by
      rw [hRR]
      obtain ⟨a, b, c⟩ := HR.out
      refine ⟨?_, a⟩
      apply Nat.pos_of_ne_zero
      intro e
      rw [e] at c
      exact absurd c (by show ¬ 2 ^ k ≤ 0; omega)
    obtain ⟨hR1a, hR1b⟩ := hR1
    rw [← hRR]
    have HRR := Lib.hid hRR; clear hRR
    have HPP := Lib.hid hPP; clear hPP
    obtain ⟨M0, hM⟩ : ∃ M, M = rsM nd g k 0 := ⟨_, rfl⟩
    rw [← hM]
    have HM := Lib.hid (And.intro hM hM0); clear hM hM0
    obtain ⟨R0, hraw0, hdig0⟩ := H.out.2.2
    have HRaw := Lib.hid hraw0; clear hraw0
    have HDig := Lib.hid hdig0; clear hdig0
    have HPN : ∀ m : Nat, m < 18446744073709551616 → bits BinOp.and IntKind.u64 (m : Int) ((P : Int) - 1) = ((m % 2 ^ k : Nat) : Int) := by
      intro m hm
      rw [show ((P : Int) - 1) = ((2 ^ k - 1 : Nat) : Int) by rw [HPP.out]; have := HPP.out; omega]
      rw [bits_and_u64_nat _ _ (by omega) (by have := HPP.out; omega), Nat.and_two_pow_sub_one_eq_mod]
    have HAND := Lib.hid HPN; clear HPN
    go_upto_block 4 with fail
    go_cut [4, 5, 6] (fun r x n wx => ∃ j : Nat, j ≤ nd ∧ nd ≤ R + j ∧ x = .int .i64 j ∧ n = .int .u64 (rsM nd g k j) ∧ RowKit.Hid (DFr b W0 wx) ∧
      RowKit.Hid (∃ Rr, Raw wx b Rr (nd : Int) (dp - ((R : Int) - 1)) ng tr ∧ ∀ i, i < j → Rr i = some (.int .u8 ((48 + rsD nd g k i : Nat) : Int))))
    case first =>
      go_wp2_with fail
      go_loopw [4, 5, 6] (fun r x n wr => ∃ j : Nat, (j = 0 ∨ R + j ≤ nd) ∧ r = .int .i64 (((R + j : Nat)) : Int) ∧ x = .int .i64 j ∧ n = .int .u64 (rsM nd g k j) ∧ RowKit.Hid (DFr b W0 wr) ∧
        RowKit.Hid (∃ Rr, Raw wr b Rr (nd : Int) (dp - ((R : Int) - 1)) ng tr ∧ (∀ i, i < j → Rr i = some (.int .u8 ((48 + rsD nd g k i : Nat) : Int))) ∧
          ∀ i, R + j ≤ i → i < nd → Rr i = some (.int .u8 ((48 + g i : Nat) : Int)))) (fun r _ _ _ => nd - (intOf r).toNat)
      case atStart =>
        refine ⟨0, .inl rfl, rfl, rfl, by rw [HM.out.1], Lib.hid ((DFr.refl b _).set _ _), Lib.hid ⟨_, HRaw.out.point _, fun i hi => absurd hi (by omega), fun i h1 h2 => ?_⟩⟩
        rw [upd_ne _ _ _ _ (by omega)]; exact HDig.out i h2
      case round =>
        obtain ⟨j, hj, rfl, rfl, rfl, hfr, hst⟩ := hrel
        obtain ⟨Rr, hraw, hd1, hd2⟩ := hst.out
        clear hst
        obtain ⟨d0, d1, -, d3, df, dc⟩ := hraw.cells
        have HF := Lib.hid (And.intro hraw (And.intro hd1 hd2))
        have hMl := rsM_lt nd g h0 HG.out H8.out k hk j
        by_cases hlt : R + j < nd
        · have cj := (dc (R + j)).trans (hd2 (R + j) (Nat.le_refl _) hlt)
          have fj := df j
          have hdj := rsD_lt nd g h0 HG.out H8.out k hk j
          have hgy := H8.out _ hlt
          have hnx : rsM nd g k (j + 1) = rsM nd g k j % 2 ^ k * 10 + g (R + j) := by
            show rsM nd g k j % 2 ^ k * 10 + gz nd g (rsR nd g k + j) = _
            rw [← HRR.out]
            unfold gz; rw [if_pos hlt]
          have hD : rsD nd g k j = rsM nd g k j / 2 ^ k := rfl
          obtain ⟨m, hm⟩ : ∃ m, m = rsM nd g k j := ⟨_, rfl⟩
          rw [← hm] at hMl hnx hD ⊢
          have hPe := HPP.out
          have hm64 : m < 18446744073709551616 := by omega
          have ha := HAND.out m hm64
          have hq := idp m k
          have hmod : m % 2 ^ k < P := by rw [hPe]; exact Nat.mod_lt _ (Nat.pow_pos (by decide))
          rw [← hD] at hq
          obtain ⟨D, hDD⟩ : ∃ D, D = rsD nd g k j := ⟨_, rfl⟩
          obtain ⟨q, hqq⟩ : ∃ q, q = m % 2 ^ k := ⟨_, rfl⟩
          obtain ⟨y, hy⟩ : ∃ y, y = g (R + j) := ⟨_, rfl⟩
          rw [← hDD] at hq hdj
          rw [← hqq] at ha hmod hnx
          rw [← hy] at cj hgy hnx
          have HNX := Lib.hid hnx
          have HH := Lib.hid (And.intro hD (And.intro hDD (And.intro hqq (And.intro hm (And.intro hy (And.intro hMl hPe))))))
          have HDC := Lib.hid dc
          have HDF := Lib.hid df
          have f9 := df 800
          clear hnx hD hDD hqq hm hy hMl hPe dc df hraw hd1 hd2 d1 d3
          have hj8 : j < 800 := by omega
          have hRj : R + j < 800 := by omega
          obtain ⟨z, hz, hzj⟩ := (HF.out.1.2.1 j hj8)
          have cz := (HDC.out j).trans hzj
          clear hz hzj
          go_wp2_with fail
          go_roundw
          case rel =>
            obtain ⟨kraw, kd1, kd2⟩ := HF.out
            have hcell : Value.int IntKind.u8 ((D : Int) + 48) = Value.int IntKind.u8 ((48 + rsD nd g k j : Nat) : Int) := by
              rw [HH.out.2.1]; congr 1; omega
            have hdD : rsD nd g k j < 10 := by rw [← HH.out.2.1]; exact hdj
            refine ⟨j + 1, .inr (by omega), by go_num, by go_num, ?_, Lib.hid (hfr.out.set _ _), ?_⟩
            · rw [HNX.out]; congr 1; omega
            · rw [hcell]
              refine Lib.hid ⟨_, kraw.byte j hj8 (48 + rsD nd g k j) (by omega), fun i hi => ?_, fun i h1 h2 => ?_⟩
              · by_cases e : i = j
                · rw [e, upd_at]
                · rw [upd_ne _ _ _ _ e]; exact kd1 i (by omega)
              · rw [upd_ne _ _ _ _ (by omega)]; exact kd2 i (by omega) h2
          case measure => simp [intOf]; omega
        · have hle : nd ≤ R + j := by omega
          have hjn : j ≤ nd := by omega
          clear hraw hd1 hd2 dc df
          have HM2 := Lib.hid hMl; clear hMl
          go_wp2_with fail
          go_meet
          case rel => exact ⟨j, hjn, hle, rfl, rfl, hfr, Lib.hid ⟨Rr, HF.out.1, HF.out.2.1⟩⟩
    case rest =>
      obtain ⟨j0, hj0, hRj0, rfl, rfl, hfr0, hst0⟩ := hcut
      have hdt : nd ≤ rsR nd g k + j0 := by rw [← HRR.out]; exact hRj0
      have hlast := rsM_last nd g k j0 hdt
      have HL := Lib.hid hlast; clear hlast
      clear c0 c1 c3 cf f1
      go_wp2_with fail
      go_loopg [5, 6] (k + 1) (fun gk x n wr => ∃ i : Nat, i + gk = k + 1 ∧ x = .int .i64 ((min (j0 + i) 800 : Nat) : Int) ∧ n = .int .u64 (rsM nd g k (j0 + i)) ∧ RowKit.Hid (DFr b W0 wr) ∧
        RowKit.Hid (∃ Rr, Raw wr b Rr (nd : Int) (dp - ((R : Int) - 1)) ng (rsT nd g k tr (j0 + i)) ∧ (∀ x, x < j0 + i → x < 800 → Rr x = some (.int .u8 ((48 + rsD nd g k x : Nat) : Int)))))
      case atStart =>
        obtain ⟨Rr, h1, h2⟩ := hst0.out
        refine ⟨0, by omega, by congr 1; omega, rfl, hfr0, Lib.hid ⟨Rr, ?_, fun x hx _ => h2 x hx⟩⟩
        rw [rsT_small _ _ _ _ _ (by omega)]; exact h1
      case round =>
        obtain ⟨i, hi, rfl, rfl, hfr, hst⟩ := hrel
        obtain ⟨Rr, hraw, hd1⟩ := hst.out
        clear hst
        obtain ⟨d0, d1, -, d3, df, dc⟩ := hraw.cells
        have HF := Lib.hid (And.intro hraw hd1)
        have hMl := rsM_lt nd g h0 HG.out H8.out k hk (j0 + i)
        have hdj := rsD_lt nd g h0 HG.out H8.out k hk (j0 + i)
        have hD : rsD nd g k (j0 + i) = rsM nd g k (j0 + i) / 2 ^ k := rfl
        have hnx : rsM nd g k (j0 + (i + 1)) = rsM nd g k (j0 + i) % 2 ^ k * 10 := by
          show rsM nd g k (j0 + i) % 2 ^ k * 10 + gz nd g (rsR nd g k + (j0 + i)) = _
          unfold gz; rw [if_neg (by omega)]; rfl
        have htx : rsT nd g k tr (j0 + (i + 1)) = (rsT nd g k tr (j0 + i) || (decide (800 ≤ j0 + i) && decide (0 < rsD nd g k (j0 + i)))) := rfl
        have hPe := HPP.out
        by_cases hm0 : rsM nd g k (j0 + i) = 0
        · have hjp : 0 < j0 + i := by
            apply Nat.pos_of_ne_zero; intro e
            rw [e] at hm0
            have h8 := rsD_zero nd g h0 HG.out k hk
            have h9 : rsD nd g k 0 = rsM nd g k 0 / 2 ^ k := rfl
            rw [h9, hm0] at h8; simp at h8
          have hend : nd ≤ rsR nd g k + (j0 + i) := by omega
          have hle : j0 + i ≤ nd + 80 := by omega
          have hte := rsT_eq nd g k tr (j0 + i) hm0 hend hle
          have hne := rsN_eq nd g k (j0 + i) hm0 hend hle
          have htp := trimN_pos (rsD nd g k) (min (j0 + i) 800) (by omega) (by have := rsD_zero nd g h0 HG.out k hk; omega)
          have hdl : ∀ x, x < min (j0 + i) 800 → rsD nd g k x < 10 := fun x _ => rsD_lt nd g h0 HG.out H8.out k hk x
          have hRR2 := HRR.out
          obtain ⟨j, hjj⟩ : ∃ j, j = min (j0 + i) 800 := ⟨_, rfl⟩
          have hj8 : j ≤ 800 := by omega
          have hdec : Dec (wr.setCell ⟨b, 800, none⟩ (.int .i64 (j : Int))) b j (rsD nd g k) (dp - ((R : Int) - 1)) ng (rsT nd g k tr (nd + 80)) :=
            ⟨hj8, fun x hx => hdl x (by omega), _, hte ▸ hraw.num (j : Int), fun x hx => by rw [upd_ne _ _ _ _ (by omega)]; exact hd1 x (by omega) (by omega)⟩
          have HT := Lib.hid (trim_any b j (rsD nd g k) _ ng _ _ hdec)
          have hfin : ∀ e w', TrimPost b j (rsD nd g k) (dp - ((R : Int) - 1)) ng (rsT nd g k tr (nd + 80)) (wr.setCell ⟨b, 800, none⟩ (.int .i64 (j : Int))) e w' → RsPost b nd g dp ng tr k W0 e w' := by
            rintro e w' ⟨h1, h2, h3⟩
            rw [← hjj] at hne htp
            rw [hne, if_neg (by omega), hRR2] at h2
            exact ⟨h1, h2, (hfr.out.set _ _).trans h3⟩
          have HFN := Lib.hid hfin
          have f0 := df 800
          rw [hm0, ← hjj]
          clear hjp hend hle hte hne htp hdl hRR2 hjj hdec hfin hraw hd1 hMl hdj hD hnx htx hPe hm0 d1 d3 dc df HF hi
          go_wp2_with (go_at_call 175; refine HT.out.mono ?_; rintro e w' ⟨rfl, k2, k3⟩)
          go_end0
          exact HFN.out _ _ ⟨rfl, k2, k3⟩
        · have hik : i ≤ k := by
            apply Nat.le_of_not_lt; intro hlt
            have : i = k + 1 := by omega
            rw [this] at hm0; exact hm0 HL.out
          obtain ⟨gk2, rfl⟩ : ∃ a, gk = a + 1 := ⟨gk - 1, by omega⟩
          obtain ⟨m, hm⟩ : ∃ m, m = rsM nd g k (j0 + i) := ⟨_, rfl⟩
          rw [← hm] at hMl hnx hD hm0 ⊢
          have hm64 : m < 18446744073709551616 := by omega
          have ha := HAND.out m hm64
          have hq := idp m k
          have hmod : m % 2 ^ k < P := by rw [hPe]; exact Nat.mod_lt _ (Nat.pow_pos (by decide))
          rw [← hD] at hq
          obtain ⟨D, hDD⟩ : ∃ D, D = rsD nd g k (j0 + i) := ⟨_, rfl⟩
          obtain ⟨q, hqq⟩ : ∃ q, q = m % 2 ^ k := ⟨_, rfl⟩
          rw [← hDD] at hq hdj htx
          rw [← hqq] at ha hmod hnx
          have hmp : ((0 : Int) < (m : Int)) = True := eq_true (by omega)
          have hmp2 : (0 < m) = True := eq_true (by omega)
          obtain ⟨j, hjj⟩ : ∃ j, j = j0 + i := ⟨_, rfl⟩
          rw [← hjj] at HF htx hm hD hDD ⊢
          have HNX := Lib.hid hnx
          have HTX := Lib.hid htx
          have HH := Lib.hid (And.intro hD (And.intro hDD (And.intro hqq (And.intro hm (And.intro hMl (And.intro hPe (And.intro hjj hi)))))))
          have HDF := Lib.hid df
          have f3 := df 803
          by_cases hj8 : j < 800
          · have fj := df j
            obtain ⟨z, hz, hzj⟩ := (HF.out.1.2.1 j hj8)
            have cz := (dc j).trans hzj
            have hmin : min j 800 = j := by omega
            rw [hmin]
            clear hz hzj hnx htx hD hDD hqq hm hMl hPe dc df hraw hd1 d1 d3 d0 f3 hjj hi hm0 hmin
            go_wp2_with fail
            go_roundg gk2
            case rel =>
              obtain ⟨kraw, kd1⟩ := HF.out
              have hjj := HH.out.2.2.2.2.2.2.1
              have hcell : Value.int IntKind.u8 ((D : Int) + 48) = Value.int IntKind.u8 ((48 + rsD nd g k j : Nat) : Int) := by
                rw [HH.out.2.1]; congr 1; omega
              have hdD : rsD nd g k j < 10 := by rw [← HH.out.2.1]; exact hdj
              have ht : rsT nd g k tr (j0 + (i + 1)) = rsT nd g k tr j := by rw [HTX.out, decide_eq_false (by omega : ¬ 800 ≤ j)]; simp
              refine ⟨i + 1, by have := HH.out.2.2.2.2.2.2.2; omega, by congr 1; omega, ?_, Lib.hid (hfr.out.set _ _), ?_⟩
              · rw [HNX.out]; congr 1
              · rw [hcell, ht]
                refine Lib.hid ⟨_, kraw.byte j hj8 (48 + rsD nd g k j) (by omega), fun x hx hx8 => ?_⟩
                by_cases e : x = j
                · rw [e, upd_at]
                · rw [upd_ne _ _ _ _ e]; exact kd1 x (by omega) hx8
            case measure => omega
          · have hmin : min j 800 = 800 := by omega
            rw [hmin]
            by_cases hDp : 0 < D
            · clear hnx htx hD hDD hqq hm hMl hPe dc df hraw hd1 d1 d0 hjj hi hm0 hmin
              go_wp2_with fail
              go_roundg gk2
              case rel =>
                obtain ⟨kraw, kd1⟩ := HF.out
                have hjj := HH.out.2.2.2.2.2.2.1
                have ht : rsT nd g k tr (j0 + (i + 1)) = true := by rw [HTX.out, decide_eq_true (by omega : 800 ≤ j), decide_eq_true hDp]; simp
                refine ⟨i + 1, by have := HH.out.2.2.2.2.2.2.2; omega, by congr 1; omega, ?_, Lib.hid (hfr.out.set _ _), ?_⟩
                · rw [HNX.out]; congr 1
                · rw [ht]
                  refine Lib.hid ⟨_, kraw.rest true, fun x hx hx8 => ?_⟩
                  rw [upd_ne _ _ _ _ (by omega)]; exact kd1 x (by omega) hx8
              case measure => omega
            · have hD0 : D = 0 := by omega
              subst hD0
              clear hnx htx hD hDD hqq hm hMl hPe dc df hraw hd1 d1 d0 d3 f3 hjj hi hm0 hmin hDp
              go_wp2_with fail
              go_roundg gk2
              case rel =>
                obtain ⟨kraw, kd1⟩ := HF.out
                have hjj := HH.out.2.2.2.2.2.2.1
                have ht : rsT nd g k tr (j0 + (i + 1)) = rsT nd g k tr j := by rw [HTX.out]; simp
                refine ⟨i + 1, by have := HH.out.2.2.2.2.2.2.2; omega, by congr 1; omega, ?_, hfr, ?_⟩
                · rw [HNX.out]; congr 1
                · rw [ht]
                  exact Lib.hid ⟨_, kraw, fun x hx hx8 => kd1 x (by omega) hx8⟩
              case measure => omega

end Go.Proofs.YtblpcpkkjbkakaaGreatDoor
/- The plain law of leftShift: the digits of a decimal times a power of two. -/
namespace Go.Proofs.YtblpcpkkjbkakaaGreatDoor
open Go Go.RowKit
set_option linter.unusedVariables false
set_option linter.unusedSimpArgs false

theorem pn_up (nd : Nat) (g : Nat → Nat) (hd : ∀ i, i < nd → g i < 10) (r m : Nat) : pn nd g (r + m) < (pn nd g r + 1) * 10 ^ m := by
  induction m with
  | zero => show pn nd g r < (pn nd g r + 1) * 1; omega
  | succ m ih =>
    show pn nd g (r + m) * 10 + gz nd g (r + m) < _
    have := gz_lt nd g hd (r + m)
    rw [Nat.pow_succ, ← Nat.mul_assoc]; omega
theorem pn_lo (nd : Nat) (g : Nat → Nat) (r m : Nat) : pn nd g r * 10 ^ m ≤ pn nd g (r + m) := by
  induction m with
  | zero => show pn nd g r * 1 ≤ pn nd g r; omega
  | succ m ih =>
    show _ ≤ pn nd g (r + m) * 10 + gz nd g (r + m)
    rw [Nat.pow_succ, ← Nat.mul_assoc]; omega
theorem pn_zeros (nd : Nat) (g : Nat → Nat) (r m : Nat) (h : nd ≤ r) : pn nd g (r + m) = pn nd g r * 10 ^ m := by
  induction m with
  | zero => show pn nd g r = pn nd g r * 1; omega
  | succ m ih =>
    show pn nd g (r + m) * 10 + gz nd g (r + m) = _
    have : gz nd g (r + m) = 0 := by unfold gz; rw [if_neg (by omega)]
    rw [this, ih, Nat.pow_succ, ← Nat.mul_assoc]; omega
theorem pn_div (nd : Nat) (g : Nat → Nat) (hd : ∀ i, i < nd → g i < 10) (r m : Nat) : pn nd g (r + m) / 10 ^ m = pn nd g r := by
  have h1 := pn_up nd g hd r m
  have h2 := pn_lo nd g r m
  exact Nat.div_eq_of_lt_le h2 h1
theorem pn_lt (nd : Nat) (g : Nat → Nat) (hd : ∀ i, i < nd → g i < 10) (m : Nat) : pn nd g m < 10 ^ m := by
  have := pn_up nd g hd 0 m
  rw [Nat.zero_add] at this
  have h0 : pn nd g 0 = 0 := rfl
  rw [h0] at this; omega
theorem pn_digit (nd : Nat) (g : Nat → Nat) (hd : ∀ i, i < nd → g i < 10) (m : Nat) (hm : m < nd) : pn nd g nd / 10 ^ m % 10 = g (nd - 1 - m) := by
  obtain ⟨i, hi⟩ : ∃ i, nd = i + 1 + m := ⟨nd - 1 - m, by omega⟩
  have h1 := pn_div nd g hd (i + 1) m
  rw [← hi] at h1
  rw [h1]
  show (pn nd g i * 10 + gz nd g i) % 10 = _
  have h2 := gz_lt nd g hd i
  have h3 : gz nd g i = g i := by unfold gz; rw [if_pos (by omega)]
  rw [show nd - 1 - m = i by omega]
  omega

/-- What is carried after m digits. -/
def lsn (X k m : Nat) : Nat := X % 10 ^ m * 2 ^ k / 10 ^ m
theorem lsn_zero (X k : Nat) : lsn X k 0 = 0 := by
  unfold lsn
  rw [Nat.pow_zero, Nat.mod_one]; simp
theorem lsn_step (X k m : Nat) : lsn X k m + X / 10 ^ m % 10 * 2 ^ k = X % 10 ^ (m + 1) * 2 ^ k / 10 ^ m := by
  have hp : 0 < 10 ^ m := Nat.pow_pos (by decide)
  unfold lsn
  rw [Nat.mod_pow_succ, Nat.add_mul, Nat.mul_assoc, Nat.add_mul_div_left _ _ hp]
theorem lsn_quo (X k m : Nat) : (lsn X k m + X / 10 ^ m % 10 * 2 ^ k) / 10 = lsn X k (m + 1) := by
  rw [lsn_step, Nat.div_div_eq_div_mul]
  unfold lsn
  rw [Nat.pow_succ]
theorem lsn_rem (X k m : Nat) : (lsn X k m + X / 10 ^ m % 10 * 2 ^ k) % 10 = X * 2 ^ k / 10 ^ m % 10 := by
  rw [lsn_step, ← Nat.mod_mul_right_div_self, ← Nat.mod_mul_right_div_self, ← Nat.pow_succ, Nat.mod_mul_mod]
theorem lsn_big (X k m nd : Nat) (h : X < 10 ^ nd) (hm : nd ≤ m) : lsn X k m = X * 2 ^ k / 10 ^ m := by
  unfold lsn
  rw [Nat.mod_eq_of_lt (Nat.lt_of_lt_of_le h (Nat.pow_le_pow_right (by decide) hm))]
theorem lsn_lt (X k m : Nat) : lsn X k m < 2 ^ k := by
  have hp : 0 < 10 ^ m := Nat.pow_pos (by decide)
  unfold lsn
  rw [Nat.div_lt_iff_lt_mul hp, Nat.mul_comm]
  exact Nat.mul_lt_mul_of_pos_left (Nat.mod_lt _ hp) (Nat.pow_pos (by decide))

/-- The text's digits. -/
def cdg (s : ByteArray) (i : Nat) : Nat := bat s i - 48
theorem plt_law (nd : Nat) (g : Nat → Nat) (hd : ∀ i, i < nd → g i < 10) (s : ByteArray) (q : Nat) (hs : ∀ i, i < q → 48 ≤ bat s i ∧ bat s i < 58) (hq : 1 ≤ q) (hl : 49 ≤ bat s (q - 1)) :
    ∀ m i, i + m = q → pn nd g i = pn q (cdg s) i → (plt nd g s m i = true ↔ pn nd g q < pn q (cdg s) q) := by
  have hc : ∀ i, i < q → cdg s i < 10 := fun i hi => by have := hs i hi; unfold cdg; omega
  intro m
  induction m with
  | zero =>
    intro i hi he
    rw [Nat.add_zero] at hi; subst hi
    rw [he]
    show (false = true ↔ _)
    simp
  | succ m ih =>
    intro i hi he
    show ((if nd ≤ i then true else if 48 + g i = bat s i then plt nd g s m (i + 1) else decide (48 + g i < bat s i)) = true ↔ _)
    have hsi := hs i (by omega)
    have hgz : gz q (cdg s) i = cdg s i := by unfold gz; rw [if_pos (by omega)]
    by_cases hn : nd ≤ i
    · rw [if_pos hn]
      refine ⟨fun _ => ?_, fun _ => rfl⟩
      have h1 := pn_zeros nd g i (m + 1) hn
      have h2 := pn_lo q (cdg s) i m
      have h3 : pn q (cdg s) (i + m + 1) = pn q (cdg s) (i + m) * 10 + gz q (cdg s) (i + m) := rfl
      have h4 : gz q (cdg s) (i + m) = cdg s (i + m) := by unfold gz; rw [if_pos (by omega)]
      have h5 : 1 ≤ cdg s (i + m) := by rw [show i + m = q - 1 by omega]; unfold cdg; omega
      have hq3 : q = i + m + 1 := by omega
      have a1 : pn nd g q = pn nd g i * 10 ^ (m + 1) := (congrArg (pn nd g) hi.symm).trans h1
      have a2 : pn q (cdg s) q = pn q (cdg s) (i + m) * 10 + cdg s (i + m) := (congrArg (pn q (cdg s)) hq3).trans (h4 ▸ h3)
      rw [a1, a2, he, Nat.pow_succ, ← Nat.mul_assoc]
      omega
    · rw [if_neg hn]
      have hgi := hd i (by omega)
      have hgz2 : gz nd g i = g i := by unfold gz; rw [if_pos (by omega)]
      have e1 : pn nd g (i + 1) = pn nd g i * 10 + g i := by show _ * 10 + gz nd g i = _; rw [hgz2]
      have e2 : pn q (cdg s) (i + 1) = pn q (cdg s) i * 10 + cdg s i := by show _ * 10 + gz q (cdg s) i = _; rw [hgz]
      have e3 : cdg s i = bat s i - 48 := rfl
      by_cases hg : 48 + g i = bat s i
      · rw [if_pos hg]
        exact ih (i + 1) (by omega) (by rw [e1, e2, he]; omega)
      · rw [if_neg hg, decide_eq_true_iff]
        have a1 := pn_up nd g hd (i + 1) m
        have a2 := pn_lo nd g (i + 1) m
        have b1 := pn_up q (cdg s) hc (i + 1) m
        have b2 := pn_lo q (cdg s) (i + 1) m
        rw [show i + 1 + m = q by omega] at a1 a2 b1 b2
        constructor
        · intro hlt
          have hle : pn nd g (i + 1) + 1 ≤ pn q (cdg s) (i + 1) := by rw [e1, e2, he]; omega
          have := Nat.mul_le_mul_right (10 ^ m) hle
          omega
        · intro hlt
          apply Nat.lt_of_not_le
          intro hge
          have hle : pn q (cdg s) (i + 1) + 1 ≤ pn nd g (i + 1) := by rw [e1, e2, he]; omega
          have := Nat.mul_le_mul_right (10 ^ m) hle
          omega
/-- The text is the digits of 5 to the power k, without a zero at the end. -/
def Five (s : ByteArray) (k : Nat) : Prop :=
  1 ≤ s.size ∧ (∀ i, i < s.size → 48 ≤ bat s i ∧ bat s i < 58) ∧ 49 ≤ bat s (s.size - 1) ∧ pn s.size (cdg s) s.size = 5 ^ k ∧ 10 ^ (s.size - 1) ≤ 5 ^ k ∧ 5 ^ k < 10 ^ s.size
theorem pn_first (nd : Nat) (g : Nat → Nat) (h0 : 0 < nd) (hg : g 0 ≠ 0) : 10 ^ (nd - 1) ≤ pn nd g nd := by
  obtain ⟨r, rfl⟩ : ∃ r, nd = r + 1 := ⟨nd - 1, by omega⟩
  exact pn_ge _ g h0 hg r
theorem plt_five (nd : Nat) (g : Nat → Nat) (hd : ∀ i, i < nd → g i < 10) (s : ByteArray) (k : Nat) (hs : Five s k) :
    plt nd g s s.size 0 = true ↔ pn nd g nd * 10 ^ s.size < 5 ^ k * 10 ^ nd := by
  obtain ⟨h1, h2, h3, h4, h5, h6⟩ := hs
  rw [plt_law nd g hd s s.size h2 h1 h3 s.size 0 (Nat.zero_add _) rfl, h4]
  by_cases hle : s.size ≤ nd
  · obtain ⟨e, he⟩ : ∃ e, nd = s.size + e := ⟨nd - s.size, by omega⟩
    have hdv := pn_div nd g hd s.size e
    rw [← he] at hdv
    have h10 : (10 : Nat) ^ nd = 10 ^ e * 10 ^ s.size := by rw [he, Nat.pow_add, Nat.mul_comm]
    rw [← hdv, h10, ← Nat.mul_assoc, Nat.div_lt_iff_lt_mul (Nat.pow_pos (by decide)), Nat.mul_lt_mul_right (Nat.pow_pos (by decide))]
  · obtain ⟨e, he⟩ : ∃ e, s.size = nd + e := ⟨s.size - nd, by omega⟩
    have h10 : (10 : Nat) ^ s.size = 10 ^ e * 10 ^ nd := by rw [he, Nat.pow_add, Nat.mul_comm]
    rw [h10, ← Nat.mul_assoc, Nat.mul_lt_mul_right (Nat.pow_pos (by decide)), he, pn_zeros nd g nd e (Nat.le_refl _)]
/-- How many digits the product has. -/
def lsL (nd : Nat) (g : Nat → Nat) (s : ByteArray) (k : Nat) : Nat := if plt nd g s s.size 0 then nd + k - s.size else nd + k - s.size + 1
theorem five_le (s : ByteArray) (k : Nat) (hs : Five s k) (hk : 1 ≤ k) : s.size ≤ k := by
  obtain ⟨h1, h2, h3, h4, h5, h6⟩ := hs
  apply Nat.le_of_not_lt
  intro hlt
  have a : 10 ^ k ≤ 10 ^ (s.size - 1) := Nat.pow_le_pow_right (by decide) (by omega)
  have b : 5 ^ k < 10 ^ k := Nat.pow_lt_pow_left (by decide) (by omega)
  omega
theorem lsL_law (nd : Nat) (g : Nat → Nat) (h0 : 0 < nd) (hg : g 0 ≠ 0) (hd : ∀ i, i < nd → g i < 10) (s : ByteArray) (k : Nat) (hs : Five s k) (hk : 1 ≤ k) :
    1 ≤ lsL nd g s k ∧ 10 ^ (lsL nd g s k - 1) ≤ pn nd g nd * 2 ^ k ∧ pn nd g nd * 2 ^ k < 10 ^ lsL nd g s k := by
  have hq := five_le s k hs hk
  have hp := plt_five nd g hd s k hs
  obtain ⟨h1, h2, h3, h4, h5, h6⟩ := hs
  have hX1 := pn_first nd g h0 hg
  have hX2 := pn_lt nd g hd nd
  have h10 : (10 : Nat) ^ k = 5 ^ k * 2 ^ k := by rw [← Nat.mul_pow]
  generalize hX : pn nd g nd = X at *
  generalize hF : 5 ^ k = F at *
  generalize hqq : s.size = q at *
  have hF0 : 0 < 2 ^ k := Nat.pow_pos (by decide)
  have hq0 : 0 < 10 ^ q := Nat.pow_pos (by decide)
  have hPF : X * 2 ^ k * F = X * 10 ^ k := by rw [h10, Nat.mul_assoc, Nat.mul_comm (2 ^ k)]
  unfold lsL
  rw [hqq]
  by_cases hT : plt nd g s q 0 = true
  · have hT2 := hp.1 hT
    rw [if_pos hT]
    refine ⟨by omega, ?_, ?_⟩
    · apply Nat.le_of_mul_le_mul_right (c := 10 ^ q) _ hq0
      rw [← Nat.pow_add, show nd + k - q - 1 + q = nd - 1 + k by omega, Nat.pow_add]
      refine Nat.le_trans (Nat.mul_le_mul_right _ hX1) ?_
      rw [← hPF]
      exact Nat.mul_le_mul_left _ (Nat.le_of_lt h6)
    · apply Nat.lt_of_mul_lt_mul_right (a := 10 ^ q)
      rw [← Nat.pow_add, show nd + k - q + q = nd + k by omega, Nat.pow_add, h10, Nat.mul_right_comm]
      have := Nat.mul_lt_mul_of_pos_right hT2 hF0
      exact Nat.lt_of_lt_of_le this (Nat.le_of_eq (by ac_rfl))
  · have hT2 : F * 10 ^ nd ≤ X * 10 ^ q := Nat.le_of_not_lt (fun h => hT (hp.2 h))
    rw [if_neg hT]
    refine ⟨by omega, ?_, ?_⟩
    · apply Nat.le_of_mul_le_mul_right (c := 10 ^ q) _ hq0
      rw [← Nat.pow_add, show nd + k - q + 1 - 1 + q = nd + k by omega, Nat.pow_add, h10, Nat.mul_right_comm]
      exact Nat.le_trans (Nat.le_of_eq (by ac_rfl)) (Nat.mul_le_mul_right _ hT2)
    · apply Nat.lt_of_mul_lt_mul_right (a := 10 ^ (q - 1))
      rw [← Nat.pow_add, show nd + k - q + 1 + (q - 1) = nd + k by omega, Nat.pow_add]
      refine Nat.lt_of_le_of_lt (Nat.mul_le_mul_left _ h5) ?_
      rw [hPF]
      exact Nat.mul_lt_mul_of_pos_right hX2 (Nat.pow_pos (by decide))
theorem lsL_ge (nd : Nat) (g : Nat → Nat) (h0 : 0 < nd) (hg : g 0 ≠ 0) (hd : ∀ i, i < nd → g i < 10) (s : ByteArray) (k : Nat) (hs : Five s k) (hk : 1 ≤ k) : nd ≤ lsL nd g s k ∧ lsL nd g s k ≤ nd + k := by
  have hq := five_le s k hs hk
  obtain ⟨a, b, c⟩ := lsL_law nd g h0 hg hd s k hs hk
  have h1 := hs.1
  refine ⟨?_, ?_⟩
  · apply Nat.le_of_not_lt
    intro hlt
    have h1 := pn_first nd g h0 hg
    have h2 : 10 ^ lsL nd g s k ≤ 10 ^ (nd - 1) := Nat.pow_le_pow_right (by decide) (by omega)
    have h3 : pn nd g nd * 1 ≤ pn nd g nd * 2 ^ k := Nat.mul_le_mul_left _ (Nat.pow_pos (by decide))
    omega
  · unfold lsL; split <;> omega
/-- The digit at place i of the product P of L digits. -/
def lsD (P L i : Nat) : Nat := P / 10 ^ (L - 1 - i) % 10
/-- Whether something was cut, after m digits from behind. -/
def lsT (P L : Nat) (tr : Bool) : Nat → Bool
  | 0 => tr
  | m + 1 => lsT P L tr m || (decide (800 ≤ L - 1 - m) && decide (P / 10 ^ m % 10 ≠ 0))
theorem lsD_lt (P L i : Nat) : lsD P L i < 10 := Nat.mod_lt _ (by decide)
theorem lsD_first (P L : Nat) (h1 : 10 ^ (L - 1) ≤ P) (h2 : P < 10 ^ L) (h3 : 1 ≤ L) : lsD P L 0 ≠ 0 := by
  unfold lsD
  rw [Nat.sub_zero]
  have hp : 0 < 10 ^ (L - 1) := Nat.pow_pos (by decide)
  have a : 1 ≤ P / 10 ^ (L - 1) := Nat.div_pos h1 hp
  have b : P / 10 ^ (L - 1) < 10 := by
    have h10 : 10 ^ L = 10 * 10 ^ (L - 1) := by rw [Nat.mul_comm, ← Nat.pow_succ]; congr 1; omega
    rw [Nat.div_lt_iff_lt_mul hp, ← h10]; exact h2
  omega

end Go.Proofs.YtblpcpkkjbkakaaGreatDoor
/- The plain law of the slow reading: a decimal is shifted into the range, then to the mantissa's bits. -/
namespace Go.Proofs.YtblpcpkkjbkakaaGreatDoor
open Go Go.RowKit
set_option linter.unusedVariables false
set_option linter.unusedSimpArgs false

/-- A decimal without its sign. -/
structure DS where
  nd : Nat
  g : Nat → Nat
  dp : Int
  tr : Bool
def DS.Good (s : DS) : Prop := 0 < s.nd ∧ s.nd ≤ 800 ∧ s.g 0 ≠ 0 ∧ ∀ i, i < s.nd → s.g i < 10
def DS.At (s : DS) (ng : Bool) (w : World) (b : Nat) : Prop := Dec w b s.nd s.g s.dp ng s.tr

def rsS (k : Nat) (s : DS) : DS := ⟨rsN s.nd s.g k, rsD s.nd s.g k, s.dp - ((rsR s.nd s.g k : Int) - 1), rsT s.nd s.g k s.tr (s.nd + 80)⟩
theorem rsR_pos (s : DS) (h : s.Good) (k : Nat) (hk : k ≤ 60) : 1 ≤ rsR s.nd s.g k := by
  obtain ⟨a, b, c⟩ := rsR_found s.nd s.g h.1 h.2.2.1 k hk
  apply Nat.pos_of_ne_zero
  intro e
  rw [e] at c
  have hp : 0 < 2 ^ k := Nat.pow_pos (by decide)
  have : pn s.nd s.g 0 = 0 := rfl
  omega
theorem rsS_good (k : Nat) (hk : k ≤ 60) (s : DS) (h : s.Good) : (rsS k s).Good := by
  obtain ⟨h1, h2, h3, h4⟩ := h
  have hz := rsD_zero s.nd s.g h1 h3 k hk
  refine ⟨trimN_pos _ _ (by omega) (by omega), Nat.le_trans (trimN_le _ _) (by omega), ?_, fun i _ => rsD_lt s.nd s.g h1 h3 h4 k hk i⟩
  show rsD s.nd s.g k 0 ≠ 0
  omega
theorem rsS_dp (k : Nat) (hk : k ≤ 60) (s : DS) (h : s.Good) : s.dp - 19 ≤ (rsS k s).dp ∧ (rsS k s).dp ≤ s.dp := by
  have h1 := rsR_pos s h k hk
  have h2 := (rsR_found s.nd s.g h.1 h.2.2.1 k hk).1
  show s.dp - 19 ≤ s.dp - ((rsR s.nd s.g k : Int) - 1) ∧ s.dp - ((rsR s.nd s.g k : Int) - 1) ≤ s.dp
  omega

theorem rfind_found (p : Nat → Bool) : ∀ (f r : Nat), p (r + f) = true → p (rfind p f r) = true ∧ r ≤ rfind p f r ∧ rfind p f r ≤ r + f ∧ ∀ j, r ≤ j → j < rfind p f r → p j = false := by
  intro f
  induction f with
  | zero => intro r h; exact ⟨h, Nat.le_refl _, Nat.le_refl _, fun j h1 h2 => absurd h2 (by show ¬ j < r; omega)⟩
  | succ f ih =>
    intro r h
    show p (if p r then r else rfind p f (r + 1)) = true ∧ r ≤ (if p r then r else rfind p f (r + 1)) ∧ (if p r then r else rfind p f (r + 1)) ≤ r + (f + 1) ∧ ∀ j, r ≤ j → j < (if p r then r else rfind p f (r + 1)) → p j = false
    by_cases hr : p r = true
    · rw [if_pos hr]
      exact ⟨hr, Nat.le_refl _, by omega, fun j h1 h2 => absurd h2 (by omega)⟩
    · rw [if_neg hr]
      obtain ⟨a, b, c, d⟩ := ih (r + 1) (by rw [show r + 1 + f = r + (f + 1) by omega]; exact h)
      refine ⟨a, by omega, by omega, fun j h1 h2 => ?_⟩
      by_cases e : j = r
      · rw [e]; cases hh : p r with
        | true => exact absurd hh hr
        | false => rfl
      · exact d j (by omega) h2
def lsLen (N P : Nat) : Nat := rfind (fun L => decide (P < 10 ^ L)) N 0
theorem lsLen_law (N P : Nat) (h : 0 < P) (hb : P < 10 ^ N) : 1 ≤ lsLen N P ∧ lsLen N P ≤ N ∧ 10 ^ (lsLen N P - 1) ≤ P ∧ P < 10 ^ lsLen N P := by
  obtain ⟨a, b, c, d⟩ := rfind_found (fun L => decide (P < 10 ^ L)) N 0 (by rw [Nat.zero_add]; simpa using hb)
  have h1 : 1 ≤ lsLen N P := by
    apply Nat.pos_of_ne_zero
    intro e
    have a2 : decide (P < 10 ^ lsLen N P) = true := a
    rw [e] at a2
    simp at a2
    omega
  refine ⟨h1, by rw [Nat.zero_add] at c; exact c, ?_, of_decide_eq_true a⟩
  have := d (lsLen N P - 1) (Nat.zero_le _) (by show lsLen N P - 1 < lsLen N P; omega)
  simpa using this
theorem lsLen_eq (N P L : Nat) (h1 : 10 ^ (L - 1) ≤ P) (h2 : P < 10 ^ L) (h3 : L ≤ N) : lsLen N P = L := by
  refine rfind_spec _ L (by simpa using h2) N 0 (fun j _ hj => ?_) (Nat.zero_le _) (by omega)
  have : 10 ^ j ≤ 10 ^ (L - 1) := Nat.pow_le_pow_right (by decide) (by omega)
  simp; omega
def lsP (k : Nat) (s : DS) : Nat := pn s.nd s.g s.nd * 2 ^ k
def lsLn (k : Nat) (s : DS) : Nat := lsLen (s.nd + k) (lsP k s)
def lsS (k : Nat) (s : DS) : DS := ⟨trimN (lsD (lsP k s) (lsLn k s)) (min (lsLn k s) 800), lsD (lsP k s) (lsLn k s), s.dp + ((lsLn k s : Int) - s.nd), lsT (lsP k s) (lsLn k s) s.tr (lsLn k s)⟩
theorem lsLn_law (k : Nat) (s : DS) (h : s.Good) : 1 ≤ lsLn k s ∧ s.nd ≤ lsLn k s ∧ lsLn k s ≤ s.nd + k ∧ 10 ^ (lsLn k s - 1) ≤ lsP k s ∧ lsP k s < 10 ^ lsLn k s := by
  obtain ⟨h1, h2, h3, h4⟩ := h
  have a := pn_first s.nd s.g h1 h3
  have b := pn_lt s.nd s.g h4 s.nd
  have hp : 0 < 2 ^ k := Nat.pow_pos (by decide)
  have h10 : 0 < 10 ^ (s.nd - 1) := Nat.pow_pos (by decide)
  have hle : pn s.nd s.g s.nd * 1 ≤ lsP k s := Nat.mul_le_mul_left _ hp
  have hlt : lsP k s < 10 ^ (s.nd + k) := by
    rw [Nat.pow_add]
    refine Nat.lt_of_lt_of_le (Nat.mul_lt_mul_of_pos_right b hp) (Nat.mul_le_mul_left _ (Nat.pow_le_pow_left (by decide) _))
  obtain ⟨x, y, z, u⟩ := lsLen_law (s.nd + k) (lsP k s) (by omega) hlt
  refine ⟨x, ?_, y, z, u⟩
  apply Nat.le_of_not_lt
  intro hc
  have : 10 ^ lsLn k s ≤ 10 ^ (s.nd - 1) := Nat.pow_le_pow_right (by decide) (by omega)
  have u2 : lsP k s < 10 ^ lsLn k s := u
  omega
theorem lsS_good (k : Nat) (s : DS) (h : s.Good) : (lsS k s).Good := by
  obtain ⟨a, b, c, d, e⟩ := lsLn_law k s h
  have hf := lsD_first (lsP k s) (lsLn k s) d e a
  exact ⟨trimN_pos _ _ (by omega) hf, Nat.le_trans (trimN_le _ _) (by omega), hf, fun i _ => lsD_lt _ _ _⟩
theorem lsS_dp (k : Nat) (s : DS) (h : s.Good) : s.dp ≤ (lsS k s).dp ∧ (lsS k s).dp ≤ s.dp + k := by
  obtain ⟨a, b, c, d, e⟩ := lsLn_law k s h
  show s.dp ≤ s.dp + ((lsLn k s : Int) - s.nd) ∧ s.dp + ((lsLn k s : Int) - s.nd) ≤ s.dp + k
  omega
/-- Where no digit is won the first digit grows. -/
theorem lsS_grow (k : Nat) (hk : 1 ≤ k) (s : DS) (h : s.Good) (he : (lsS k s).dp = s.dp) : s.g 0 < (lsS k s).g 0 := by
  obtain ⟨a, b, c, d, e⟩ := lsLn_law k s h
  have he2 : s.dp + ((lsLn k s : Int) - s.nd) = s.dp := he
  have hL : lsLn k s = s.nd := by omega
  obtain ⟨h1, h2, h3, h4⟩ := h
  show s.g 0 < lsD (lsP k s) (lsLn k s) 0
  rw [hL] at e ⊢
  have hp : 0 < 10 ^ (s.nd - 1) := Nat.pow_pos (by decide)
  have hx := pn_digit s.nd s.g h4 (s.nd - 1) (by omega)
  rw [show s.nd - 1 - (s.nd - 1) = 0 by omega] at hx
  have hsmall : ∀ Y, Y < 10 ^ s.nd → Y / 10 ^ (s.nd - 1) < 10 := fun Y hY => by
    have h10 : 10 ^ s.nd = 10 * 10 ^ (s.nd - 1) := by rw [Nat.mul_comm, ← Nat.pow_succ]; congr 1; omega
    rw [Nat.div_lt_iff_lt_mul hp, ← h10]; exact hY
  have hX := pn_lt s.nd s.g h4 s.nd
  rw [Nat.mod_eq_of_lt (hsmall _ hX)] at hx
  unfold lsD
  rw [Nat.sub_zero, Nat.mod_eq_of_lt (hsmall _ e)]
  have h2k : 2 ≤ 2 ^ k := by
    have : 2 ^ 1 ≤ 2 ^ k := Nat.pow_le_pow_right (by decide) hk
    omega
  have hge : pn s.nd s.g s.nd / 10 ^ (s.nd - 1) * 2 ≤ lsP k s / 10 ^ (s.nd - 1) := by
    rw [Nat.le_div_iff_mul_le hp]
    unfold lsP
    have h5 := Nat.div_mul_le_self (pn s.nd s.g s.nd) (10 ^ (s.nd - 1))
    have h6 := Nat.mul_le_mul h5 h2k
    rw [Nat.mul_right_comm]; exact h6
  rw [hx] at hge
  omega

/-- The table of shifts. -/
def pw (d : Nat) : Nat := if d < 9 then [1, 3, 6, 9, 13, 16, 19, 23, 26].getD d 27 else 27
theorem pw_law (d : Nat) : 1 ≤ pw d ∧ pw d ≤ 27 ∧ (1 ≤ d → 3 ≤ pw d) := by
  by_cases h : d < 9
  · have : ∀ d : Fin 9, 1 ≤ pw d.1 ∧ pw d.1 ≤ 27 ∧ (1 ≤ d.1 → 3 ≤ pw d.1) := by decide
    exact this ⟨d, h⟩
  · unfold pw; rw [if_neg h]; omega

/-- Steps are taken while there is one to take. -/
def runw {α : Type} (on : α → Bool) (st : α → α) : Nat → α → α
  | 0, p => p
  | f + 1, p => if on p then runw on st f (st p) else p
theorem runw_on {α : Type} (on : α → Bool) (st : α → α) (f : Nat) (p : α) (h : on p = true) : runw on st (f + 1) p = runw on st f (st p) := by
  show (if on p then _ else _) = _; rw [if_pos h]
theorem runw_off {α : Type} (on : α → Bool) (st : α → α) (f : Nat) (p : α) (h : on p = false) : runw on st f p = p := by
  cases f with
  | zero => rfl
  | succ f => show (if on p then _ else _) = _; rw [h]; rfl

/-- The decimal and the exponent. -/
def on1 (p : DS × Int) : Bool := decide (0 < p.1.dp)
def st1 (p : DS × Int) : DS × Int := (rsS (pw p.1.dp.toNat) p.1, p.2 + pw p.1.dp.toNat)
def mes1 (p : DS × Int) : Nat := 2 * p.1.dp.toNat + (if 8 ≤ p.1.g 0 then 1 else 0)
theorem mes1_lt (p : DS × Int) (h : p.1.Good) (ho : on1 p = true) : mes1 (st1 p) < mes1 p := by
  have hdp : 0 < p.1.dp := by simpa [on1] using ho
  obtain ⟨a, b, c⟩ := pw_law p.1.dp.toNat
  have c := c (by omega)
  have h1 := rsR_pos p.1 h _ (by omega : pw p.1.dp.toNat ≤ 60)
  obtain ⟨r1, r2, r3⟩ := rsR_found p.1.nd p.1.g h.1 h.2.2.1 _ (by omega : pw p.1.dp.toNat ≤ 60)
  unfold mes1
  show 2 * (p.1.dp - ((rsR p.1.nd p.1.g (pw p.1.dp.toNat) : Int) - 1)).toNat + (if 8 ≤ rsD p.1.nd p.1.g (pw p.1.dp.toNat) 0 then 1 else 0) < _
  by_cases hR : rsR p.1.nd p.1.g (pw p.1.dp.toNat) = 1
  · have hM : rsM p.1.nd p.1.g (pw p.1.dp.toNat) 0 = p.1.g 0 := by
      show pn p.1.nd p.1.g (rsR p.1.nd p.1.g (pw p.1.dp.toNat)) = _
      rw [hR]
      show 0 * 10 + gz p.1.nd p.1.g 0 = _
      unfold gz; rw [if_pos h.1]; omega
    have h8 : 8 ≤ 2 ^ pw p.1.dp.toNat := by
      have : 2 ^ 3 ≤ 2 ^ pw p.1.dp.toNat := Nat.pow_le_pow_right (by decide) c
      omega
    have hg8 : 8 ≤ p.1.g 0 := by
      rw [hR] at r3
      have : pn p.1.nd p.1.g 1 = p.1.g 0 := by
        show 0 * 10 + gz p.1.nd p.1.g 0 = _
        unfold gz; rw [if_pos h.1]; omega
      omega
    have hgl := h.2.2.2 0 h.1
    have hd : rsD p.1.nd p.1.g (pw p.1.dp.toNat) 0 < 8 := by
      unfold rsD
      rw [hM]
      have : p.1.g 0 / 2 ^ pw p.1.dp.toNat ≤ p.1.g 0 / 8 := Nat.div_le_div_left h8 (by decide)
      omega
    rw [hR, if_neg (by omega), if_pos hg8]
    omega
  · have hle : (if 8 ≤ rsD p.1.nd p.1.g (pw p.1.dp.toNat) 0 then 1 else 0) ≤ 1 := by split <;> omega
    omega
def on2 (p : DS × Int) : Bool := decide (p.1.dp < 0) || (decide (p.1.dp = 0) && decide (p.1.g 0 < 5))
def st2 (p : DS × Int) : DS × Int := (lsS (pw (-p.1.dp).toNat) p.1, p.2 - pw (-p.1.dp).toNat)
def mes2 (p : DS × Int) : Nat := if 0 < p.1.dp then 0 else 10 * (-p.1.dp).toNat + (9 - p.1.g 0) + 1
theorem mes2_lt (p : DS × Int) (h : p.1.Good) (ho : on2 p = true) : mes2 (st2 p) < mes2 p := by
  have hdp : p.1.dp ≤ 0 := by
    unfold on2 at ho
    simp at ho
    omega
  obtain ⟨a, b, -⟩ := pw_law (-p.1.dp).toNat
  have h1 := lsS_dp (pw (-p.1.dp).toNat) p.1 h
  have hg := lsS_good (pw (-p.1.dp).toNat) p.1 h
  have hgr := lsS_grow (pw (-p.1.dp).toNat) a p.1 h
  have hs : (st2 p).1 = lsS (pw (-p.1.dp).toNat) p.1 := rfl
  rw [← hs] at h1 hg hgr
  have g1 := hg.2.2.1
  have g2 := hg.2.2.2 0 hg.1
  have g3 := h.2.2.2 0 h.1
  unfold mes2
  by_cases e : (st2 p).1.dp = p.1.dp
  · have := hgr e
    rw [e]
    split <;> omega
  · rw [if_neg (by omega : ¬ 0 < p.1.dp)]
    split <;> omega

/-- Shifts to the right by 60 first. -/
def shr : Nat → Nat → DS → DS
  | 0, K, s => rsS K s
  | f + 1, K, s => if 60 < K then shr f (K - 60) (rsS 60 s) else rsS K s
theorem shr_on (f K : Nat) (s : DS) (h : 60 < K) : shr (f + 1) K s = shr f (K - 60) (rsS 60 s) := by
  show (if _ then _ else _) = _; rw [if_pos h]
theorem shr_off (f K : Nat) (s : DS) (h : K ≤ 60) : shr f K s = rsS K s := by
  cases f with
  | zero => rfl
  | succ f => show (if _ then _ else _) = _; rw [if_neg (by omega)]

/-- The mantissa and the exponent behind the shifts; none where that is too great. -/
def fbM (m : Nat) (e : Int) : Option (Nat × Int) :=
  if m = 9007199254740992 then (if 2047 ≤ e + 1 + 1023 then none else some (4503599627370496, e + 1)) else some (m, e)
def fbE (m : Nat) (e : Int) : Nat := m % 4503599627370496 + (if m / 4503599627370496 % 2 = 0 then 0 else (e + 1023).toNat) * 4503599627370496
def riX (s : DS) : Nat := (riF s.nd s.g s.dp s.tr).toNat
def fbT (s : DS) (e : Int) : Option Nat :=
  if 2047 ≤ e + 1023 then none else (fbM (riX (lsS 53 s)) e).map (fun q => fbE q.1 q.2)
def fbU (s : DS) (e : Int) : Option Nat :=
  if e < -1022 then fbT (shr (-1022 - e).toNat (-1022 - e).toNat s) (-1022) else fbT s e
def fb2 (p : DS × Int) : Option Nat := fbU (runw on2 st2 (mes2 p) p).1 ((runw on2 st2 (mes2 p) p).2 - 1)
def fbX (s : DS) : Option Nat :=
  if s.nd = 0 then some 0
  else if 310 < s.dp then none
  else if s.dp < -330 then some 0
  else fb2 (runw on1 st1 (mes1 (s, 0)) (s, 0))

end Go.Proofs.YtblpcpkkjbkakaaGreatDoor
/- leftShift. -/
namespace Go.Proofs.YtblpcpkkjbkakaaGreatDoor
open Go Go.RowKit
set_option linter.unusedVariables false
set_option linter.unusedSimpArgs false

/-- The table of powers of five. -/
def cutB (k : Nat) : ByteArray := ⟨((Go.Pinned.cheatRows.getD k (0, [])).2).toArray⟩
def cutD (k : Nat) : Nat := (Go.Pinned.cheatRows.getD k (0, [])).1
theorem five_tab (k : Nat) (h1 : 1 ≤ k) (h2 : k ≤ 60) : Five (cutB k) k ∧ cutD k + (cutB k).size = k + 1 ∧ (cutB k).size ≤ 100 := by
  have h : ∀ k : Fin 61, 1 ≤ k.1 → ((1 ≤ (cutB k.1).size ∧ (∀ i, i < (cutB k.1).size → 48 ≤ bat (cutB k.1) i ∧ bat (cutB k.1) i < 58) ∧ 49 ≤ bat (cutB k.1) ((cutB k.1).size - 1) ∧
    pn (cutB k.1).size (cdg (cutB k.1)) (cutB k.1).size = 5 ^ k.1 ∧ 10 ^ ((cutB k.1).size - 1) ≤ 5 ^ k.1 ∧ 5 ^ k.1 < 10 ^ (cutB k.1).size) ∧ cutD k.1 + (cutB k.1).size = k.1 + 1 ∧ (cutB k.1).size ≤ 100) := by decide +kernel
  exact h ⟨k, by omega⟩ h1
structure GlL (g : Nat × Nat) (w : World) : Prop where
  tab : w.cell? ⟨15, 0, none⟩ = some (.slice (some ⟨g.1, g.2, none⟩) 61 61)
  del : ∀ k, k < 61 → w.cell? ⟨g.1, g.2 + k * 2, none⟩ = some (.int .i64 (cutD k))
  cut : ∀ k, k < 61 → w.cell? ⟨g.1, g.2 + k * 2 + 1, none⟩ = some (.string (cutB k))

theorem lsLn_cut (k : Nat) (h1 : 1 ≤ k) (h2 : k ≤ 60) (s : DS) (hs : s.Good) : (lsLn k s : Int) = s.nd + (cutD k) - (if plt s.nd s.g (cutB k) (cutB k).size 0 then 1 else 0) := by
  obtain ⟨hF, hD, _⟩ := five_tab k h1 h2
  obtain ⟨a, b, c⟩ := lsL_law s.nd s.g hs.1 hs.2.2.1 hs.2.2.2 (cutB k) k hF h1
  obtain ⟨d, e⟩ := lsL_ge s.nd s.g hs.1 hs.2.2.1 hs.2.2.2 (cutB k) k hF h1
  have hL : lsLn k s = lsL s.nd s.g (cutB k) k := lsLen_eq _ _ _ b c e
  rw [hL]
  have hq := five_le _ k hF h1
  unfold lsL
  split <;> omega

def LsInv (b nd : Nat) (g : Nat → Nat) (dp : Int) (ng tr : Bool) (P L m : Nat) (w wx : World) : Prop :=
  DFr b w wx ∧ ∃ Rr, Raw wx b Rr (nd : Int) dp ng (lsT P L tr m) ∧ (∀ i, i + m < nd → Rr i = some (.int .u8 ((48 + g i : Nat) : Int))) ∧ ∀ i, L ≤ i + m → i < L → i < 800 → Rr i = some (.int .u8 ((48 + lsD P L i : Nat) : Int))
theorem LsInv.drew {b nd : Nat} {g : Nat → Nat} {dp : Int} {ng tr : Bool} {P L m : Nat} {w wx : World} (h : LsInv b nd g dp ng tr P L m w wx) (n : Nat) : LsInv b nd g dp ng tr P L m w (wx.drewN n) := ⟨h.1.drewN n, h.2⟩
/-- A digit is put down. -/
theorem LsInv.put {b nd : Nat} {g : Nat → Nat} {dp : Int} {ng tr : Bool} {P L m : Nat} {w wx : World} (h : LsInv b nd g dp ng tr P L m w wx) (hm : m < L) (hL : nd ≤ L) (i : Nat) (hi : i + m + 1 = L) (h8 : i < 800) :
    LsInv b nd g dp ng tr P L (m + 1) w (wx.setCell ⟨b, i, none⟩ (.int .u8 ((48 + P / 10 ^ m % 10 : Nat) : Int))) := by
  obtain ⟨hf, R, h1, h2, h3⟩ := h
  have hd : lsD P L i = P / 10 ^ m % 10 := by unfold lsD; rw [show L - 1 - i = m by omega]
  have ht : lsT P L tr (m + 1) = lsT P L tr m := by
    show (lsT P L tr m || (decide (800 ≤ L - 1 - m) && _)) = _
    rw [decide_eq_false (by omega : ¬ 800 ≤ L - 1 - m)]; simp
  have hlt : 48 + P / 10 ^ m % 10 < 256 := by have := Nat.mod_lt (P / 10 ^ m) (by decide : 10 > 0); omega
  refine ⟨hf.set _ _, _, ht ▸ h1.byte i h8 _ hlt, fun j hj => ?_, fun j h4 h5 h6 => ?_⟩
  · rw [upd_ne _ _ _ _ (by omega)]; exact h2 j (by omega)
  · by_cases e : j = i
    · rw [e, upd_at, hd]
    · rw [upd_ne _ _ _ _ e]; exact h3 j (by omega) h5 h6
theorem LsInv.cutT {b nd : Nat} {g : Nat → Nat} {dp : Int} {ng tr : Bool} {P L m : Nat} {w wx : World} (h : LsInv b nd g dp ng tr P L m w wx) (hm : m < L) (hL : nd ≤ L) (i : Nat) (hi : i + m + 1 = L) (h8 : 800 ≤ i) (hn8 : nd ≤ 800) (h0 : P / 10 ^ m % 10 ≠ 0) :
    LsInv b nd g dp ng tr P L (m + 1) w (wx.setCell ⟨b, 803, none⟩ (.bool true)) := by
  obtain ⟨hf, R, h1, h2, h3⟩ := h
  have ht : lsT P L tr (m + 1) = true := by
    show (lsT P L tr m || (decide (800 ≤ L - 1 - m) && decide (P / 10 ^ m % 10 ≠ 0))) = _
    rw [decide_eq_true (by omega : 800 ≤ L - 1 - m), decide_eq_true h0]; simp
  refine ⟨hf.set _ _, _, by rw [ht]; exact h1.rest true, fun j hj => ?_, fun j h4 h5 h6 => ?_⟩
  · rw [upd_ne _ _ _ _ (by omega)]; exact h2 j (by omega)
  · rw [upd_ne _ _ _ _ (by omega)]; exact h3 j (by omega) h5 h6
theorem LsInv.cutF {b nd : Nat} {g : Nat → Nat} {dp : Int} {ng tr : Bool} {P L m : Nat} {w wx : World} (h : LsInv b nd g dp ng tr P L m w wx) (hm : m < L) (hL : nd ≤ L) (i : Nat) (hi : i + m + 1 = L) (h8 : 800 ≤ i) (h0 : P / 10 ^ m % 10 = 0) :
    LsInv b nd g dp ng tr P L (m + 1) w wx := by
  obtain ⟨hf, R, h1, h2, h3⟩ := h
  have ht : lsT P L tr (m + 1) = lsT P L tr m := by
    show (lsT P L tr m || (decide (800 ≤ L - 1 - m) && decide (P / 10 ^ m % 10 ≠ 0))) = _
    rw [decide_eq_false (by omega : ¬ P / 10 ^ m % 10 ≠ 0)]; simp
  exact ⟨hf, R, ht ▸ h1, fun j hj => h2 j (by omega), fun j h4 h5 h6 => h3 j (by omega) h5 h6⟩
def LsPost (k b : Nat) (s : DS) (ng : Bool) (w : World) (e : Ending) (w' : World) : Prop :=
  e = .returned (.tuple #[]) ∧ (lsS k s).At ng w' b ∧ DFr b w w'

theorem run_slice_dec (b nd : Nat) (h : nd ≤ 800) (W : World) : (Instr.sliceAt 206 (.pointer (some ⟨b, 0, none⟩)) (some (.int .i64 0)) (some (.int .i64 (nd : Int))) none).run Tryz.prog W = .ok (.slice (some ⟨b, 0, none⟩) nd 800) W := by
  have hal : Tryz.prog.arrayLen 206 = 800 := by kernel_rfl
  have hs : (sizeOf (Tryz.prog.elem 206)).run Tryz.prog W = .ok 1 W := by kernel_rfl
  rw [run_sliceAt_array_lh W 206 ⟨b, 0, none⟩ (by kernel_rfl) .i64 .i64 0 (nd : Int) (by omega) (by omega) (by rw [hal]; omega), hal, hs]
  simp [slicedAt, Result.andThen]
  rfl
set_option maxRecDepth 100000 in
set_option maxHeartbeats 1000000 in
theorem left_any (b : Nat) (gl : Nat × Nat) (s : DS) (ng : Bool) (k : Nat) (w : World) (h : s.At ng w b) (hs : s.Good) (hk1 : 1 ≤ k) (hk : k ≤ 60) (hd1 : -1000000 ≤ s.dp) (hd2 : s.dp ≤ 1000000) (hG : GlL gl w) :
    Calls Tryz.prog 167 #[.pointer (some ⟨b, 0, none⟩), .int .u64 (k : Int)] w (LsPost k b s ng w) := by
  have hcl := lsLn_cut k hk1 hk s hs
  have hlaw := lsLn_law k s hs
  obtain ⟨hF, hDS, hq100⟩ := five_tab k hk1 hk
  have hS : lsS k s = ⟨trimN (lsD (lsP k s) (lsLn k s)) (min (lsLn k s) 800), lsD (lsP k s) (lsLn k s), s.dp + ((lsLn k s : Int) - s.nd), lsT (lsP k s) (lsLn k s) s.tr (lsLn k s)⟩ := rfl
  obtain ⟨nd, g, dp, tr⟩ := s
  obtain ⟨h0, h800, hg0, hg⟩ := hs
  dsimp only at h0 h800 hg0 hg hd1 hd2 hcl hlaw hS
  have h : Dec w b nd g dp ng tr := h
  obtain ⟨L, hL⟩ : ∃ L, L = lsLn k ⟨nd, g, dp, tr⟩ := ⟨_, rfl⟩
  obtain ⟨X, hX⟩ : ∃ X, X = pn nd g nd := ⟨_, rfl⟩
  obtain ⟨P, hP⟩ : ∃ P, P = lsP k ⟨nd, g, dp, tr⟩ := ⟨_, rfl⟩
  have hPX : P = X * 2 ^ k := by rw [hP, hX]; rfl
  rw [← hL] at hcl hlaw hS
  rw [← hP] at hlaw hS
  obtain ⟨l1, l2, l3, l4, l5⟩ := hlaw
  have hXl : X < 10 ^ nd := by rw [hX]; exact pn_lt nd g hg nd
  have hXd : ∀ m, m < nd → X / 10 ^ m % 10 = g (nd - 1 - m) := fun m hm => by rw [hX]; exact pn_digit nd g hg m hm
  have HX := Lib.hid (And.intro hXl (And.intro hXd hPX))
  have HPL := Lib.hid (And.intro l4 l5)
  have HS := Lib.hid hS
  have HG := Lib.hid (And.intro h0 (And.intro hg0 hg))
  have HH := Lib.hid h
  clear hXl hXd hPX hX hP hS l4 l5 h0 hg0 hg hL h
  obtain ⟨c0, c1, -, -, cd, cf⟩ := HH.out.cells
  have t0 := hG.tab
  have t1 := hG.del k (by omega)
  have t2 := hG.cut k (by omega)
  obtain ⟨C, hC⟩ : ∃ C, C = cutB k := ⟨_, rfl⟩
  obtain ⟨Dl, hDl⟩ : ∃ Dl, Dl = cutD k := ⟨_, rfl⟩
  rw [← hC] at t2 hcl hq100 hDS hF
  rw [← hDl] at t1 hcl hDS
  have HF := Lib.hid hF
  clear hC hDl cd cf hF
  obtain ⟨B, hB⟩ : ∃ B, B = plt nd g C C.size 0 := ⟨_, rfl⟩
  have hcall := fun n => prefix_any b nd g dp ng tr 800 C (w.drewN n) (HH.out.drew n) (by omega) h800
  rw [← hB] at hcl hcall
  have HC := Lib.hid hcall
  clear hcall hB
  go_enter Tryz.func167, Tryz.ntmps167
  go_wp2_with fail
  go_quiet (first | (rw [run_slice_dec b nd h800]; exact ⟨rfl, rfl⟩) | (refine (HC.out _).mono ?_; rintro e w' ⟨rfl, n, rfl⟩; exact ⟨rfl, _, World.drewN_drewN ..⟩))
  revert nq; intro n1
  go_upto_if 30 with fail
  go_cut [4] (fun d wx => d = .int .i64 ((L : Int) - nd) ∧ wx = w.drewN n1)
  case first =>
    cases B with
    | true =>
      have hcut2 : (L : Int) = nd + Dl - 1 := by simpa using hcl
      have HCU := Lib.hid hcut2; clear hcl hcut2
      go_wp2_with fail
      go_meet
      case rel => exact ⟨by have h9 := HCU.out; congr 1; omega, rfl⟩
    | false =>
      have hcut2 : (L : Int) = nd + Dl := by simpa using hcl
      have HCU := Lib.hid hcut2; clear hcl hcut2
      go_wp2_with fail
      go_meet
      case rel => exact ⟨by have h9 := HCU.out; congr 1; omega, rfl⟩
  case rest =>
    obtain ⟨rfl, rfl⟩ := hcut
    have hinv : LsInv b nd g dp ng tr P L 0 w (w.drewN n1) := by
      obtain ⟨e1, e2, R, e3, e4⟩ := HH.out
      exact ⟨(DFr.refl b w).drewN n1, R, e3, fun i hi => e4 i (by omega), fun i hi hi2 => absurd hi2 (by omega)⟩
    have HI := Lib.hid hinv; clear hinv t0 t1 t2 hq100 hDS HC HF hcl
    obtain ⟨W1, hW1⟩ : ∃ W1, W1 = w.drewN n1 := ⟨_, rfl⟩
    rw [← hW1] at HI ⊢
    have c0' : W1.cell? ⟨b, 800, none⟩ = some (.int .i64 (nd : Int)) := by rw [hW1]; exact c0
    clear c0 c1 hW1
    have hpk : 0 < 2 ^ k := Nat.pow_pos (by decide)
    have hpk2 := two_pow_lt k hk
    obtain ⟨Q, hQ⟩ : ∃ Q : Nat, Q = 2 ^ k := ⟨_, rfl⟩
    have hQ2 : (2 : Int) ^ k = (Q : Int) := by rw [hQ]; simp
    rw [← hQ] at hpk hpk2
    have HQ := Lib.hid hQ; clear hQ
    go_upto_block 0 with fail
    go_cut [6, 7] (fun wi n wx => wi = .int .i64 ((L : Int) - nd) ∧ n = .int .u64 (lsn X k nd : Nat) ∧ RowKit.Hid (LsInv b nd g dp ng tr P L nd w wx))
    case first =>
      go_wp2_with fail
      go_loopg [5, 6, 7] nd (fun gk r wi n wr => ∃ m, m + gk = nd ∧ r = .int .i64 ((gk : Int) - 1) ∧ wi = .int .i64 ((L : Int) - m) ∧ n = .int .u64 (lsn X k m : Nat) ∧ RowKit.Hid (LsInv b nd g dp ng tr P L m w wr))
      case atStart => exact ⟨0, by omega, rfl, by congr 1; omega, by rw [lsn_zero]; rfl, HI⟩
      case round =>
        obtain ⟨m, hm, rfl, rfl, rfl, hinv⟩ := hrel
        by_cases hz : gk = 0
        · subst hz
          have hmn : m = nd := by omega
          subst hmn
          go_wp2_with fail
          go_meet
          case rel => exact ⟨rfl, rfl, hinv⟩
        · obtain ⟨j, rfl⟩ : ∃ j, gk = j + 1 := ⟨gk - 1, by omega⟩
          obtain ⟨hf, Rr, hraw, hr1, hr2⟩ := hinv.out
          have cj : wr.cell? ⟨b, j, none⟩ = some (.int .u8 ((48 + g j : Nat) : Int)) := (hraw.1.cell j).trans (hr1 j (by omega))
          have ff := hraw.cells.2.2.2.2.1
          have fj : L < 801 + m → wr.frozen? ⟨b, L - 1 - m, none⟩ = false := fun _ => ff _
          have ft := ff 803
          clear hf hraw hr1 hr2 ff
          have hgj := HG.out.2.2 j (by omega)
          have hXj := HX.out.2.1 m (by omega)
          rw [show nd - 1 - m = j by omega] at hXj
          have hlt := lsn_lt X k m
          have hquo := lsn_quo X k m
          have hrem := lsn_rem X k m
          rw [hXj] at hquo hrem
          rw [← HX.out.2.2] at hrem
          rw [← HQ.out] at hlt hquo hrem
          obtain ⟨n, hn⟩ : ∃ n, n = lsn X k m := ⟨_, rfl⟩
          obtain ⟨y, hy⟩ : ∃ y, y = g j := ⟨_, rfl⟩
          rw [← hn] at hlt hquo hrem ⊢
          rw [← hy] at cj hgj hquo hrem
          clear hXj hn hy
          have hyQ : y * Q ≤ 9 * Q := Nat.mul_le_mul_right _ (by omega)
          obtain ⟨T, hT⟩ : ∃ T, T = n + y * Q := ⟨_, rfl⟩
          rw [← hT] at hquo hrem
          have hT64 : T < 18446744073709551616 := by omega
          have hsh : IntKind.u64.wrap ((y : Int) * Q) = ((y * Q : Nat) : Int) := by rw [IntKind.wrap_u64, ← Int.natCast_mul]; omega
          go_upto_region 9 with fail
          go_cut [7] (fun t wx => t = .int .u64 (T : Nat) ∧ wr = wx)
          case first =>
            go_wp2_with fail
            go_meet
            case rel => exact ⟨by rw [show (48 + (y : Int) - 48) = y by omega, hsh]; congr 1; rw [IntKind.wrap_u64]; omega, rfl⟩
          case rest =>
            obtain ⟨rfl, rfl⟩ := hcut
            clear hsh hyQ hgj cj hT hlt
            obtain ⟨i, hi⟩ : ∃ i, i + m + 1 = L := ⟨L - 1 - m, by omega⟩
            have fi : i < 800 → wr.frozen? ⟨b, i, none⟩ = false := fun h => by rw [show i = L - 1 - m by omega]; exact fj (by omega)
            have HR0 := Lib.hid (And.intro hrem hquo); clear hrem hquo
            go_upto_region 11 with fail
            go_cut [9] (fun r wx => r = .int .u64 (T % 10 : Nat) ∧ wr = wx)
            case first =>
              go_wp2_with fail
              go_meet
              case rel => exact ⟨by congr 1; omega, rfl⟩
            case rest =>
              obtain ⟨rfl, rfl⟩ := hcut
              obtain ⟨hrem, hquo⟩ := HR0.out
              clear HR0
              have hT10 : T % 10 < 10 := Nat.mod_lt _ (by decide)
              obtain ⟨d, hd⟩ : ∃ d, d = T % 10 := ⟨_, rfl⟩
              rw [← hd] at hT10 hrem ⊢
              have HR := Lib.hid (And.intro hrem (And.intro hquo hd)); clear hrem hquo hd fj
              have hwi : IntKind.i64.wrap ((L : Int) - m - 1) = (i : Int) := by rw [IntKind.wrap_i64]; omega
              by_cases h8 : i < 800
              · have fi := fi h8
                obtain ⟨z, hz1, hz2⟩ : ∃ z : Nat, z < 256 ∧ wr.cell? ⟨b, i, none⟩ = some (.int .u8 (z : Int)) := by
                  obtain ⟨-, R, hr, -⟩ := hinv.out
                  obtain ⟨x, h1, h2⟩ := hr.2.1 i h8
                  exact ⟨x, h1, (hr.1.cell i).trans h2⟩
                go_wp2_with fail
                go_roundg j
                case rel =>
                  have hp := hinv.out.put (by omega) l2 i hi h8
                  rw [← HR.out.1] at hp
                  refine ⟨m + 1, by omega, by congr 1 <;> omega, by congr 1 <;> omega, ?_, ?_⟩
                  · rw [← HR.out.2.1]; rfl
                  · rw [show ((d : Int) + 48) = ((48 + d : Nat) : Int) by omega]; exact Lib.hid hp
                case measure => omega
              · by_cases hd0 : d = 0
                · subst hd0
                  go_wp2_with fail
                  go_roundg j
                  case rel =>
                    have hp := hinv.out.cutF (by omega) l2 i hi (by omega) HR.out.1.symm
                    refine ⟨m + 1, by omega, by congr 1 <;> omega, by congr 1 <;> omega, ?_, Lib.hid hp⟩
                    rw [← HR.out.2.1]; rfl
                  case measure => omega
                · have hd1 : ((d : Int) != 0) = true := by rw [bne_iff_ne]; omega
                  obtain ⟨z, hz2⟩ : ∃ z : Bool, wr.cell? ⟨b, 803, none⟩ = some (.bool z) := by
                    obtain ⟨-, R, hr, -⟩ := hinv.out
                    exact ⟨_, hr.cells.2.2.2.1⟩
                  go_wp2_with fail
                  go_roundg j
                  case rel =>
                    have hp := hinv.out.cutT (by omega) l2 i hi (by omega) h800 (by rw [← HR.out.1]; exact hd0)
                    refine ⟨m + 1, by omega, by congr 1 <;> omega, by congr 1 <;> omega, ?_, Lib.hid hp⟩
                    rw [← HR.out.2.1]; rfl
                  case measure => omega
    case rest =>
      obtain ⟨rfl, rfl, hinv0⟩ := hcut
      clear HI c0'
      go_upto_block 2 with fail
      go_cut [6, 7] (fun wi n wx => RowKit.Hid (LsInv b nd g dp ng tr P L L w wx))
      case first =>
        go_wp2_with fail
        go_loopg [6, 7] (L - nd) (fun gk wi n wr => ∃ m, m + gk = L ∧ nd ≤ m ∧ wi = .int .i64 ((gk : Nat) : Int) ∧ n = .int .u64 (P / 10 ^ m : Nat) ∧ RowKit.Hid (LsInv b nd g dp ng tr P L m w wr))
        case atStart => exact ⟨nd, by omega, Nat.le_refl _, by congr 1; omega, by rw [lsn_big X k nd nd HX.out.1 (Nat.le_refl _), HX.out.2.2], hinv0⟩
        case round =>
          obtain ⟨m, hm, hnm, rfl, rfl, hinv⟩ := hrel
          by_cases hz : gk = 0
          · subst hz
            have hmn : m = L := by omega
            subst hmn
            have h0 : P / 10 ^ m = 0 := Nat.div_eq_of_lt HPL.out.2
            rw [h0]
            clear h0
            go_wp2_with fail
            go_meet
            case rel => exact hinv
          · obtain ⟨i, rfl⟩ : ∃ i, gk = i + 1 := ⟨gk - 1, by omega⟩
            have hi : i + m + 1 = L := by omega
            have hTp : 0 < P / 10 ^ m := by
              apply Nat.div_pos _ (Nat.pow_pos (by decide))
              exact Nat.le_trans (Nat.pow_le_pow_right (by decide) (by omega)) HPL.out.1
            have hT64 : P / 10 ^ m < 18446744073709551616 := by
              have hb := lsn_big X k m nd HX.out.1 hnm
              rw [← HX.out.2.2] at hb
              rw [← hb]
              have := lsn_lt X k m
              rw [← HQ.out] at this
              omega
            have hquo : P / 10 ^ m / 10 = P / 10 ^ (m + 1) := by rw [Nat.div_div_eq_div_mul, Nat.pow_succ]
            obtain ⟨T, hT⟩ : ∃ T, T = P / 10 ^ m := ⟨_, rfl⟩
            have hrem : T % 10 = P / 10 ^ m % 10 := by rw [hT]
            rw [← hT] at hTp hT64 hquo ⊢
            have HR0 := Lib.hid (And.intro hrem hquo); clear hrem hquo hT
            have fi : i < 800 → wr.frozen? ⟨b, i, none⟩ = false := fun h => by
              obtain ⟨-, R, hr, -⟩ := hinv.out
              exact hr.cells.2.2.2.2.1 i
            have ft : wr.frozen? ⟨b, 803, none⟩ = false := by
              obtain ⟨-, R, hr, -⟩ := hinv.out
              exact hr.cells.2.2.2.2.1 803
            have hTp2 : (0 < T) = True := eq_true hTp
            go_upto_region 20 with fail
            go_cut [11] (fun r wx => r = .int .u64 (T % 10 : Nat) ∧ wr = wx)
            case first =>
              go_wp2_with fail
              go_meet
              case rel => exact ⟨by congr 1; omega, rfl⟩
            case rest =>
              obtain ⟨rfl, rfl⟩ := hcut
              obtain ⟨hrem, hquo⟩ := HR0.out
              clear HR0
              have hT10 : T % 10 < 10 := Nat.mod_lt _ (by decide)
              obtain ⟨d, hd⟩ : ∃ d, d = T % 10 := ⟨_, rfl⟩
              rw [← hd] at hT10 hrem ⊢
              have HR := Lib.hid (And.intro hrem (And.intro hquo hd)); clear hrem hquo hd
              by_cases h8 : i < 800
              · have fi := fi h8
                obtain ⟨z, hz1, hz2⟩ : ∃ z : Nat, z < 256 ∧ wr.cell? ⟨b, i, none⟩ = some (.int .u8 (z : Int)) := by
                  obtain ⟨-, R, hr, -⟩ := hinv.out
                  obtain ⟨x, h1, h2⟩ := hr.2.1 i h8
                  exact ⟨x, h1, (hr.1.cell i).trans h2⟩
                go_wp2_with fail
                go_roundg i
                case rel =>
                  have hp := hinv.out.put (by omega) l2 i hi h8
                  rw [← HR.out.1] at hp
                  refine ⟨m + 1, by omega, by omega, by congr 1 <;> omega, ?_, ?_⟩
                  · rw [← HR.out.2.1] <;> rfl
                  · rw [show ((d : Int) + 48) = ((48 + d : Nat) : Int) by omega]; exact Lib.hid hp
                case measure => omega
              · exact absurd h8 (by omega)
      case rest =>
        clear hinv0
        have hinv := hcut
        clear hcut
        obtain ⟨hfr, Rr, hraw, -, hdg⟩ := hinv.out
        obtain ⟨c0, c1, -, -, cf, -⟩ := hraw.cells
        have f0 := cf 800
        have f1 := cf 801
        have hS := HS.out
        have hfin : ∀ N w', N = min L 800 → Dec w' b (trimN (lsD P L) N) (lsD P L) (if trimN (lsD P L) N = 0 then 0 else dp + ((L : Int) - nd)) ng (lsT P L tr L) → DFr b w w' → LsPost k b ⟨nd, g, dp, tr⟩ ng w (.returned (.tuple #[])) w' := by
          intro N w' hN h1 h2
          have hf := lsD_first P L HPL.out.1 HPL.out.2 l1
          have hp := trimN_pos (lsD P L) N (by omega) hf
          rw [if_neg (by omega)] at h1
          rw [hN] at h1
          refine ⟨rfl, ?_, h2⟩
          rw [hS]
          exact h1
        have HFN := Lib.hid hfin
        have hnl : (nd : Int) + ((L : Int) - nd) = (L : Int) := by omega
        by_cases h8 : L < 800
        · have hdec : Dec ((wc.setCell ⟨b, 800, none⟩ (.int .i64 (L : Int))).setCell ⟨b, 801, none⟩ (.int .i64 (dp + ((L : Int) - nd)))) b L (lsD P L) (dp + ((L : Int) - nd)) ng (lsT P L tr L) :=
            ⟨by omega, fun i _ => lsD_lt _ _ _, _, (hraw.num (L : Int)).point _, fun i hi => by rw [upd_ne _ _ _ _ (by omega), upd_ne _ _ _ _ (by omega)]; exact hdg i (by omega) (by omega) (by omega)⟩
          have HT := Lib.hid (trim_any b L (lsD P L) _ ng _ _ hdec)
          have HD := Lib.hid ((hfr.set 800 (.int .i64 (L : Int))).set 801 (.int .i64 (dp + ((L : Int) - nd))))
          clear hfin hS hraw hdg cf hdec hfr hinv
          go_wp2_with (go_at_call 175; refine HT.out.mono ?_; rintro e w' ⟨rfl, k2, k3⟩)
          go_end0
          exact HFN.out L _ (by omega) k2 (HD.out.trans k3)
        · have hdec : Dec (((wc.setCell ⟨b, 800, none⟩ (.int .i64 (L : Int))).setCell ⟨b, 800, none⟩ (.int .i64 800)).setCell ⟨b, 801, none⟩ (.int .i64 (dp + ((L : Int) - nd)))) b 800 (lsD P L) (dp + ((L : Int) - nd)) ng (lsT P L tr L) :=
            ⟨by omega, fun i _ => lsD_lt _ _ _, _, ((hraw.num (L : Int)).num 800).point _, fun i hi => by rw [upd_ne _ _ _ _ (by omega), upd_ne _ _ _ _ (by omega), upd_ne _ _ _ _ (by omega)]; exact hdg i (by omega) (by omega) (by omega)⟩
          have HT := Lib.hid (trim_any b 800 (lsD P L) _ ng _ _ hdec)
          have HD := Lib.hid (((hfr.set 800 (.int .i64 (L : Int))).set 800 (.int .i64 800)).set 801 (.int .i64 (dp + ((L : Int) - nd))))
          clear hfin hS hraw hdg cf hdec hfr hinv
          go_wp2_with (go_at_call 175; refine HT.out.mono ?_; rintro e w' ⟨rfl, k2, k3⟩)
          go_end0
          exact HFN.out 800 _ (by omega) k2 (HD.out.trans k3)

end Go.Proofs.YtblpcpkkjbkakaaGreatDoor
/- The plain law of a decimal's setting: its digits, its point, what was cut. -/
namespace Go.Proofs.YtblpcpkkjbkakaaGreatDoor
open Go Go.RowKit
set_option linter.unusedVariables false
set_option linter.unusedSimpArgs false

/-- The setting's state: digits put down, the point's place, whether something was cut, a point seen, a digit seen, the digits. -/
structure SS where
  nd : Nat
  dp : Int
  tr : Bool
  sd : Bool
  sg : Bool
  g : Nat → Nat
def SS.init : SS := ⟨0, 0, false, false, false, fun _ => 0⟩
def SS.step (s : SS) (c : UInt8) : SS :=
  if c = 46 then ⟨s.nd, s.nd, s.tr, true, s.sg, s.g⟩
  else if c = 48 ∧ s.nd = 0 then ⟨s.nd, s.dp - 1, s.tr, s.sd, true, s.g⟩
  else if s.nd < 800 then ⟨s.nd + 1, s.dp, s.tr, s.sd, true, fun i => if i = s.nd then c.toNat - 48 else s.g i⟩
  else ⟨s.nd, s.dp, s.tr || c != 48, s.sd, true, s.g⟩
def SS.run (l : List UInt8) (k : Nat) : SS := (l.take k).foldl SS.step SS.init
theorem SS.run_succ (l : List UInt8) (k : Nat) (c : UInt8) (h : l[k]? = some c) : SS.run l (k + 1) = (SS.run l k).step c := by
  unfold SS.run
  rw [List.take_add_one, h]
  simp [List.foldl_append]
structure SS.Ok (s : SS) (k : Nat) : Prop where
  hnd : s.nd ≤ k
  h8 : s.nd ≤ 800
  hdp : -(k : Int) ≤ s.dp ∧ s.dp ≤ k
  hg : ∀ i, i < s.nd → s.g i < 10
  h0 : 0 < s.nd → s.g 0 ≠ 0
theorem SS.ok_step {s : SS} {k : Nat} (h : s.Ok k) (c : UInt8) (hc : c = 46 ∨ isDig c = true) : (s.step c).Ok (k + 1) := by
  obtain ⟨h1, h2, ⟨h3, h4⟩, h5, h6⟩ := h
  unfold SS.step
  by_cases h46 : c = 46
  · rw [if_pos h46]
    exact ⟨by dsimp only; omega, h2, ⟨by dsimp only; omega, by dsimp only; omega⟩, h5, h6⟩
  · rw [if_neg h46]
    have hd : isDig c = true := by rcases hc with h | h; exact absurd h h46; exact h
    rw [isDig_iff] at hd
    by_cases h0 : c = 48 ∧ s.nd = 0
    · rw [if_pos h0]
      exact ⟨by dsimp only; omega, h2, ⟨by dsimp only; omega, by dsimp only; omega⟩, h5, h6⟩
    · rw [if_neg h0]
      by_cases hm : s.nd < 800
      · rw [if_pos hm]
        refine ⟨by dsimp only; omega, by dsimp only; omega, ⟨by dsimp only; omega, by dsimp only; omega⟩, fun i hi => ?_, fun _ => ?_⟩
        · dsimp only at hi ⊢
          split
          · omega
          · exact h5 i (by omega)
        · dsimp only
          by_cases e : 0 = s.nd
          · rw [if_pos e]
            intro hz
            exact h0 ⟨(byte_eq _ _).2 (by show (c.toNat : Int) = 48; omega), e.symm⟩
          · rw [if_neg e]; exact h6 (by omega)
      · rw [if_neg hm]
        exact ⟨by dsimp only; omega, h2, ⟨by dsimp only; omega, by dsimp only; omega⟩, h5, h6⟩
theorem SS.ok_init : SS.init.Ok 0 := ⟨Nat.le_refl _, by decide, by decide, fun i hi => absurd hi (by show ¬ i < 0; omega), fun h => absurd h (by decide)⟩
theorem SS.run_ok {l : List UInt8} {D : Nat} {dot : Bool} {m : Nat} (h : Parts l D dot m) : ∀ k, k ≤ m → (SS.run l k).Ok k
  | 0, _ => by unfold SS.run; exact SS.ok_init
  | k + 1, hk => by
    obtain ⟨c, hc, hcc⟩ := h.chars k (by omega)
    rw [SS.run_succ l k c hc]
    exact SS.ok_step (SS.run_ok h k (by omega)) c (by rcases hcc with h | h; exact .inr h; exact .inl h.1)
/-- What the two readings see alike. -/
def Like (s : SS) (r : RS) : Prop := s.sd = r.sd ∧ s.sg = r.sg ∧ (s.nd = 0 ↔ r.nd = 0)
theorem Like.step {s : SS} {r : RS} (h : Like s r) (c : UInt8) : Like (s.step c) (r.step c) := by
  obtain ⟨h1, h2, h3⟩ := h
  unfold SS.step RS.step
  by_cases h46 : c = 46
  · rw [if_pos h46, if_pos h46]; exact ⟨rfl, h2, h3⟩
  · rw [if_neg h46, if_neg h46]
    by_cases h0 : c = 48 ∧ s.nd = 0
    · rw [if_pos h0, if_pos ⟨h0.1, h3.1 h0.2⟩]; exact ⟨h1, rfl, h3⟩
    · rw [if_neg h0, if_neg (show ¬(c = 48 ∧ r.nd = 0) from fun h => h0 ⟨h.1, h3.2 h.2⟩)]
      split <;> split <;> refine ⟨h1, rfl, ?_⟩ <;> dsimp only <;> omega
theorem Like.run (l : List UInt8) : ∀ k, Like (SS.run l k) (RS.run l k) := by
  intro k
  unfold SS.run RS.run
  have : ∀ (x : List UInt8) (s : SS) (r : RS), Like s r → Like (x.foldl SS.step s) (x.foldl RS.step r) := by
    intro x
    induction x with
    | nil => exact fun s r h => h
    | cons c x ih => exact fun s r h => ih _ _ (h.step c)
  exact this _ _ _ ⟨rfl, rfl, Iff.rfl⟩
theorem SS.run_sd {l : List UInt8} {D : Nat} {dot : Bool} {m : Nat} (h : Parts l D dot m) (k : Nat) (hk : k ≤ m) : (SS.run l k).sd = (dot && decide (D < k)) := (Like.run l k).1.trans (RS.run_sd h k hk)
theorem SS.run_sg {l : List UInt8} {D : Nat} {dot : Bool} {m : Nat} (h : Parts l D dot m) : (SS.run l m).sg = true := (Like.run l m).2.1.trans (RS.run_sg h)
/-- The decimal that is set. -/
def setX (l : List UInt8) (m : Nat) : DS := ⟨(SS.run l m).nd, (SS.run l m).g, (if (SS.run l m).sd then (SS.run l m).dp else (SS.run l m).nd) + readE l m, (SS.run l m).tr⟩

end Go.Proofs.YtblpcpkkjbkakaaGreatDoor
