/- Lemmas towards the seat's laws: 1 texts joined. -/
import Derived.Test.YtblpcpkkjbkakaaGreatDoorY05
import Derived.Lib.ConvBytes
import Derived.Laws.IdiomStrings
/- The reference's small functions on words and decimals: upper, padded. -/
namespace Go.Proofs.YtblpcpkkjbkakaaGreatDoor
open Go Go.RowKit
set_option linter.unusedVariables false
set_option linter.unusedSimpArgs false

theorem set_same {w : World} {a : Addr} {u : Value} (v : Value) (h : w.cell? a = some u) : (w.setCell a v).cell? a = some v := World.cell?_setCell_same _ _ _ h
theorem set_other {w : World} {a b : Addr} (v : Value) (h : a ≠ b) : (w.setCell a v).cell? b = w.cell? b := World.cell?_setCell_other _ _ _ _ h
theorem addr_ne {N j k : Nat} (h : j ≠ k) : (⟨N, j, none⟩ : Addr) ≠ ⟨N, k, none⟩ := by intro e; injection e with _ e2; exact h e2
/-- 'upper' returns some string. -/
def StrPost (w : World) (e : Ending) (w' : World) : Prop := ∃ u : ByteArray, e = .returned (.string u) ∧ Below w.heap.size w w'

/-- A block of bytes of the call's own, of which n are known to be bytes. -/
def OwnBytes (N n : Nat) (w w' : World) : Prop := ∃ l : List UInt8, l.length = n ∧ (∀ j, j < n → w'.cell? ⟨N, j, none⟩ = some (.int .u8 (l.getD j 0).toNat)) ∧ (∀ j, j < n → w'.frozen? ⟨N, j, none⟩ = false) ∧ N < w'.heap.size ∧ Below N w w'

theorem ownBytes_start (w : World) (s : ByteArray) : OwnBytes w.heap.size s.size w (Lib.bytesWorld w 5 s) := by
  refine ⟨s.data.toList, by simp, fun j hj => Lib.bytesWorld_cell w 5 s j hj, fun j hj => ?_, by rw [Lib.bytesWorld_size]; omega, ⟨rfl, rfl, rfl, by rw [Lib.bytesWorld_size]; omega, fun k hk => Lib.bytesWorld_at_old w 5 s k hk⟩⟩
  simp [World.frozen?, Lib.bytesWorld_at_new]
  intro h
  have : s.size ≤ (Lib.bytesCells w 5 s).size := by simp [Lib.bytesCells]
  omega

set_option maxRecDepth 100000 in
set_option maxHeartbeats 1000000 in
theorem upper_any (s : ByteArray) (w : World) (hs : s.size ≤ 100000) :
    Calls Tryz.prog 24 #[.string s] w (StrPost w) := by
  have hcv := Lib.run_convert_string_bytes (P := Tryz.prog) w 9 85 5 s Tryz.underlying9 Tryz.underlying85 Tryz.underlying5
  have hst := ownBytes_start w s
  generalize grownCap w s.size 0 5 = cap at hcv
  generalize Lib.bytesWorld w 5 s = w1 at hcv hst
  generalize hN : w.heap.size = N at hcv hst
  have HN := Lib.hid hN
  have HST := Lib.hid hst; clear hst hN
  go_enter Tryz.func24, Tryz.ntmps24
  go_wp2
  go_loopw [10] (fun i wr => ∃ k : Nat, k ≤ s.size ∧ i = .int .i64 k ∧ OwnBytes N s.size w wr) (fun i _ => s.size - (intOf i).toNat)
  case atStart => exact ⟨0, Nat.zero_le _, rfl, HST.out⟩
  case round =>
    obtain ⟨k, hk, rfl, l, hl, hcells, hfr, hNs, hbel⟩ := hrel
    have HC := Lib.hid hcells; have HF := Lib.hid hfr; clear hcells hfr
    have HL := Lib.hid hl; clear hl
    by_cases hlt : k < s.size
    · have hc := HC.out k hlt
      have hf := HF.out k hlt
      generalize hcc : l.getD k 0 = c at hc
      have HCC := Lib.hid hcc; clear hcc
      have hcb : (c.toNat : Int) ≤ 255 := by have := c.toNat_lt; omega
      go_wp2
      · go_roundw
        case rel =>
          go_light
          refine ⟨k + 1, by omega, by go_num, l.set k (UInt8.ofNat (c.toNat - 32)), by simpa using HL.out, fun j hj => ?_, fun j hj => ?_, by simpa [World.setCell] using hNs, hbel.setCell (p := ⟨N, k, none⟩) (Nat.le_refl _) _⟩
          · by_cases hjk : j = k
            · subst hjk
              have h1 : (97 : Int) ≤ (c.toNat : Int) := by assumption
              have e1 : ((l.set j (UInt8.ofNat (c.toNat - 32))).getD j 0) = UInt8.ofNat (c.toNat - 32) := by simp [List.getD, HL.out, hj]
              rw [e1, set_same _ hc, UInt8.toNat_ofNat']
              congr 2
              omega
            · rw [set_other _ (addr_ne (Ne.symm hjk))]
              have e1 : ((l.set k (UInt8.ofNat (c.toNat - 32))).getD j 0) = l.getD j 0 := by simp [List.getD, List.getElem?_set_ne (Ne.symm hjk)]
              rw [e1]; exact HC.out j hj
          · rw [World.frozen?_setCell]; exact HF.out j hj
        case measure => simp [intOf]; omega
      all_goals
        go_roundw
        case rel => exact ⟨k + 1, by omega, by go_num, l, HL.out, HC.out, HF.out, hNs, hbel⟩
        case measure => simp [intOf]; omega
    · have hb := run_convert_bytes_back (P := Tryz.prog) wr 85 9 5 ⟨N, 0, none⟩ cap l Tryz.underlying85 Tryz.underlying5 Tryz.underlying9 (fun j hj => by
        have := HC.out j (by rw [← HL.out]; exact hj)
        rw [show (⟨N, 0, none⟩ : Addr).add j = ⟨N, j, none⟩ by unfold Addr.add; split <;> simp_all]
        rw [this]; simp [List.getD, hj])
      rw [HL.out] at hb
      go_wp2
      go_ret
      exact ⟨_, rfl, by rw [HN.out]; exact hbel⟩


def isE (c : UInt8) : Bool := c == 101 || c == 69
theorem findIdx_none (p : UInt8 → Bool) : ∀ (l : List UInt8), (∀ i, i < l.length → p (l.getD i 0) = false) → l.findIdx? p = none := by
  intro l h
  rw [List.findIdx?_eq_none_iff]
  intro x hx
  obtain ⟨i, hi, rfl⟩ := List.getElem_of_mem hx
  have := h i hi
  simpa [List.getD, hi] using this

theorem padd_at (l : List UInt8) (i : Nat) (hi : i < l.length) (he : isE (l.getD i 0) = true) (hb : ∀ j, j < i → isE (l.getD j 0) = false) :
    l.findIdx? (fun c => c == 101 || c == 69) = some i := by
  rw [List.findIdx?_eq_some_iff_getElem]
  refine ⟨hi, by simpa [isE, List.getD, hi] using he, fun j hj => ?_⟩
  have := hb j hj
  have hjl : j < l.length := by omega
  simpa [isE, List.getD, hjl] using this

theorem getD_at (s : ByteArray) (k : Nat) (h : k < s.size) : s.data.toList.getD k 0 = s[k] := by
  rw [List.getD_eq_getElem?_getD, get_at s k h]; rfl

theorem gb43 (s : ByteArray) (n : Nat) (h : n < s.size) : ((s[n].toNat : Int) == 43) = (s.data.toList[n]? == some 43) := get_beq s n 43 h (by omega)
theorem gb45 (s : ByteArray) (n : Nat) (h : n < s.size) : ((s[n].toNat : Int) == 45) = (s.data.toList[n]? == some 45) := get_beq s n 45 h (by omega)
theorem gb46 (s : ByteArray) (n : Nat) (h : n < s.size) : ((s[n].toNat : Int) == 46) = (s.data.toList[n]? == some 46) := get_beq s n 46 h (by omega)
theorem gb48 (s : ByteArray) (n : Nat) (h : n < s.size) : ((s[n].toNat : Int) == 48) = (s.data.toList[n]? == some 48) := get_beq s n 48 h (by omega)
theorem gb69 (s : ByteArray) (n : Nat) (h : n < s.size) : ((s[n].toNat : Int) == 69) = (s.data.toList[n]? == some 69) := get_beq s n 69 h (by omega)
theorem gb101 (s : ByteArray) (n : Nat) (h : n < s.size) : ((s[n].toNat : Int) == 101) = (s.data.toList[n]? == some 101) := get_beq s n 101 h (by omega)

set_option maxRecDepth 100000 in
set_option maxHeartbeats 1000000 in
theorem padded_any (s : ByteArray) (w : World) (hs : s.size ≤ 100000) (hE : ExpOk s.data.toList) :
    Calls Tryz.prog 25 #[.string s] w fun e w' => e = .returned (.bool (padd s.data.toList)) ∧ w = w' := by
  have HE := Lib.hid hE; clear hE
  obtain ⟨m, hm⟩ : ∃ m, digs (s.data.toList.drop 1) = m := ⟨_, rfl⟩
  have HM := Lib.hid hm; clear hm
  go_enter Tryz.func25, Tryz.ntmps25
  go_upto_region 1 with fail
  go_cut [18] (fun c wx => ∃ b : Bool, c = .bool b ∧ RowKit.Hid ((1 < s.data.toList.length && s.data.toList[0]? == some 48 && 0 < digs (s.data.toList.drop 1)) = b) ∧ w = wx)
  case first =>
    have hl1 : s.data.toList.length = s.size := by simp
    have HL1 := Lib.hid hl1; clear hl1
    by_cases h1 : 1 < s.size
    · have hg := Lib.hid (gb48 s 0 (by omega))
      cases hb : ((s[0].toNat : Int) == 48) with
      | true =>
        go_wp2_with (go_at_call 40; refine (digits_d s _ (by omega) 1 m HM.out).mono ?_; rintro e w' ⟨rfl, rfl⟩)
        go_meet
        case rel =>
          go_light
          refine ⟨_, rfl, ?_, rfl⟩
          show _ = _
          have h2 := hg.out; have h3 := HM.out; have h4 := HL1.out
          rw [h3, h4, ← h2]; simp_all
      | false =>
        go_wp2_with fail
        go_meet
        case rel =>
          go_light
          refine ⟨_, rfl, ?_, rfl⟩
          show _ = _
          have h2 := hg.out
          rw [← h2]; simp_all
    · go_wp2
      go_meet
      case rel =>
        go_light
        refine ⟨_, rfl, ?_, rfl⟩
        show _ = _
        have h4 := HL1.out
        rw [h4]; simp; omega
  case rest =>
    obtain ⟨b, rfl, HB, rfl⟩ := hcut
    cases b with
    | true =>
      go_wp2_with fail
      go_ret
      exact ⟨ret_bool (by unfold padd; rw [HB.out]; rfl), rfl⟩
    | false =>
      go_wp2_with fail
      go_loop [21] (fun i => ∃ k : Nat, k ≤ s.size ∧ i = .int .i64 k ∧ RowKit.Hid (∀ j, j < k → isE (s.data.toList.getD j 0) = false)) (fun i => s.size - (intOf i).toNat)
      case atStart => exact ⟨0, Nat.zero_le _, rfl, fun j hj => absurd hj (by omega)⟩
      case round =>
        obtain ⟨k, hk, rfl, HK⟩ := hrel
        by_cases hlt : k < s.size
        · by_cases he : isE s[k] = true
          · have hee : s.data.toList[k]? = some 101 ∨ s.data.toList[k]? = some 69 := by
              rw [get_at s k hlt]; simpa [isE] using he
            obtain ⟨h1, h2⟩ := HE.out k hee
            simp at h1 h2
            have hfi := padd_at s.data.toList k (by simpa using hlt) (by rw [getD_at s k hlt]; exact he) HK.out
            have hE2 : ((s[k].toNat : Int) = 101) ∨ ((s[k].toNat : Int) = 69) := by
              unfold isE at he; simp only [Bool.or_eq_true, beq_iff_eq, byte_eq] at he; exact he
            have g0 := Lib.hid (gb43 s (k + 1) h1); have g1 := Lib.hid (gb45 s (k + 1) h1)
            have g2 := Lib.hid (gb48 s (k + 1) h1)
            have HFI := Lib.hid hfi; have H2 := Lib.hid h2; clear hfi h2 hee he
            by_cases hsg : s.data.toList[k + 1]? = some 43 ∨ s.data.toList[k + 1]? = some 45
            · have h2 : k + 2 < s.size := H2.out (by simpa using hsg)
              have g3 := Lib.hid (gb48 s (k + 2) h2)
              have hfin : RowKit.Hid (padd s.data.toList = (((s[k + 2].toNat : Int) == 48) && decide (k + 2 + 1 < s.size))) := by
                show _ = _
                have h := g3.out
                unfold padd; rw [HB.out, HFI.out]; dsimp only; rw [if_pos hsg, h]; simp
              have hq : ((s[k + 1].toNat : Int) == 43) = true ∨ ((s[k + 1].toNat : Int) == 43) = false ∧ ((s[k + 1].toNat : Int) == 45) = true := by
                have h1 := g0.out; have h2 := g1.out
                rw [h1, h2]; rcases hsg with h | h <;> simp [h]
              clear hsg
              have hz := Bool.eq_false_or_eq_true ((s[k + 2].toNat : Int) == 48)
              rcases hE2 with hE2 | hE2
              all_goals
                rcases hq with hq | ⟨hq, hq2⟩
                all_goals
                  rcases hz with hz | hz
                  all_goals
                    go_wp2_with fail
                    go_ret
                    refine ⟨ret_bool ?_, rfl⟩
                    rw [hfin.out, hz]
                    first | rfl | (simp; omega)
            · have hfin : RowKit.Hid (padd s.data.toList = (((s[k + 1].toNat : Int) == 48) && decide (k + 1 + 1 < s.size))) := by
                show _ = _
                have h := g2.out
                unfold padd; rw [HB.out, HFI.out]; dsimp only; rw [if_neg hsg, h]; simp
              have hq : ((s[k + 1].toNat : Int) == 43) = false := by
                rw [g0.out]; simp at hsg ⊢; exact hsg.1
              have hq2 : ((s[k + 1].toNat : Int) == 45) = false := by
                rw [g1.out]; simp at hsg ⊢; exact hsg.2
              clear hsg
              have hz := Bool.eq_false_or_eq_true ((s[k + 1].toNat : Int) == 48)
              rcases hE2 with hE2 | hE2
              all_goals
                rcases hz with hz | hz
                all_goals
                  go_wp2_with fail
                  go_ret
                  refine ⟨ret_bool ?_, rfl⟩
                  rw [hfin.out, hz]
                  first | rfl | (simp; omega)
          · have he' : isE s[k] = false := by simpa using he
            have hE2 : ((s[k].toNat : Int) == 101) = false ∧ ((s[k].toNat : Int) == 69) = false := by
              rw [gb101 s k hlt, gb69 s k hlt, get_at s k hlt]
              unfold isE at he'; simpa using he'
            obtain ⟨hE1, hE2⟩ := hE2
            have HE' := Lib.hid he'; clear he he'
            go_wp2_with fail
            go_round
            case rel =>
              go_light
              refine ⟨k + 1, by omega, by go_num, fun j hj => ?_⟩
              by_cases hjk : j = k
              · subst hjk; rw [getD_at s j hlt]; exact HE'.out
              · exact HK.out j (by omega)
            case measure => simp [intOf]; omega
        · go_wp2_with fail
          go_ret
          refine ⟨ret_bool ?_, rfl⟩
          unfold padd; rw [HB.out, findIdx_none]; rfl
          intro i hi
          exact HK.out i (by simp at hi; omega)

end Go.Proofs.YtblpcpkkjbkakaaGreatDoor
