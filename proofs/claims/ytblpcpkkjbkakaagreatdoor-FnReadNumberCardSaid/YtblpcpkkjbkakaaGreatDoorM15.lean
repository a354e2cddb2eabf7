/- Lemmas towards the seat's laws: 5 texts joined. -/
import Derived.Test.YtblpcpkkjbkakaaGreatDoorM01
import Derived.Lib.ConvBytes
import Derived.Laws.IdiomStrings
import Derived.Test.YtblpcpkkjbkakaaGreatDoorM14
import Derived.Test.YtblpcpkkjbkakaaGreatDoorM05
/- The reference's small functions on words and decimals: upper, padded. -/
namespace Go.Proofs.YtblpcpkkjbkakaaGreatDoor
open Go Go.RowKit
set_option linter.unusedVariables false
set_option linter.unusedSimpArgs false

theorem set_same {w : World} {a : Addr} {u : Value} (v : Value) (h : w.cell? a = some u) : (w.setCell a v).cell? a = some v := World.cell?_setCell_same _ _ _ h
theorem set_other {w : World} {a b : Addr} (v : Value) (h : a ≠ b) : (w.setCell a v).cell? b = w.cell? b := World.cell?_setCell_other _ _ _ _ h
theorem addr_ne {N j k : Nat} (h : j ≠ k) : (⟨N, j, none⟩ : Addr) ≠ ⟨N, k, none⟩ := by intro e; injection e with _ e2; exact h e2
/-- 'upper' returns some string. -/
def StrPost (w : World) (e : Ending) (w' : World) : Prop := ∃ u : ByteArray, e = .returned (.string u) ∧ Below w.heap.size w w'

/-- A block of bytes of the call's own, of which n are known to be bytes. -/
def OwnBytes (N n : Nat) (w w' : World) : Prop := ∃ l : List UInt8, l.length = n ∧ (∀ j, j < n → w'.cell? ⟨N, j, none⟩ = some (.int .u8 (l.getD j 0).toNat)) ∧ (∀ j, j < n → w'.frozen? ⟨N, j, none⟩ = false) ∧ N < w'.heap.size ∧ Below N w w'

theorem ownBytes_start (w : World) (s : ByteArray) : OwnBytes w.heap.size s.size w (Lib.bytesWorld w 5 s) := by
  refine ⟨s.data.toList, by simp, fun j hj => Lib.bytesWorld_cell w 5 s j hj, fun j hj => ?_, by rw [Lib.bytesWorld_size]; omega, ⟨rfl, rfl, rfl, by rw [Lib.bytesWorld_size]; omega, fun k hk => Lib.bytesWorld_at_old w 5 s k hk⟩⟩
  simp [World.frozen?, Lib.bytesWorld_at_new]
  intro h
  have : s.size ≤ (Lib.bytesCells w 5 s).size := by simp [Lib.bytesCells]
  omega

set_option maxRecDepth 100000 in
set_option maxHeartbeats 1000000 in
theorem upper_any (s : ByteArray) (w : World) (hs : s.size ≤ 100000) :
    Calls Tryz.prog 24 #[.string s] w (StrPost w) := by
  have hcv := Lib.run_convert_string_bytes (P := Tryz.prog) w 9 85 5 s Tryz.underlying9 Tryz.underlying85 Tryz.underlying5
  have hst := ownBytes_start w s
  generalize grownCap w s.size 0 5 = cap at hcv
  generalize Lib.bytesWorld w 5 s = w1 at hcv hst
  generalize hN : w.heap.size = N at hcv hst
  have HN := Lib.hid hN
  have HST := Lib.hid hst; clear hst hN
  go_enter Tryz.func24, Tryz.ntmps24
  go_wp2
  go_loopw [10] (fun i wr => ∃ k : Nat, k ≤ s.size ∧ i = .int .i64 k ∧ OwnBytes N s.size w wr) (fun i _ => s.size - (intOf i).toNat)
  case atStart => exact ⟨0, Nat.zero_le _, rfl, HST.out⟩
  case round =>
    obtain ⟨k, hk, rfl, l, hl, hcells, hfr, hNs, hbel⟩ := hrel
    have HC := Lib.hid hcells; have HF := Lib.hid hfr; clear hcells hfr
    have HL := Lib.hid hl; clear hl
    by_cases hlt : k < s.size
    · have hc := HC.out k hlt
      have hf := HF.out k hlt
      generalize hcc : l.getD k 0 = c at hc
      have HCC := Lib.hid hcc; clear hcc
      have hcb : (c.toNat : Int) ≤ 255 := by have := c.toNat_lt; omega
      go_wp2
      · go_roundw
        case rel =>
          go_light
          refine ⟨k + 1, by omega, by go_num, l.set k (UInt8.ofNat (c.toNat - 32)), by simpa using HL.out, fun j hj => ?_, fun j hj => ?_, by simpa [World.setCell] using hNs, hbel.setCell (p := ⟨N, k, none⟩) (Nat.le_refl _) _⟩
          · by_cases hjk : j = k
            · subst hjk
              have h1 : (97 : Int) ≤ (c.toNat : Int) := by assumption
              have e1 : ((l.set j (UInt8.ofNat (c.toNat - 32))).getD j 0) = UInt8.ofNat (c.toNat - 32) := by simp [List.getD, HL.out, hj]
              rw [e1, set_same _ hc, UInt8.toNat_ofNat']
              congr 2
              omega
            · rw [set_other _ (addr_ne (Ne.symm hjk))]
              have e1 : ((l.set k (UInt8.ofNat (c.toNat - 32))).getD j 0) = l.getD j 0 := by simp [List.getD, List.getElem?_set_ne (Ne.symm hjk)]
              rw [e1]; exact HC.out j hj
          · rw [World.frozen?_setCell]; exact HF.out j hj
        case measure => simp [intOf]; omega
      all_goals
        go_roundw
        case rel => exact ⟨k + 1, by omega, by go_num, l, HL.out, HC.out, HF.out, hNs, hbel⟩
        case measure => simp [intOf]; omega
    · have hb := run_convert_bytes_back (P := Tryz.prog) wr 85 9 5 ⟨N, 0, none⟩ cap l Tryz.underlying85 Tryz.underlying5 Tryz.underlying9 (fun j hj => by
        have := HC.out j (by rw [← HL.out]; exact hj)
        rw [show (⟨N, 0, none⟩ : Addr).add j = ⟨N, j, none⟩ by unfold Addr.add; split <;> simp_all]
        rw [this]; simp [List.getD, hj])
      rw [HL.out] at hb
      go_wp2
      go_ret
      exact ⟨_, rfl, by rw [HN.out]; exact hbel⟩


def isE (c : UInt8) : Bool := c == 101 || c == 69
theorem findIdx_none (p : UInt8 → Bool) : ∀ (l : List UInt8), (∀ i, i < l.length → p (l.getD i 0) = false) → l.findIdx? p = none := by
  intro l h
  rw [List.findIdx?_eq_none_iff]
  intro x hx
  obtain ⟨i, hi, rfl⟩ := List.getElem_of_mem hx
  have := h i hi
  simpa [List.getD, hi] using this

theorem padd_at (l : List UInt8) (i : Nat) (hi : i < l.length) (he : isE (l.getD i 0) = true) (hb : ∀ j, j < i → isE (l.getD j 0) = false) :
    l.findIdx? (fun c => c == 101 || c == 69) = some i := by
  rw [List.findIdx?_eq_some_iff_getElem]
  refine ⟨hi, by simpa [isE, List.getD, hi] using he, fun j hj => ?_⟩
  have := hb j hj
  have hjl : j < l.length := by omega
  simpa [isE, List.getD, hjl] using this

theorem getD_at (s : ByteArray) (k : Nat) (h : k < s.size) : s.data.toList.getD k 0 = s[k] := by
  rw [List.getD_eq_getElem?_getD, get_at s k h]; rfl

theorem gb43 (s : ByteArray) (n : Nat) (h : n < s.size) : ((s[n].toNat : Int) == 43) = (s.data.toList[n]? == some 43) := get_beq s n 43 h (by omega)
theorem gb45 (s : ByteArray) (n : Nat) (h : n < s.size) : ((s[n].toNat : Int) == 45) = (s.data.toList[n]? == some 45) := get_beq s n 45 h (by omega)
theorem gb46 (s : ByteArray) (n : Nat) (h : n < s.size) : ((s[n].toNat : Int) == 46) = (s.data.toList[n]? == some 46) := get_beq s n 46 h (by omega)
theorem gb48 (s : ByteArray) (n : Nat) (h : n < s.size) : ((s[n].toNat : Int) == 48) = (s.data.toList[n]? == some 48) := get_beq s n 48 h (by omega)
theorem gb69 (s : ByteArray) (n : Nat) (h : n < s.size) : ((s[n].toNat : Int) == 69) = (s.data.toList[n]? == some 69) := get_beq s n 69 h (by omega)
theorem gb101 (s : ByteArray) (n : Nat) (h : n < s.size) : ((s[n].toNat : Int) == 101) = (s.data.toList[n]? == some 101) := get_beq s n 101 h (by omega)

set_option maxRecDepth 100000 in
set_option maxHeartbeats 1000000 in
theorem padded_any (s : ByteArray) (w : World) (hs : s.size ≤ 100000) (hE : ExpOk s.data.toList) :
    Calls Tryz.prog 25 #[.string s] w fun e w' => e = .returned (.bool (padd s.data.toList)) ∧ w = w' := by
  have HE := Lib.hid hE; clear hE
  obtain ⟨m, hm⟩ : ∃ m, digs (s.data.toList.drop 1) = m := ⟨_, rfl⟩
  have HM := Lib.hid hm; clear hm
  go_enter Tryz.func25, Tryz.ntmps25
  go_upto_region 1 with fail
  go_cut [18] (fun c wx => ∃ b : Bool, c = .bool b ∧ RowKit.Hid ((1 < s.data.toList.length && s.data.toList[0]? == some 48 && 0 < digs (s.data.toList.drop 1)) = b) ∧ w = wx)
  case first =>
    have hl1 : s.data.toList.length = s.size := by simp
    have HL1 := Lib.hid hl1; clear hl1
    by_cases h1 : 1 < s.size
    · have hg := Lib.hid (gb48 s 0 (by omega))
      cases hb : ((s[0].toNat : Int) == 48) with
      | true =>
        go_wp2_with (go_at_call 40; refine (digits_d s _ (by omega) 1 m HM.out).mono ?_; rintro e w' ⟨rfl, rfl⟩)
        go_meet
        case rel =>
          go_light
          refine ⟨_, rfl, ?_, rfl⟩
          show _ = _
          have h2 := hg.out; have h3 := HM.out; have h4 := HL1.out
          rw [h3, h4, ← h2]; simp_all
      | false =>
        go_wp2_with fail
        go_meet
        case rel =>
          go_light
          refine ⟨_, rfl, ?_, rfl⟩
          show _ = _
          have h2 := hg.out
          rw [← h2]; simp_all
    · go_wp2
      go_meet
      case rel =>
        go_light
        refine ⟨_, rfl, ?_, rfl⟩
        show _ = _
        have h4 := HL1.out
        rw [h4]; simp; omega
  case rest =>
    obtain ⟨b, rfl, HB, rfl⟩ := hcut
    cases b with
    | true =>
      go_wp2_with fail
      go_ret
      exact ⟨ret_bool (by unfold padd; rw [HB.out]; rfl), rfl⟩
    | false =>
      go_wp2_with fail
      go_loop [21] (fun i => ∃ k : Nat, k ≤ s.size ∧ i = .int .i64 k ∧ RowKit.Hid (∀ j, j < k → isE (s.data.toList.getD j 0) = false)) (fun i => s.size - (intOf i).toNat)
      case atStart => exact ⟨0, Nat.zero_le _, rfl, fun j hj => absurd hj (by omega)⟩
      case round =>
        obtain ⟨k, hk, rfl, HK⟩ := hrel
        by_cases hlt : k < s.size
        · by_cases he : isE s[k] = true
          · have hee : s.data.toList[k]? = some 101 ∨ s.data.toList[k]? = some 69 := by
              rw [get_at s k hlt]; simpa [isE] using he
            obtain ⟨h1, h2⟩ := HE.out k hee
            simp at h1 h2
            have hfi := padd_at s.data.toList k (by simpa using hlt) (by rw [getD_at s k hlt]; exact he) HK.out
            have hE2 : ((s[k].toNat : Int) = 101) ∨ ((s[k].toNat : Int) = 69) := by
              unfold isE at he; simp only [Bool.or_eq_true, beq_iff_eq, byte_eq] at he; exact he
            have g0 := Lib.hid (gb43 s (k + 1) h1); have g1 := Lib.hid (gb45 s (k + 1) h1)
            have g2 := Lib.hid (gb48 s (k + 1) h1)
            have HFI := Lib.hid hfi; have H2 := Lib.hid h2; clear hfi h2 hee he
            by_cases hsg : s.data.toList[k + 1]? = some 43 ∨ s.data.toList[k + 1]? = some 45
            · have h2 : k + 2 < s.size := H2.out (by simpa using hsg)
              have g3 := Lib.hid (gb48 s (k + 2) h2)
              have hfin : RowKit.Hid (padd s.data.toList = (((s[k + 2].toNat : Int) == 48) && decide (k + 2 + 1 < s.size))) := by
                show _ = _
                have h := g3.out
                unfold padd; rw [HB.out, HFI.out]; dsimp only; rw [if_pos hsg, h]; simp
              have hq : ((s[k + 1].toNat : Int) == 43) = true ∨ ((s[k + 1].toNat : Int) == 43) = false ∧ ((s[k + 1].toNat : Int) == 45) = true := by
                have h1 := g0.out; have h2 := g1.out
                rw [h1, h2]; rcases hsg with h | h <;> simp [h]
              clear hsg
              have hz := Bool.eq_false_or_eq_true ((s[k + 2].toNat : Int) == 48)
              rcases hE2 with hE2 | hE2
              all_goals
                rcases hq with hq | ⟨hq, hq2⟩
                all_goals
                  rcases hz with hz | hz
                  all_goals
                    go_wp2_with fail
                    go_ret
                    refine ⟨ret_bool ?_, rfl⟩
                    rw [hfin.out, hz]
                    first | rfl | (simp; omega)
            · have hfin : RowKit.Hid (padd s.data.toList = (((s[k + 1].toNat : Int) == 48) && decide (k + 1 + 1 < s.size))) := by
                show _ = _
                have h := g2.out
                unfold padd; rw [HB.out, HFI.out]; dsimp only; rw [if_neg hsg, h]; simp
              have hq : ((s[k + 1].toNat : Int) == 43) = false := by
                rw [g0.out]; simp at hsg ⊢; exact hsg.1
              have hq2 : ((s[k + 1].toNat : Int) == 45) = false := by
                rw [g1.out]; simp at hsg ⊢; exact hsg.2
              clear hsg
              have hz := Bool.eq_false_or_eq_true ((s[k + 1].toNat : Int) == 48)
              rcases hE2 with hE2 | hE2
              all_goals
                rcases hz with hz | hz
                all_goals
                  go_wp2_with fail
                  go_ret
                  refine ⟨ret_bool ?_, rfl⟩
                  rw [hfin.out, hz]
                  first | rfl | (simp; omega)
          · have he' : isE s[k] = false := by simpa using he
            have hE2 : ((s[k].toNat : Int) == 101) = false ∧ ((s[k].toNat : Int) == 69) = false := by
              rw [gb101 s k hlt, gb69 s k hlt, get_at s k hlt]
              unfold isE at he'; simpa using he'
            obtain ⟨hE1, hE2⟩ := hE2
            have HE' := Lib.hid he'; clear he he'
            go_wp2_with fail
            go_round
            case rel =>
              go_light
              refine ⟨k + 1, by omega, by go_num, fun j hj => ?_⟩
              by_cases hjk : j = k
              · subst hjk; rw [getD_at s j hlt]; exact HE'.out
              · exact HK.out j (by omega)
            case measure => simp [intOf]; omega
        · go_wp2_with fail
          go_ret
          refine ⟨ret_bool ?_, rfl⟩
          unfold padd; rw [HB.out, findIdx_none]; rfl
          intro i hi
          exact HK.out i (by simp at hi; omega)

end Go.Proofs.YtblpcpkkjbkakaaGreatDoor
/- The reference's tokens: Tokens, AskedWKT; the law's pTokens. -/
namespace Go.Proofs.YtblpcpkkjbkakaaGreatDoor
open Go Go.RowKit
set_option linter.unusedVariables false
set_option linter.unusedSimpArgs false

def scells (T : List (UInt8 × List UInt8)) : List Value := T.map fun t => .string ⟨t.2.toArray⟩

theorem tcells_get (T : List (UInt8 × List UInt8)) (k : Nat) (h : k < T.length) : (tcells T)[k * 2]? = some (.int .u8 (T[k].1.toNat)) ∧ (tcells T)[k * 2 + 1]? = some (.string ⟨T[k].2.toArray⟩) := by
  induction T generalizing k with
  | nil => simp at h
  | cons t T ih =>
    cases k with
    | zero => simp [tcells, tcell]
    | succ k =>
      have := ih k (by simpa using h)
      have e : tcells (t :: T) = .int .u8 t.1.toNat :: .string ⟨t.2.toArray⟩ :: tcells T := rfl
      rw [e, show (k + 1) * 2 = k * 2 + 1 + 1 by omega, show k * 2 + 1 + 1 + 1 = (k * 2 + 1) + 1 + 1 by omega]
      simpa using this

theorem cells_lit1 (w : World) (x : Value) (t : TypeId) (N : Nat) (hN : w.heap.size = N) : ∀ j u, [x][j]? = some u → (w.alloc (.cells #[x] t)).cell? ((⟨N, 0, none⟩ : Addr).add j) = some u := by
  intro j u hj
  subst hN
  rw [show (⟨w.heap.size, 0, none⟩ : Addr).add j = ⟨w.heap.size, j, none⟩ by unfold Addr.add; split <;> simp_all]
  rw [cell_of_row _ _ j #[x] t (0, 0) (heap_alloc_new w _)]
  match j, hj with
  | 0, hj => simpa using hj

def TksPost (B : Nat) (s : ByteArray) (w : World) (e : Ending) (w' : World) : Prop :=
  (∃ v T, e = .returned (.tuple #[v, .bool true]) ∧ toks false s.data.toList = some T ∧ T.length ≤ s.size ∧ w'.ownsRow B 9 1 v T.length (scells T) ∧ Below B w w') ∨
  (∃ v, e = .returned (.tuple #[v, .bool false]) ∧ toks false s.data.toList = none ∧ Below B w w')

set_option maxRecDepth 100000 in
set_option maxHeartbeats 2000000 in
theorem Tokens_any (s : ByteArray) (w : World) (hs : s.size ≤ 100000) :
    Calls Tryz.prog 12 #[.string s] w (TksPost w.heap.size s w) := by
  obtain ⟨i0, hi, hz0, hz1, hz2⟩ := info_parts info9
  obtain ⟨B, hB⟩ : ∃ B, B = w.heap.size := ⟨_, rfl⟩
  rw [← hB]
  have HB := Lib.hid hB; clear hB
  go_enter Tryz.func12, Tryz.ntmps12
  go_wp2_with fail
  refine (tokens_any s w hs).mono ?_
  rintro e w1 (⟨v, T, rfl, htk, hTl, hown, hb⟩ | ⟨rfl, htk, hb⟩)
  · rw [← HB.out] at hown hb
    have HTK := Lib.hid htk; clear htk
    rcases hown.2 with ⟨rfl, h0⟩ | ⟨g, cap, cur, rfl, hg⟩
    · have hT0 : T = [] := List.eq_nil_of_length_eq_zero h0
      subst hT0
      clear h0
      go_wp2_with fail
      go_loopw [2, 14] (fun v i wr => v = .slice none 0 0 ∧ i = .int .i64 0 ∧ wr = w1) (fun _ _ _ => 0)
      case atStart => exact ⟨rfl, rfl, rfl⟩
      case round =>
        obtain ⟨rfl, rfl, rfl⟩ := hrel
        go_wp2_with fail
        go_ret2
        exact .inl ⟨_, [], rfl, HTK.out, by simp, World.ownsRow_nil _ _ _ _, hb⟩
    · have hgl := (hown.lt g rfl).2
      go_wp2_with fail
      go_loopw [2, 14] (fun v i wr => ∃ k : Nat, k ≤ T.length ∧ i = .int .i64 k ∧ wr.ownsRow w1.heap.size 9 1 v k (scells (T.take k)) ∧ Below w1.heap.size w1 wr) (fun _ i _ => T.length - (intOf i).toNat)
      case atStart => exact ⟨0, Nat.zero_le _, rfl, World.ownsRow_nil _ _ _ _, Below.refl _ _⟩
      case round =>
        obtain ⟨k, hk, rfl, hown2, hb2⟩ := hrel
        by_cases hlt : k < T.length
        · have hc := tcells_get T k hlt
          have c0 : wr.cell? ⟨g, k * 2, none⟩ = some (.int .u8 (T[k].1.toNat)) := by
            rw [hb2.cell (p := ⟨g, k * 2, none⟩) hgl, hown.cellAt _ (by omega)]; exact hc.1
          have c1 : wr.cell? ⟨g, k * 2 + 1, none⟩ = some (.string ⟨T[k].2.toArray⟩) := by
            rw [hb2.cell (p := ⟨g, k * 2 + 1, none⟩) hgl, hown.cellAt _ (by omega)]; exact hc.2
          clear hc
          go_wp2_with (at_builtin; refine wpList_append_own _ rfl _ _ 22 rfl w1.heap.size 9 i0 (.string ⟨#[]⟩) 1 16 Tryz.underlying22 hi hz0 hz1 hz2 rfl (by decide) _ _ _ rfl ((hown2.alloc _).alloc _) ⟨wr.heap.size + 1, 0, none⟩ 1 1 [_] rfl rfl (cells_lit1 _ _ _ _ (by simp)) (by intro u hu; simp at hu; subst hu; rfl) (by unfold maxLen; omega) (by omega) (by have := hb2.size; simp; omega) ?_; intro v1 w2 hown3 hg1 _)
          go_roundw
          case rel =>
            go_light
            refine ⟨k + 1, by omega, by go_num, ?_, ?_⟩
            · rw [List.take_succ_eq_append_getElem hlt]
              unfold scells
              rw [List.map_append]
              exact hown3
            · exact ((hb2.alloc hb2.size _).alloc (by have := hb2.size; simp; omega) _).grown hg1 (by have := hb2.size; simp; omega) (fun q hq => (hown2.lt q hq).1)
          case measure => simp [intOf]; omega
        · go_wp2_with fail
          go_ret2
          have hkk : k = T.length := by omega
          subst hkk
          rw [List.take_length] at hown2
          refine .inl ⟨_, T, rfl, HTK.out, hTl, ?_, hb.trans (hb2.mono (by have := hb.size; have := HB.out; omega))⟩
          refine ⟨hown2.1, ?_⟩
          rcases hown2.2 with h | ⟨g2, cap2, cur2, h1, h2, h3⟩
          · exact .inl h
          · exact .inr ⟨g2, cap2, cur2, h1, by have := hb.size; have := HB.out; omega, h3⟩
  · rw [← HB.out] at hb
    have HTK := Lib.hid htk; clear htk
    go_wp2_with fail
    go_loopw [2, 14] (fun v i wr => v = .slice none 0 0 ∧ i = .int .i64 0 ∧ wr = w1) (fun _ _ _ => 0)
    case atStart => exact ⟨rfl, rfl, rfl⟩
    case round =>
      obtain ⟨rfl, rfl, rfl⟩ := hrel
      go_wp2_with fail
      go_ret2
      exact .inr ⟨_, rfl, HTK.out, hb⟩

theorem toksF_len : ∀ (k : Nat) (j : Bool) (l : List UInt8) (T : List (UInt8 × List UInt8)), toksF k j l = some T → ∀ t ∈ T, t.2.length ≤ l.length := by
  intro k
  induction k with
  | zero =>
    intro j l T h t ht
    cases l with
    | nil => simp [toksF] at h; subst h; simp at ht
    | cons c r => simp [toksF] at h
  | succ k ih =>
    intro j l T h t ht
    cases l with
    | nil => simp [toksF] at h; subst h; simp at ht
    | cons c r =>
      simp only [toksF] at h
      by_cases hb : isBlank c = true
      · rw [if_pos hb] at h; have := ih _ _ _ h t ht; simp; omega
      · rw [if_neg hb] at h
        by_cases hs : isSign c = true
        · rw [if_pos hs] at h
          split at h
          · cases h
          · obtain ⟨T', h1, rfl⟩ := Option.map_eq_some_iff.1 h
            rcases List.mem_cons.1 ht with rfl | ht
            · simp
            · have := ih _ _ _ h1 t ht; simp; omega
        · rw [if_neg hs] at h
          by_cases hl : isLet c = true
          · rw [if_pos hl] at h
            split at h
            · cases h
            · obtain ⟨T', h1, rfl⟩ := Option.map_eq_some_iff.1 h
              rcases List.mem_cons.1 ht with rfl | ht
              · simp only [List.length_take]; omega
              · have := ih _ _ _ h1 t ht; simp only [List.length_drop] at this; omega
          · rw [if_neg hl] at h
            split at h
            · cases h
            · obtain ⟨T', h1, rfl⟩ := Option.map_eq_some_iff.1 h
              rcases List.mem_cons.1 ht with rfl | ht
              · simp only [List.length_take]; omega
              · have := ih _ _ _ h1 t ht; simp only [List.length_drop] at this; omega
theorem toks_len {j : Bool} {l : List UInt8} {T : List (UInt8 × List UInt8)} (h : toks j l = some T) : ∀ t ∈ T, t.2.length ≤ l.length := toksF_len _ _ _ _ h

theorem padded_b (s : ByteArray) (l : List UInt8) (w : World) (hs : s.size ≤ 100000) (hl : s.data.toList = l) (hE : ExpOk l) (b : Bool) (h : padd l = b) :
    Calls Tryz.prog 25 #[.string s] w fun e w' => e = .returned (.bool b) ∧ w = w' := by
  subst hl; subst h; exact padded_any s w hs hE

/-- What AskedWKT tells. -/
def AskPost (s : ByteArray) (w : World) (e : Ending) (w' : World) : Prop :=
  ∃ b : Bool, e = .returned (.bool b) ∧ (b = true → ∃ T, toks false s.data.toList = some T ∧ ∀ t ∈ T, t.1 = 49 → padd t.2 = false) ∧ Below w.heap.size w w'

set_option maxRecDepth 100000 in
set_option maxHeartbeats 2000000 in
theorem AskedWKT_any (s : ByteArray) (w : World) (hs : s.size ≤ 100000) :
    Calls Tryz.prog 11 #[.string s] w (AskPost s w) := by
  obtain ⟨B, hB⟩ : ∃ B, B = w.heap.size := ⟨_, rfl⟩
  have HB := Lib.hid hB; clear hB
  go_enter Tryz.func11, Tryz.ntmps11
  go_wp2_with fail
  refine (tokens_any s w hs).mono ?_
  rw [← HB.out]
  rintro e w1 (⟨v, T, rfl, htk, hTl, hown, hb⟩ | ⟨rfl, htk, hb⟩)
  · have HTK := Lib.hid htk; clear htk
    rcases hown.2 with ⟨rfl, h0⟩ | ⟨g, cap, cur, rfl, hg⟩
    · have hT0 : T = [] := List.eq_nil_of_length_eq_zero h0
      subst hT0
      clear h0
      go_wp2_with fail
      go_loopw [15] (fun i wr => i = .int .i64 0 ∧ wr = w1) (fun _ _ => 0)
      case atStart => exact ⟨rfl, rfl⟩
      case round =>
        obtain ⟨rfl, rfl⟩ := hrel
        go_wp2_with fail
        go_ret
        exact ⟨_, rfl, fun _ => ⟨[], HTK.out, by simp⟩, by rw [← HB.out]; exact hb⟩
    · have hgl := (hown.lt g rfl).2
      go_wp2_with fail
      go_loopw [15] (fun i wr => ∃ k : Nat, k ≤ T.length ∧ i = .int .i64 k ∧ RowKit.Hid (∀ j (h : j < T.length), j < k → T[j].1 = 49 → padd T[j].2 = false) ∧ Below w1.heap.size w1 wr) (fun i _ => T.length - (intOf i).toNat)
      case atStart => exact ⟨0, Nat.zero_le _, rfl, fun j _ h => absurd h (by omega), Below.refl _ _⟩
      case round =>
        obtain ⟨k, hk, rfl, HK, hb2⟩ := hrel
        by_cases hlt : k < T.length
        · have hc := tcells_get T k hlt
          have c0 : wr.cell? ⟨g, k * 2, none⟩ = some (.int .u8 (T[k].1.toNat)) := by
            rw [hb2.cell (p := ⟨g, k * 2, none⟩) hgl, hown.cellAt _ (by omega)]; exact hc.1
          have c1 : wr.cell? ⟨g, k * 2 + 1, none⟩ = some (.string ⟨T[k].2.toArray⟩) := by
            rw [hb2.cell (p := ⟨g, k * 2 + 1, none⟩) hgl, hown.cellAt _ (by omega)]; exact hc.2
          clear hc
          have htok := toks_ok HTK.out T[k] (List.getElem_mem hlt)
          obtain ⟨p, hp⟩ : ∃ p, padd T[k].2 = p := ⟨_, rfl⟩
          obtain ⟨t, ht⟩ : ∃ t, t = T[k] := ⟨_, rfl⟩
          rw [← ht] at c0 c1 htok hp
          have HT := Lib.hid ht; have HP := Lib.hid hp; have HTO := Lib.hid htok; clear ht hp htok
          have hsz : (⟨t.2.toArray⟩ : ByteArray).size ≤ 100000 := by
            have := toks_len HTK.out T[k] (List.getElem_mem hlt)
            rw [← HT.out] at this
            simp at this
            show t.2.toArray.size ≤ 100000
            simp; omega
          go_upto_region 6 with (go_at_call 24; refine (upper_any _ _ hsz).mono ?_; rintro e w2 ⟨u, rfl, hb3⟩)
          go_cut [51] (fun c wx => ∃ b : Bool, c = .bool b ∧ RowKit.Hid (b = false → t.1 = 49 → padd t.2 = false) ∧ w2 = wx)
          case first =>
            have d0 : w2.cell? ⟨wr.heap.size, 0, none⟩ = some (.int .u8 t.1.toNat) := by
              rw [hb3.cell (p := ⟨wr.heap.size, 0, none⟩) (by simp)]; simp [World.cell?, World.alloc, -World.alloc_eq]
            have d1 : w2.cell? ⟨wr.heap.size, 1, none⟩ = some (.string ⟨t.2.toArray⟩) := by
              rw [hb3.cell (p := ⟨wr.heap.size, 1, none⟩) (by simp)]; simp [World.cell?, World.alloc, -World.alloc_eq]
            by_cases hk49 : t.1 = 49
            · have hq : (t.1.toNat : Int) = 49 := (byte_eq t.1 49).1 hk49
              have hE : RowKit.Hid (ExpOk t.2) := by
                rcases HTO.out with h | h | h
                · rw [hk49] at h; simp at h
                · exact expOk_of_decm _ h.2.2 h.2.1
                · rw [hk49] at h; simp [isSign] at h
              have HK49 := Lib.hid hk49; clear hk49
              cases p with
              | true =>
                go_wp2_with (go_at_call 25; refine (padded_b _ t.2 _ hsz rfl hE.out true HP.out).mono ?_; rintro e w' ⟨rfl, rfl⟩)
                all_goals (go_meet; case rel => go_light; exact ⟨_, rfl, (fun h => by simp at h : (_ = false → _ → _)), rfl⟩)
              | false =>
                go_wp2_with (go_at_call 25; refine (padded_b _ t.2 _ hsz rfl hE.out false HP.out).mono ?_; rintro e w' ⟨rfl, rfl⟩)
                all_goals (go_meet; case rel => go_light; exact ⟨_, rfl, (fun _ _ => HP.out : (_ = false → _ → _)), rfl⟩)
            · have hq : ((t.1.toNat : Int) == 49) = false := by
                rw [beq_eq_false_iff_ne]; exact fun h => hk49 ((byte_eq t.1 49).2 h)
              have HK49 := Lib.hid hk49; clear hk49
              go_wp2_with fail
              all_goals (go_meet; case rel => go_light; exact ⟨_, rfl, (fun _ h => absurd h HK49.out : (_ = false → _ → _)), rfl⟩)
          case rest =>
            obtain ⟨b, rfl, HBB, rfl⟩ := hcut
            have hbr : Below w1.heap.size w1 w2 := (hb2.alloc hb2.size _).trans (hb3.mono (by have := hb2.size; simp; omega))
            cases b with
            | true =>
              go_wp2_with fail
              go_ret
              exact ⟨_, rfl, by simp, by rw [← HB.out]; exact hb.trans (hbr.mono (by have := hb.size; have := HB.out; omega))⟩
            | false =>
              go_wp2_with fail
              go_roundw
              case rel =>
                go_light
                refine ⟨k + 1, by omega, by go_num, fun j hj hjk => ?_, hbr⟩
                by_cases hje : j = k
                · subst hje; rw [← HT.out]; exact HBB.out rfl
                · exact HK.out j hj (by omega)
              case measure => simp [intOf]; omega
        · go_wp2_with fail
          go_ret
          refine ⟨_, rfl, fun _ => ⟨T, HTK.out, fun t ht => ?_⟩, by rw [← HB.out]; exact hb.trans (hb2.mono (by have := hb.size; have := HB.out; omega))⟩
          obtain ⟨j, hj, rfl⟩ := List.getElem_of_mem ht
          exact HK.out j hj (by omega)
  · go_wp2_with fail
    go_loopw [15] (fun i wr => i = .int .i64 0 ∧ wr = w1) (fun _ _ => 0)
    case atStart => exact ⟨rfl, rfl⟩
    case round =>
      obtain ⟨rfl, rfl⟩ := hrel
      go_wp2_with fail
      go_ret
      exact ⟨_, rfl, by simp, by rw [← HB.out]; exact hb⟩

def PTokPost (B : Nat) (s : ByteArray) (w : World) (e : Ending) (w' : World) : Prop :=
  (∃ v T, e = .returned (.tuple #[v, .bool true]) ∧ s.size ≤ 2000 ∧ toks false s.data.toList = some T ∧ (∀ t ∈ T, t.1 = 49 → padd t.2 = false) ∧ T.length ≤ s.size ∧ w'.ownsRow B 9 1 v T.length (scells T) ∧ Below B w w') ∨
  (∃ v, e = .returned (.tuple #[v, .bool false]) ∧ Below B w w')

set_option maxHeartbeats 1000000 in
theorem pTokens_any (s : ByteArray) (w : World) (hs : s.size ≤ 9223372036854775807) :
    Calls Tryz.prog 5 #[.string s] w (PTokPost w.heap.size s w) := by
  obtain ⟨B, hB⟩ : ∃ B, B = w.heap.size := ⟨_, rfl⟩
  have HB := Lib.hid hB; clear hB
  go_enter Tryz.func5, Tryz.ntmps5
  by_cases hlt : 2000 < s.size
  · go_wp2_with fail
    go_ret2
    exact .inr ⟨_, rfl, Below.refl _ _⟩
  · go_wp2_with fail
    refine (AskedWKT_any s w (by omega)).mono ?_
    rintro e w1 ⟨b, rfl, hq, hb⟩
    have HQ := Lib.hid hq; clear hq
    cases b with
    | false =>
      go_wp2_with fail
      go_ret2
      exact .inr ⟨_, rfl, hb⟩
    | true =>
      obtain ⟨T, hT, hpad⟩ := HQ.out rfl
      have HT := Lib.hid hT; have HP := Lib.hid hpad; clear hT hpad HQ
      go_wp2_with fail
      refine (Tokens_any s w1 (by omega)).mono ?_
      rintro e w2 (⟨v, T2, rfl, htk, hTl, hown, hb2⟩ | ⟨v, rfl, htk, hb2⟩)
      · obtain rfl : T = T2 := by have := HT.out; rw [htk] at this; exact (Option.some.inj this).symm
        have HTK := Lib.hid htk; clear htk
        go_wp2_with fail
        go_ret2
        refine .inl ⟨_, T, rfl, by omega, HT.out, HP.out, hTl, ⟨hown.1, ?_⟩, hb.trans (hb2.mono hb.size)⟩
        rcases hown.2 with h | ⟨g2, cap2, cur2, h1, h2, h3⟩
        · exact .inl h
        · exact .inr ⟨g2, cap2, cur2, h1, by have := hb.size; omega, h3⟩
      · have := HT.out
        rw [htk] at this
        cases this
end Go.Proofs.YtblpcpkkjbkakaaGreatDoor
/- The parser's number, with a minus or without. -/
namespace Go.Proofs.YtblpcpkkjbkakaaGreatDoor
open Go Go.RowKit
set_option linter.unusedVariables false
set_option linter.unusedSimpArgs false

/-- The number at the beginning of the tokens, by its sign; what follows. -/
def numT (neg : Bool) : List (UInt8 × List UInt8) → Option (Nat × List (UInt8 × List UInt8))
  | [] => none
  | t :: T => if t.1 = 49 ∧ (a64L t.2).2 = 0 then some (sg neg (a64L t.2).1, T) else none
def numX : List (UInt8 × List UInt8) → Option (Nat × List (UInt8 × List UInt8))
  | [] => none
  | t :: T => if t.2 = [45] then numT true T else numT false (t :: T)
theorem numX_cons (t : UInt8 × List UInt8) (T : List (UInt8 × List UInt8)) : numX (t :: T) = if t.2 = [45] then numT true T else numT false (t :: T) := rfl
theorem numT_cons (neg : Bool) (t : UInt8 × List UInt8) (T : List (UInt8 × List UInt8)) : numT neg (t :: T) = if t.1 = 49 ∧ (a64L t.2).2 = 0 then some (sg neg (a64L t.2).1, T) else none := rfl
def SgPost (s : ByteArray) (rb B b : Nat) (X : Option (Nat × List (UInt8 × List UInt8))) (w : World) (e : Ending) (w' : World) : Prop :=
  ∃ f v, e = .returned (.tuple #[.float .f64 f, v]) ∧ ((∃ T', X = some (f, T') ∧ v = .nilIface ∧ ∃ p', PT s rb B b p' T' w') ∨ (X = none ∧ ∃ u y, v = .iface u y)) ∧ Fr B b rb w w'

theorem PT.tok {s : ByteArray} {rb B b p : Nat} {t : UInt8 × List UInt8} {T : List (UInt8 × List UInt8)} {w : World} (h : PT s rb B b p T w) (ht : t ∈ T) (hs : s.size ≤ 2000) : TokOk t ∧ t.2.length ≤ 2000 ∧ (t.1 = 49 → padd t.2 = false) := by
  obtain ⟨j, hj⟩ := h.tk
  have h1 := toks_len hj t ht
  rw [List.length_drop, ← Lib.size_eq] at h1
  exact ⟨toks_ok hj t ht, by omega, h.np t ht⟩
theorem str_minus (l : List UInt8) : ((⟨l.toArray⟩ : ByteArray) = ⟨#[45]⟩) ↔ l = [45] := by
  constructor
  · intro h
    have := congrArg (fun s : ByteArray => s.data.toList) h
    simpa using this
  · intro h; rw [h]

theorem meth138 (a : Addr) (W : World) : (method 398 138 (.pointer (some a)) "Error").run Tryz.prog W = .ok (206, .pointer (some a)) W := by
  kernel_rfl

set_option maxRecDepth 100000 in
set_option maxHeartbeats 4000000 in
theorem signed_pt (s : ByteArray) (rb B b p : Nat) (g gl gp : Nat × Nat) (T : List (UInt8 × List UInt8)) (w : World) (hs : s.size ≤ 2000) (h : PT s rb B b p T w) (hG : GlN B g gl gp w) :
    Calls Tryz.prog 27 #[.pointer (some ⟨b, 0, none⟩)] w (SgPost s rb B b (numX T) w) := by
  have HN := Lib.hid (next_pt s rb B b p g gl gp T w h hG)
  have HG := Lib.hid (And.intro hG h)
  clear h hG
  obtain ⟨X, hX⟩ : ∃ X, X = numX T := ⟨_, rfl⟩
  rw [← hX]
  have HX := Lib.hid hX; clear hX
  go_enter Tryz.func27, Tryz.ntmps27
  go_upto_region 3 with (go_at_call 42; refine HN.out.mono ?_; rintro e w1 ⟨x, v, rfl, hk, hfr⟩)
  rcases hk with ⟨rfl, y, rfl⟩ | ⟨t, T', rfl, rfl, rfl, p', hpt⟩
  · go_wp2_with fail
    go_ret2
    exact ⟨0, _, rfl, .inr ⟨HX.out, _, _, rfl⟩, hfr⟩
  · have hG1 := HG.out.1.keep hfr.1
    have hts := HG.out.2.tok (List.mem_cons_self ..) hs
    have HG1 := Lib.hid (And.intro hG1 (And.intro hpt (And.intro hfr hts)))
    clear hG1 hpt hfr hts
    go_upto_if 19 with fail
    go_cut [4, 5, 6] (fun ng tk er wx => ∃ neg t2 T2 p2, ng = .bool neg ∧ tk = .string ⟨(t2 : UInt8 × List UInt8).2.toArray⟩ ∧ RowKit.Hid (X = numT neg (t2 :: T2)) ∧ RowKit.Hid (GlN B g gl gp wx ∧ PT s rb B b p2 T2 wx ∧ Fr B b rb w wx ∧ TokOk t2 ∧ t2.2.length ≤ 2000 ∧ (t2.1 = 49 → padd t2.2 = false)))
    case first =>
      by_cases h45 : t.2 = [45]
      · have hb : (t.2 == [45]) = true := by rw [h45]; rfl
        have hX := HX.out
        have hx2 : X = numT true T' := by rw [hX, numX_cons, if_pos h45]
        have HX2 := Lib.hid hx2; clear hX hx2 h45
        rw [hb]
        have HN2 := Lib.hid (next_pt s rb B b p' g gl gp T' w1 HG1.out.2.1 HG1.out.1)
        go_upto_region 8 with (go_at_call 42; refine HN2.out.mono ?_; rintro e w2 ⟨x, v, rfl, hk, hfr⟩)
        rcases hk with ⟨hT, y, rfl⟩ | ⟨t2, T2, hT, rfl, rfl, p2, hpt⟩
        · have hx3 : X = none := by rw [HX2.out, hT]; rfl
          have HX3 := Lib.hid hx3; clear hx3
          go_wp2_with fail
          go_ret2
          exact ⟨0, _, rfl, .inr ⟨HX3.out, _, _, rfl⟩, HG1.out.2.2.1.trans hfr⟩
        · have hts := HG1.out.2.1.tok (t := t2) (by rw [hT]; exact List.mem_cons_self ..) hs
          have hG2 := HG1.out.1.keep hfr.1
          have hx3 : X = numT true (t2 :: T2) := by rw [HX2.out, hT]
          have HZ := Lib.hid (And.intro hx3 (And.intro hG2 (And.intro hpt (And.intro (HG1.out.2.2.1.trans hfr) hts))))
          clear hts hG2 hx3 hpt hfr hT
          go_wp2_with fail
          go_meet
          case rel => exact ⟨true, t2, T2, p2, rfl, rfl, Lib.hid HZ.out.1, Lib.hid HZ.out.2⟩
      · have hb : (t.2 == [45]) = false := by rw [beq_eq_false_iff_ne]; exact h45
        have hX := HX.out
        have hx2 : X = numT false (t :: T') := by rw [hX, numX_cons, if_neg h45]
        have HX2 := Lib.hid hx2; clear hX hx2 h45
        rw [hb]
        go_wp2_with fail
        go_meet
        case rel => exact ⟨false, t, T', p', rfl, rfl, HX2, Lib.hid HG1.out⟩
    case rest =>
      obtain ⟨neg, t2, T2, p2, rfl, rfl, hX, hZ⟩ := hcut
      clear HX HG1 HN HG
      have HP := Lib.hid (tok_parse t2 hZ.out.2.2.2.1 hZ.out.2.2.2.2.2 hZ.out.2.2.2.2.1 B g gl gp wc hZ.out.1)
      go_upto_region 11 with (go_at_call 28; refine HP.out.mono ?_; rintro e w3 ⟨f, v, rfl, hk, hb⟩)
      have hfr3 : Fr B b rb w w3 := hZ.out.2.2.1.trans (Fr.ofOld hb hZ.out.1.hB.2.2.2.2)
      have hpt3 := hZ.out.2.1.old hb
      have HF := Lib.hid (And.intro hfr3 (And.intro hpt3 hb)); clear hfr3 hpt3 hb
      rcases hk with ⟨rfl, h49, h0, rfl⟩ | ⟨rfl, hsp, h49⟩ | ⟨hev, h49⟩
      · have hfin : (a64L t2.2).1 < 2047 * 2 ^ 52 := by
          rcases a64L_fine t2.2 with ⟨_, h⟩ | h
          · exact h
          · rw [h] at h0; exact absurd h0 (by decide)
        have hx3 : X = some (sg neg (a64L t2.2).1, T2) := by rw [hX.out, numT_cons, if_pos ⟨h49, h0⟩]
        have hni := fin_not _ hfin
        have hmm := mul_minus _ hfin
        generalize (a64L t2.2).1 = F at *
        have hF64 : F < 18446744073709551616 := by omega
        have c43 := fun W => isNaN_any F W
        have c44 := fun W => isInf_any F W hF64
        rw [hni.1] at c43
        rw [hni.2] at c44
        have C43 := Lib.hid c43; have C44 := Lib.hid c44; have HX3 := Lib.hid hx3; have HM := Lib.hid hmm
        clear c43 c44 hx3 hni hmm hX h49 h0 hfin hZ HP
        cases neg with
        | false =>
          go_wp2_with (first | (go_at_call 43; refine (C43.out _).mono ?_; rintro e w' ⟨rfl, rfl⟩) | (go_at_call 44; refine (C44.out _).mono ?_; rintro e w' ⟨rfl, rfl⟩))
          go_ret2
          exact ⟨F, _, rfl, .inl ⟨T2, HX3.out, rfl, p2, HF.out.2.1⟩, HF.out.1⟩
        | true =>
          have hmul : ∀ W, (binOp .mul 25 (.float .f64 F) (.float .f64 13830554455654793216)).run Tryz.prog W = .ok (.float .f64 (sg true F)) W := fun W => run_float_arith W .mul 25 .f64 _ _ _ HM.out
          go_wp2_with (first | (go_at_call 43; refine (C43.out _).mono ?_; rintro e w' ⟨rfl, rfl⟩) | (go_at_call 44; refine (C44.out _).mono ?_; rintro e w' ⟨rfl, rfl⟩))
          go_ret2
          exact ⟨_, _, rfl, .inl ⟨T2, HX3.out, rfl, p2, HF.out.2.1⟩, HF.out.1⟩
      · have hx3 : X = none := by rw [hX.out, numT_cons, if_neg (fun h => h49 h.1)]
        have hr := special_refused f hsp
        have hf64 : f < 18446744073709551616 := by rcases hsp with h | h | h <;> rw [h] <;> decide
        have c43 := fun W => isNaN_any f W
        have c44 := fun W => isInf_any f W hf64
        generalize hn : nanw f = N at *
        generalize hi : infw f = I at *
        have C43 := Lib.hid c43; have C44 := Lib.hid c44; have HX3 := Lib.hid hx3
        clear c43 c44 hx3 hn hi hX hsp h49 hZ HP
        cases N with
        | true =>
          go_wp2_with (first | (go_at_call 43; refine (C43.out _).mono ?_; rintro e w' ⟨rfl, rfl⟩) | (go_at_call 44; refine (C44.out _).mono ?_; rintro e w' ⟨rfl, rfl⟩))
          go_ret2
          exact ⟨0, _, rfl, .inr ⟨HX3.out, _, _, rfl⟩, HF.out.1⟩
        | false =>
          have hI : I = true := by simpa using hr
          subst hI
          go_wp2_with (first | (go_at_call 43; refine (C43.out _).mono ?_; rintro e w' ⟨rfl, rfl⟩) | (go_at_call 44; refine (C44.out _).mono ?_; rintro e w' ⟨rfl, rfl⟩))
          go_ret2
          exact ⟨0, _, rfl, .inr ⟨HX3.out, _, _, rfl⟩, HF.out.1⟩
      · have hx3 : X = none := by rw [hX.out, numT_cons, if_neg (fun h => h49 h.1 h.2)]
        have HX3 := Lib.hid hx3
        obtain ⟨N, ex, rfl, hN, hcells, hex⟩ := hev
        have hz := hZ.out
        have hsz : (ByteArray.mk t2.2.toArray).size = t2.2.length := by simp [ByteArray.size]
        have hE := numErr_any N B ⟨t2.2.toArray⟩ ex w3 wc hcells hex hz.1.er (fun p hp => HF.out.2.2.cell (by have := hz.1.hB; omega)) (by have := HF.out.2.2.size; have := hz.1.hB; omega) (by have := hz.2.2.2.2.1; omega) (by simpa using tok_plainB hz.2.2.2.1)
        have HE := Lib.hid hE
        have hB := hz.1.hB
        have hle := HF.out.2.2.size
        clear hE hz hsz hx3 hX h49 hcells hex hN hZ HP
        have hm := meth138
        go_wp2_with (go_at_call 206; refine HE.out.mono ?_; rintro e w4 ⟨⟨tx, rfl⟩, hb4⟩)
        go_ret2
        exact ⟨0, _, rfl, .inr ⟨HX3.out, _, _, rfl⟩, HF.out.1.trans (Fr.ofOld hb4 (by omega))⟩

end Go.Proofs.YtblpcpkkjbkakaaGreatDoor
/- ReadNumber through the thin package; the law's own reading of a number. -/
namespace Go.Proofs.YtblpcpkkjbkakaaGreatDoor
open Go Go.RowKit
set_option linter.unusedVariables false
set_option linter.unusedSimpArgs false

theorem GlR.up {B B' : Nat} {w : World} (h : GlR B w) (hB : B ≤ B') : GlR B' w := by
  obtain ⟨⟨e1, t1, a1, a2, a3, a4⟩, ⟨e2, t2, b1, b2, b3, b4⟩⟩ := h
  exact ⟨⟨e1, t1, a1, by omega, a3, a4⟩, ⟨e2, t2, b1, by omega, b3, b4⟩⟩
theorem GlN.up {B B' : Nat} {g gl gp : Nat × Nat} {w : World} (h : GlN B g gl gp w) (hB : B ≤ B') (hB' : B' ≤ w.heap.size) : GlN B' g gl gp w :=
  ⟨h.sc, h.eo, h.nu, h.er.up hB, by have := h.hB; omega⟩
theorem lex_lok (rb : Nat) : LOk (lexR rb) where
  fok := lex_fok rb
  c48 := by unfold lexR; rw [if_neg (by omega)]; exact z48
  c39 := by simp [lexR, initR, upd]

def DnPost (X : Option (Nat × List (UInt8 × List UInt8))) (w : World) (e : Ending) (w' : World) : Prop :=
  ∃ f v, e = .returned (.tuple #[.float .f64 f, v]) ∧ ((∃ T', X = some (f, T') ∧ v = .nilIface) ∨ (X = none ∧ ∃ u y, v = .iface u y)) ∧ Below w.heap.size w w'
/-- newParser on a text with tokens. -/
def NpPost (s : ByteArray) (T : List (UInt8 × List UInt8)) (w : World) (e : Ending) (w' : World) : Prop :=
  e = .returned (.pointer (some ⟨w.heap.size + 3, 0, none⟩)) ∧ PT s (w.heap.size + 2) w.heap.size (w.heap.size + 3) 0 T w' ∧ Below w.heap.size w w'
theorem parser_pt (s : ByteArray) (T : List (UInt8 × List UInt8)) (w : World) (hs : s.size ≤ 2000) (ht : toks false s.data.toList = some T) (hp : NoPad T) : Calls Tryz.prog 26 #[.string s] w (NpPost s T w) := by
  refine (newParser_any s w hs).mono ?_
  rintro e w' ⟨rfl, h1, h2⟩
  exact ⟨rfl, ⟨⟨_, lex_lok _, h1⟩, ⟨false, ht⟩, Nat.zero_le _, hp, toks_plain ht⟩, h2⟩
theorem doorNumber_any (s : ByteArray) (T : List (UInt8 × List UInt8)) (g gl gp : Nat × Nat) (w : World) (hs : s.size ≤ 2000) (ht : toks false s.data.toList = some T) (hp : NoPad T) (B0 : Nat) (hG : GlN B0 g gl gp w) :
    Calls Tryz.prog 13 #[.string s] w (DnPost (numX T) w) := by
  have H1 := Lib.hid (parser_pt s T w hs ht hp)
  have hG1 := hG.up hG.hB.2.2.2.2 (Nat.le_refl _)
  have HG := Lib.hid hG1
  clear hG hG1 ht hp
  obtain ⟨n, hn⟩ : ∃ n, n = w.heap.size := ⟨_, rfl⟩
  unfold NpPost at H1
  rw [← hn] at H1 HG
  generalize hX : numX T = X
  have HX := Lib.hid hX
  have HN := Lib.hid hn
  clear hX hn
  go_enter Tryz.func13, Tryz.ntmps13
  go_upto_region 1 with fail
  go_step
  go_step
  go_wp2_with (first | (go_at_call 26; refine H1.out.mono ?_; rintro e w1 ⟨rfl, hpt, hb⟩; have H2 := Lib.hid (signed_pt s (n + 2) n (n + 3) 0 g gl gp T w1 hs hpt (HG.out.keep hb)); rw [HX.out] at H2) | (go_at_call 27; refine H2.out.mono ?_; rintro e w2 ⟨f, v, rfl, hk, hfr⟩))
  go_ret2
  refine ⟨f, v, rfl, ?_, ?_⟩
  · rcases hk with ⟨T', h1, h2, -⟩ | h
    · exact .inl ⟨T', h1, h2⟩
    · exact .inr h
  · have := hb.trans hfr.1
    rw [HN.out] at this
    exact this

def RnPost (X : Option (Nat × List (UInt8 × List UInt8))) (w : World) (e : Ending) (w' : World) : Prop :=
  ∃ f b, e = .returned (.tuple #[.float .f64 f, .bool b]) ∧ ((∃ T', X = some (f, T') ∧ b = true) ∨ (X = none ∧ b = false)) ∧ Below w.heap.size w w'
theorem implRead_any (s : ByteArray) (T : List (UInt8 × List UInt8)) (g gl gp : Nat × Nat) (w : World) (hs : s.size ≤ 2000) (ht : toks false s.data.toList = some T) (hp : NoPad T) (B0 : Nat) (hG : GlN B0 g gl gp w) :
    Calls Tryz.prog 6 #[.string s] w (RnPost (numX T) w) := by
  have H := Lib.hid (doorNumber_any s T g gl gp w hs ht hp B0 hG)
  clear hG ht hp
  generalize numX T = X at *
  go_enter Tryz.func6, Tryz.ntmps6
  go_upto_region 2 with (go_at_call 13; refine H.out.mono ?_; rintro e w1 ⟨f, v, rfl, hk, hb⟩)
  rcases hk with ⟨T', hX, rfl⟩ | ⟨hX, u, y, rfl⟩
  · have HX := Lib.hid (And.intro hX hb); clear hX hb
    go_quiet (fail)
    go_wp2_with fail
    go_ret2
    exact ⟨f, true, rfl, .inl ⟨T', HX.out.1, rfl⟩, below_drewN HX.out.2 _⟩
  · have HX := Lib.hid (And.intro hX hb); clear hX hb
    go_quiet (fail)
    go_wp2_with fail
    go_ret2
    exact ⟨f, false, rfl, .inr ⟨HX.out.1, rfl⟩, below_drewN HX.out.2 _⟩

/-- The reference's reading of a decimal. -/
def SrPost (neg : Bool) (r : Nat × Nat) (w : World) (e : Ending) (w' : World) : Prop :=
  ∃ b : Bool, e = .returned (.tuple #[.float .f64 (sg neg r.1), .bool b]) ∧ (b = true ↔ r.2 = 0) ∧ Below w.heap.size w w'
theorem specRead_any (S : ByteArray) (neg : Bool) (r : Nat × Nat) (w : World) (h : Calls Tryz.prog 28 #[.string S, .int .i64 64] w (D28 neg r S w)) : Calls Tryz.prog 14 #[.string S] w (SrPost neg r w) := by
  have H := Lib.hid h; clear h
  go_enter Tryz.func14, Tryz.ntmps14
  go_upto_region 2 with (go_at_call 28; refine H.out.mono ?_; rintro e w1 ⟨v, rfl, h1, h2, hb⟩)
  by_cases h0 : r.2 = 0
  · have hv := h1 h0
    subst hv
    have HH := Lib.hid (And.intro h0 hb); clear h0 hb h1 h2
    go_quiet (fail)
    go_wp2_with fail
    go_ret2
    exact ⟨true, rfl, ⟨fun _ => HH.out.1, fun _ => rfl⟩, below_drewN HH.out.2 _⟩
  · obtain ⟨N, ex, rfl, -⟩ := h2 h0
    have HH := Lib.hid (And.intro h0 hb); clear h0 hb h1 h2
    go_quiet (fail)
    go_wp2_with fail
    go_ret2
    exact ⟨false, rfl, ⟨fun h => absurd h (by decide), fun h => absurd h HH.out.1⟩, below_drewN HH.out.2 _⟩
/-- A decimal's token behind a sign. -/
theorem spec_tok (t : UInt8 × List UInt8) (neg : Bool) (hok : TokOk t) (hp : t.1 = 49 → padd t.2 = false) (h49 : t.1 = 49) (hlen : t.2.length ≤ 2000) (B : Nat) (g gl gp : Nat × Nat) (w : World) (hG : GlN B g gl gp w) :
    Calls Tryz.prog 14 #[.string ⟨((if neg then [45] else []) ++ t.2).toArray⟩] w (SrPost neg (a64L t.2) w) := by
  obtain ⟨D, dot, m, hP, hm0, hml, hdc, hne⟩ := num_tok hok hp h49
  refine specRead_any _ neg _ w ?_
  cases neg with
  | false =>
    simp only [Bool.false_eq_true, if_false, List.nil_append]
    have hsz : (ByteArray.mk t.2.toArray).size = t.2.length := by simp [ByteArray.size]
    have hdr : (ByteArray.mk t.2.toArray).data.toList.drop 0 = t.2 := by simp
    have := p28_dec ⟨t.2.toArray⟩ false 0 D m g gl gp dot w (by omega) hm0 (by omega) (.inr ⟨rfl, rfl⟩) (by rw [hdr]; exact hP) (by rw [hdr]; exact hdc) hG.nu B hG.er
    rw [hdr, hP.mant] at this
    exact this
  | true =>
    simp only [if_true]
    have hsz : (ByteArray.mk ([45] ++ t.2).toArray).size = t.2.length + 1 := by simp [ByteArray.size]
    have hdr : (ByteArray.mk ([45] ++ t.2).toArray).data.toList.drop 1 = t.2 := by simp
    have := p28_dec ⟨([45] ++ t.2).toArray⟩ true 1 D m g gl gp dot w (by omega) hm0 (by omega) (.inl ⟨rfl, rfl, by omega, by rfl⟩) (by rw [hdr]; exact hP) (by rw [hdr]; exact hdc) hG.nu B hG.er
    rw [hdr, hP.mant] at this
    exact this

end Go.Proofs.YtblpcpkkjbkakaaGreatDoor
/- The law's reading of a number off a list of tokens. -/
namespace Go.Proofs.YtblpcpkkjbkakaaGreatDoor
open Go Go.RowKit
set_option linter.unusedVariables false
set_option linter.unusedSimpArgs false

theorem lt_of_get' {α : Type} {l : List α} {n : Nat} {c : α} (h : l[n]? = some c) : n < l.length := (List.getElem?_eq_some_iff.1 h).1
/-- A slice of texts: the tokens T. -/
def SL (w : World) (v : Value) (T : List (UInt8 × List UInt8)) : Prop :=
  ∃ a c, v = .slice a T.length c ∧ T.length ≤ c ∧ c ≤ 9223372036854775807 ∧ (0 < T.length → ∃ q o, a = some ⟨q, o, none⟩ ∧ q < w.heap.size ∧ ∀ i t, T[i]? = some t → w.cell? ⟨q, o + i, none⟩ = some (.string ⟨t.2.toArray⟩))
theorem SL.keep {w w' : World} {v : Value} {T : List (UInt8 × List UInt8)} (h : SL w v T) (hb : Below w.heap.size w w') : SL w' v T := by
  obtain ⟨a, c, h1, h2, h3, h4⟩ := h
  refine ⟨a, c, h1, h2, h3, fun h0 => ?_⟩
  obtain ⟨q, o, h5, h6, h7⟩ := h4 h0
  exact ⟨q, o, h5, by have := hb.size; omega, fun i t ht => (hb.cell (p := ⟨q, o + i, none⟩) h6).trans (h7 i t ht)⟩
theorem SL.of_row {w : World} {B : Nat} {v : Value} {T : List (UInt8 × List UInt8)} (h : w.ownsRow B 9 1 v T.length (scells T)) (hT : T.length ≤ 100000) : SL w v T := by
  rcases h.2 with ⟨rfl, h0⟩ | ⟨q, cap, cur, rfl, hb, hh, hn, hcap, hcs, htk⟩
  · exact ⟨none, 0, by rw [h0], by omega, by omega, fun h => by omega⟩
  · refine ⟨_, cap, rfl, hn, by unfold maxLen at hcap; omega, fun _ => ⟨q, 0, rfl, (Array.getElem?_eq_some_iff.1 hh).1, fun i t ht => ?_⟩⟩
    have hil := lt_of_get' ht
    rw [Nat.zero_add, cell_of_row w q i cur 9 (0, 0) hh, ← Array.getElem?_toList]
    have h1 : (cur.toList.take (T.length * 1))[i]? = some (.string ⟨t.2.toArray⟩) := by
      rw [htk]; unfold scells; rw [List.getElem?_map, ht]; rfl
    rw [List.getElem?_take_of_lt (by omega)] at h1
    exact h1

def PnPost (X : Option (Nat × List (UInt8 × List UInt8))) (w : World) (e : Ending) (w' : World) : Prop :=
  ∃ f sv b, e = .returned (.tuple #[.float .f64 f, sv, .bool b]) ∧ ((∃ T', X = some (f, T') ∧ b = true ∧ SL w' sv T') ∨ (X = none ∧ b = false)) ∧ Below w.heap.size w w'
def TksOk (T : List (UInt8 × List UInt8)) : Prop := ∀ t ∈ T, TokOk t ∧ t.2.length ≤ 2000 ∧ (t.1 = 49 → padd t.2 = false)

set_option maxRecDepth 100000 in
set_option maxHeartbeats 4000000 in
theorem pNumber_any (v : Value) (T : List (UInt8 × List UInt8)) (B : Nat) (g gl gp : Nat × Nat) (w : World) (hS : SL w v T) (hok : TksOk T) (hG : GlN B g gl gp w) : Calls Tryz.prog 7 #[v] w (PnPost (numX T) w) := by
  have hS0 := hS
  obtain ⟨a, c, rfl, h1, h2, h3⟩ := hS
  generalize hX : numX T = X
  have HX := Lib.hid (And.intro hX (And.intro hS0 (And.intro hok hG)))
  clear hX hok hG hS0
  go_enter Tryz.func7, Tryz.ntmps7
  go_upto_region 2 with fail
  cases T with
  | nil =>
    go_wp2_with fail
    exact bodyPost_ret_by (results_tmp3 rfl _ _ _) rfl ⟨0, _, false, rfl, .inr ⟨HX.out.1.symm, rfl⟩, Below.refl _ _⟩
  | cons t T =>
    obtain ⟨q, o, rfl, hq, hc⟩ := h3 (by simp)
    have c0 := hc 0 t rfl
    rw [Nat.add_zero] at c0
    go_upto_if 14 with fail
    go_cut [0, 5] (fun l m wx => ∃ neg T2 Mn, m = .string Mn ∧ RowKit.Hid (SL wx l T2 ∧ TksOk T2 ∧ GlN B g gl gp wx ∧ Below w.heap.size w wx ∧ X = numT neg T2 ∧ Mn = ⟨(if neg then [45] else [] : List UInt8).toArray⟩))
    case first =>
      by_cases h45 : t.2 = [45]
      · have hb : (t.2 == [45]) = true := by rw [h45]; rfl
        have hx2 : X = numT true T := by rw [← HX.out.1, numX_cons, if_pos h45]
        have HX2 := Lib.hid hx2; clear hx2 h45
        rw [hb]
        clear h3
        have HC := Lib.hid hc; clear hc
        go_wp2_with fail
        go_quiet (fail)
        have h1' : T.length + 1 ≤ c := by simpa using h1
        by_cases hc1 : c = 1
        · subst hc1
          go_wp2_with fail
          go_meet
          case rel =>
            have hx := HX.out
            exact ⟨true, T, _, rfl, Lib.hid ⟨⟨_, 0, rfl, by omega, by omega, fun h0 => by omega⟩, fun t' ht' => hx.2.2.1 t' (List.mem_cons_of_mem _ ht'), hx.2.2.2.keepO (below_drewN (Below.refl _ _) _), below_drewN (Below.refl _ _) _, HX2.out, rfl⟩⟩
        · go_wp2_with fail
          go_meet
          case rel =>
            have hx := HX.out
            refine ⟨true, T, _, rfl, Lib.hid ⟨⟨_, c - 1, rfl, by omega, by omega, fun h0 => ?_⟩, fun t' ht' => hx.2.2.1 t' (List.mem_cons_of_mem _ ht'), hx.2.2.2.keepO (below_drewN (Below.refl _ _) _), below_drewN (Below.refl _ _) _, HX2.out, rfl⟩⟩
            refine ⟨q, o + 1, rfl, hq, fun i t' ht' => ?_⟩
            have := HC.out (i + 1) t' (by simpa using ht')
            rw [show o + (i + 1) = o + 1 + i by omega] at this
            exact this
      · have hb : (t.2 == [45]) = false := by rw [beq_eq_false_iff_ne]; exact h45
        have hx2 : X = numT false (t :: T) := by rw [← HX.out.1, numX_cons, if_neg h45]
        have HX2 := Lib.hid hx2; clear hx2 h45
        rw [hb]
        clear h3 hc
        go_wp2_with fail
        go_meet
        case rel => exact ⟨false, t :: T, _, rfl, Lib.hid ⟨HX.out.2.1, HX.out.2.2.1, HX.out.2.2.2, Below.refl _ _, HX2.out, rfl⟩⟩
    case rest =>
      obtain ⟨neg, T2, Mn, rfl, hZ⟩ := hcut
      clear HX h1 h3 hc c0 h2 hq
      obtain ⟨⟨a2, c2, rfl, h1, h2, h3⟩, -⟩ := hZ.out
      cases T2 with
      | nil =>
        have hx : X = none := by rw [hZ.out.2.2.2.2.1]; rfl
        have HX := Lib.hid hx; clear hx h3
        go_wp2_with fail
        exact bodyPost_ret_by (results_tmp3 rfl _ _ _) rfl ⟨0, _, false, rfl, .inr ⟨HX.out, rfl⟩, hZ.out.2.2.2.1⟩
      | cons t2 T3 =>
        obtain ⟨q2, o2, rfl, hq2, hc2⟩ := h3 (by simp)
        have c0 := hc2 0 t2 rfl
        rw [Nat.add_zero] at c0
        obtain ⟨S2, hS2⟩ : ∃ S2, S2 = ByteArray.mk t2.2.toArray := ⟨_, rfl⟩
        rw [← hS2] at c0
        have htk := hZ.out.2.1 t2 (List.mem_cons_self ..)
        have hne : t2.2 ≠ [] := by
          rcases htk.1 with ⟨-, h, -⟩ | ⟨-, h, -⟩ | ⟨-, h⟩
          · exact h
          · exact h
          · rw [h]; simp
        have hS20 : 0 < S2.size := by rw [hS2]; have := List.length_pos_iff.2 hne; simpa [ByteArray.size] using this
        have hg0 : t2.2[0]? = some S2[0] := by
          rw [← get_at S2 0 hS20, hS2]
        have hkind : (t2.1 = 49 ∧ (isDig S2[0] = true ∨ S2[0] = 46)) ∨ (t2.1 ≠ 49 ∧ isDig S2[0] = false ∧ S2[0] ≠ 46) := by
          rcases htk.1 with ⟨h97, -, hl⟩ | ⟨h49, -, hd⟩ | ⟨hs, he⟩
          · have := lets_let t2.2 0 _ (by have := List.length_pos_iff.2 hne; omega) hg0
            rw [isLet_iff] at this
            refine .inr ⟨by rw [h97]; decide, ?_, fun e => by rw [e] at this; revert this; decide⟩
            cases hx : isDig S2[0] with
            | false => rfl
            | true => rw [isDig_iff] at hx; omega
          · obtain ⟨D, dot, m, hP, hm0, -⟩ := num_tok htk.1 htk.2.2 h49
            obtain ⟨c, hc, hcc⟩ := hP.chars 0 hm0
            rw [hg0] at hc
            have := Option.some.inj hc
            rw [← this] at hcc
            rcases hcc with h | ⟨h, -⟩
            · exact .inl ⟨h49, .inl h⟩
            · exact .inl ⟨h49, .inr h⟩
          · rw [he] at hg0
            have h0 : t2.1 = S2[0] := by simpa using hg0
            rw [h0] at hs
            rw [h0]
            rw [isSign_iff] at hs
            refine .inr ⟨fun e => by rw [e] at hs; revert hs; decide, ?_, fun e => by rw [e] at hs; revert hs; decide⟩
            cases hx : isDig S2[0] with
            | false => rfl
            | true => rw [isDig_iff] at hx; omega
        have HZ2 := Lib.hid (And.intro hS2 (And.intro htk hc2)); clear hS2 htk hne hg0 hc2 h3
        rcases hkind with ⟨h49, hnum⟩ | ⟨h49, hnd, h46⟩
        · have hcat : Mn ++ S2 = ⟨((if neg then [45] else []) ++ t2.2).toArray⟩ := by
            rw [hZ.out.2.2.2.2.2, HZ2.out.1]
            cases neg <;> rfl
          have hcl := fun W (h : Below wc.heap.size wc W) => spec_tok t2 neg HZ2.out.2.1.1 HZ2.out.2.1.2.2 h49 HZ2.out.2.1.2.1 B g gl gp W (hZ.out.2.2.1.keepO h)
          rw [← hcat] at hcl
          have HC := Lib.hid (And.intro hcl h49); clear hcl hcat h49
          have hf : ((48 : Int) ≤ (S2[0].toNat : Int) ∧ (S2[0].toNat : Int) ≤ 57) ∨ ((S2[0].toNat : Int) = 46) := by
            rcases hnum with h | h
            · exact .inl ((isDig_iff _).1 h)
            · exact .inr (by rw [h]; rfl)
          clear hnum
          have hmn : Mn.size ≤ 1 := by rw [hZ.out.2.2.2.2.2]; cases neg <;> decide
          have hsn : S2.size ≤ 2000 := by rw [HZ2.out.1]; have := HZ2.out.2.1.2.1; simpa [ByteArray.size] using this
          have hcl0 : ¬ (9223372036854775807 : Int) < (Mn.size : Int) + (S2.size : Int) := by omega
          have hcl1 : ¬ 9223372036854775807 < Mn.size + S2.size := by omega
          have h1' : T3.length + 1 ≤ c2 := by simpa using h1
          have hfin : ∀ (b : Bool) (W W' : World) (sv : Value), (b = true ↔ (a64L t2.2).2 = 0) → Below wc.heap.size wc W' → (b = true → SL W' sv T3) → PnPost X w (.returned (.tuple #[.float .f64 (sg neg (a64L t2.2).1), sv, .bool b])) W' := by
            intro b W W' sv hb hbl hsl
            refine ⟨_, sv, b, rfl, ?_, hZ.out.2.2.2.1.trans (hbl.mono hZ.out.2.2.2.1.size)⟩
            cases b with
            | true => exact .inl ⟨T3, by rw [hZ.out.2.2.2.2.1, numT_cons, if_pos ⟨HC.out.2, hb.1 rfl⟩], rfl, hsl rfl⟩
            | false => exact .inr ⟨by rw [hZ.out.2.2.2.2.1, numT_cons, if_neg (fun h => by have := hb.2 h.2; cases this)], rfl⟩
          have hsl1 : ∀ W', Below wc.heap.size wc W' → c2 ≠ 1 → SL W' (.slice (some ⟨q2, o2 + 1, none⟩) T3.length (c2 - 1)) T3 := by
            intro W' hb hne
            refine SL.keep (w := wc) ⟨_, c2 - 1, rfl, by omega, by omega, fun h0 => ⟨q2, o2 + 1, rfl, hq2, fun i t' ht' => ?_⟩⟩ hb
            have := HZ2.out.2.2 (i + 1) t' (by simpa using ht')
            rw [show o2 + (i + 1) = o2 + 1 + i by omega] at this
            exact this
          have hsl0 : ∀ W', c2 = 1 → SL W' (.slice (some ⟨q2, o2, none⟩) T3.length 0) T3 := fun W' h => ⟨_, 0, rfl, by omega, by omega, fun h0 => by omega⟩
          have HF := Lib.hid (And.intro hfin (And.intro hsl1 hsl0)); clear hfin hsl1 hsl0
          have HC1 := Lib.hid (HC.out.1 wc (Below.refl _ _))
          clear HC
          rcases hf with ⟨hf1, hf2⟩ | hf
          · go_upto_region 7 with (go_at_call 14; refine HC1.out.mono ?_; rintro e w' ⟨b, rfl, hb, hbl⟩)
            have HB := Lib.hid (And.intro hb hbl); clear hb hbl
            go_quiet (fail)
            by_cases hc1 : c2 = 1
            · have HC2 := Lib.hid hc1
              subst hc1
              go_wp2_with fail
              refine bodyPost_ret_by (results_tmp3 rfl _ _ _) rfl ?_
              exact HF.out.1 b wc _ _ HB.out.1 (below_drewN HB.out.2 _) (fun _ => HF.out.2.2 _ HC2.out)
            · have HC2 := Lib.hid hc1
              go_wp2_with fail
              refine bodyPost_ret_by (results_tmp3 rfl _ _ _) rfl ?_
              exact HF.out.1 b wc _ _ HB.out.1 (below_drewN HB.out.2 _) (fun _ => HF.out.2.1 _ (below_drewN HB.out.2 _) HC2.out)
          · have e1 : ((S2[0].toNat : Int) == 46) = true := by rw [hf]; rfl
            have e2 : ¬ (48 : Int) ≤ (S2[0].toNat : Int) := by omega
            clear hf
            go_upto_region 7 with (go_at_call 14; refine HC1.out.mono ?_; rintro e w' ⟨b, rfl, hb, hbl⟩)
            have HB := Lib.hid (And.intro hb hbl); clear hb hbl
            go_quiet (fail)
            by_cases hc1 : c2 = 1
            · have HC2 := Lib.hid hc1
              subst hc1
              go_wp2_with fail
              refine bodyPost_ret_by (results_tmp3 rfl _ _ _) rfl ?_
              exact HF.out.1 b wc _ _ HB.out.1 (below_drewN HB.out.2 _) (fun _ => HF.out.2.2 _ HC2.out)
            · have HC2 := Lib.hid hc1
              go_wp2_with fail
              refine bodyPost_ret_by (results_tmp3 rfl _ _ _) rfl ?_
              exact HF.out.1 b wc _ _ HB.out.1 (below_drewN HB.out.2 _) (fun _ => HF.out.2.1 _ (below_drewN HB.out.2 _) HC2.out)
        · have hx : X = none := by rw [hZ.out.2.2.2.2.1, numT_cons, if_neg (fun h => h49 h.1)]
          have e1 : ((S2[0].toNat : Int) == 46) = false := beq_false_of_ne (fun e => h46 ((byte_eq _ _).2 e))
          have e2 : ¬ ((48 : Int) ≤ (S2[0].toNat : Int) ∧ (S2[0].toNat : Int) ≤ 57) := fun h => by rw [(isDig_iff _).2 h] at hnd; cases hnd
          have HX := Lib.hid hx
          clear hx h49 hnd h46
          by_cases h48 : (48 : Int) ≤ (S2[0].toNat : Int)
          · have e3 : ¬ (S2[0].toNat : Int) ≤ 57 := fun h => e2 ⟨h48, h⟩
            clear e2
            go_wp2_with fail
            exact bodyPost_ret_by (results_tmp3 rfl _ _ _) rfl ⟨0, _, false, rfl, .inr ⟨HX.out, rfl⟩, hZ.out.2.2.2.1⟩
          · clear e2
            go_wp2_with fail
            exact bodyPost_ret_by (results_tmp3 rfl _ _ _) rfl ⟨0, _, false, rfl, .inr ⟨HX.out, rfl⟩, hZ.out.2.2.2.1⟩

end Go.Proofs.YtblpcpkkjbkakaaGreatDoor
