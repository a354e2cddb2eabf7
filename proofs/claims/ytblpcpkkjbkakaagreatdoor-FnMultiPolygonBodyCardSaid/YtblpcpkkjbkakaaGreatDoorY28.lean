/- Lemmas towards the seat's laws: 1 texts joined. -/
import Derived.Test.YtblpcpkkjbkakaaGreatDoorY27
import Derived.Test.YtblpcpkkjbkakaaGreatDoorY26
/- The reference's tokens: Tokens, AskedWKT; the law's pTokens. -/
namespace Go.Proofs.YtblpcpkkjbkakaaGreatDoor
open Go Go.RowKit
set_option linter.unusedVariables false
set_option linter.unusedSimpArgs false

def scells (T : List (UInt8 × List UInt8)) : List Value := T.map fun t => .string ⟨t.2.toArray⟩

theorem tcells_get (T : List (UInt8 × List UInt8)) (k : Nat) (h : k < T.length) : (tcells T)[k * 2]? = some (.int .u8 (T[k].1.toNat)) ∧ (tcells T)[k * 2 + 1]? = some (.string ⟨T[k].2.toArray⟩) := by
  induction T generalizing k with
  | nil => simp at h
  | cons t T ih =>
    cases k with
    | zero => simp [tcells, tcell]
    | succ k =>
      have := ih k (by simpa using h)
      have e : tcells (t :: T) = .int .u8 t.1.toNat :: .string ⟨t.2.toArray⟩ :: tcells T := rfl
      rw [e, show (k + 1) * 2 = k * 2 + 1 + 1 by omega, show k * 2 + 1 + 1 + 1 = (k * 2 + 1) + 1 + 1 by omega]
      simpa using this

theorem cells_lit1 (w : World) (x : Value) (t : TypeId) (N : Nat) (hN : w.heap.size = N) : ∀ j u, [x][j]? = some u → (w.alloc (.cells #[x] t)).cell? ((⟨N, 0, none⟩ : Addr).add j) = some u := by
  intro j u hj
  subst hN
  rw [show (⟨w.heap.size, 0, none⟩ : Addr).add j = ⟨w.heap.size, j, none⟩ by unfold Addr.add; split <;> simp_all]
  rw [cell_of_row _ _ j #[x] t (0, 0) (heap_alloc_new w _)]
  match j, hj with
  | 0, hj => simpa using hj

def TksPost (B : Nat) (s : ByteArray) (w : World) (e : Ending) (w' : World) : Prop :=
  (∃ v T, e = .returned (.tuple #[v, .bool true]) ∧ toks false s.data.toList = some T ∧ T.length ≤ s.size ∧ w'.ownsRow B 9 1 v T.length (scells T) ∧ Below B w w') ∨
  (∃ v, e = .returned (.tuple #[v, .bool false]) ∧ toks false s.data.toList = none ∧ Below B w w')

set_option maxRecDepth 100000 in
set_option maxHeartbeats 2000000 in
theorem Tokens_any (s : ByteArray) (w : World) (hs : s.size ≤ 100000) :
    Calls Tryz.prog 12 #[.string s] w (TksPost w.heap.size s w) := by
  obtain ⟨i0, hi, hz0, hz1, hz2⟩ := info_parts info9
  obtain ⟨B, hB⟩ : ∃ B, B = w.heap.size := ⟨_, rfl⟩
  rw [← hB]
  have HB := Lib.hid hB; clear hB
  go_enter Tryz.func12, Tryz.ntmps12
  go_wp2_with fail
  refine (tokens_any s w hs).mono ?_
  rintro e w1 (⟨v, T, rfl, htk, hTl, hown, hb⟩ | ⟨rfl, htk, hb⟩)
  · rw [← HB.out] at hown hb
    have HTK := Lib.hid htk; clear htk
    rcases hown.2 with ⟨rfl, h0⟩ | ⟨g, cap, cur, rfl, hg⟩
    · have hT0 : T = [] := List.eq_nil_of_length_eq_zero h0
      subst hT0
      clear h0
      go_wp2_with fail
      go_loopw [2, 14] (fun v i wr => v = .slice none 0 0 ∧ i = .int .i64 0 ∧ wr = w1) (fun _ _ _ => 0)
      case atStart => exact ⟨rfl, rfl, rfl⟩
      case round =>
        obtain ⟨rfl, rfl, rfl⟩ := hrel
        go_wp2_with fail
        go_ret2
        exact .inl ⟨_, [], rfl, HTK.out, by simp, World.ownsRow_nil _ _ _ _, hb⟩
    · have hgl := (hown.lt g rfl).2
      go_wp2_with fail
      go_loopw [2, 14] (fun v i wr => ∃ k : Nat, k ≤ T.length ∧ i = .int .i64 k ∧ wr.ownsRow w1.heap.size 9 1 v k (scells (T.take k)) ∧ Below w1.heap.size w1 wr) (fun _ i _ => T.length - (intOf i).toNat)
      case atStart => exact ⟨0, Nat.zero_le _, rfl, World.ownsRow_nil _ _ _ _, Below.refl _ _⟩
      case round =>
        obtain ⟨k, hk, rfl, hown2, hb2⟩ := hrel
        by_cases hlt : k < T.length
        · have hc := tcells_get T k hlt
          have c0 : wr.cell? ⟨g, k * 2, none⟩ = some (.int .u8 (T[k].1.toNat)) := by
            rw [hb2.cell (p := ⟨g, k * 2, none⟩) hgl, hown.cellAt _ (by omega)]; exact hc.1
          have c1 : wr.cell? ⟨g, k * 2 + 1, none⟩ = some (.string ⟨T[k].2.toArray⟩) := by
            rw [hb2.cell (p := ⟨g, k * 2 + 1, none⟩) hgl, hown.cellAt _ (by omega)]; exact hc.2
          clear hc
          go_wp2_with (at_builtin; refine wpList_append_own _ rfl _ _ 22 rfl w1.heap.size 9 i0 (.string ⟨#[]⟩) 1 16 Tryz.underlying22 hi hz0 hz1 hz2 rfl (by decide) _ _ _ rfl ((hown2.alloc _).alloc _) ⟨wr.heap.size + 1, 0, none⟩ 1 1 [_] rfl rfl (cells_lit1 _ _ _ _ (by simp)) (by intro u hu; simp at hu; subst hu; rfl) (by unfold maxLen; omega) (by omega) (by have := hb2.size; simp; omega) ?_; intro v1 w2 hown3 hg1 _)
          go_roundw
          case rel =>
            go_light
            refine ⟨k + 1, by omega, by go_num, ?_, ?_⟩
            · rw [List.take_succ_eq_append_getElem hlt]
              unfold scells
              rw [List.map_append]
              exact hown3
            · exact ((hb2.alloc hb2.size _).alloc (by have := hb2.size; simp; omega) _).grown hg1 (by have := hb2.size; simp; omega) (fun q hq => (hown2.lt q hq).1)
          case measure => simp [intOf]; omega
        · go_wp2_with fail
          go_ret2
          have hkk : k = T.length := by omega
          subst hkk
          rw [List.take_length] at hown2
          refine .inl ⟨_, T, rfl, HTK.out, hTl, ?_, hb.trans (hb2.mono (by have := hb.size; have := HB.out; omega))⟩
          refine ⟨hown2.1, ?_⟩
          rcases hown2.2 with h | ⟨g2, cap2, cur2, h1, h2, h3⟩
          · exact .inl h
          · exact .inr ⟨g2, cap2, cur2, h1, by have := hb.size; have := HB.out; omega, h3⟩
  · rw [← HB.out] at hb
    have HTK := Lib.hid htk; clear htk
    go_wp2_with fail
    go_loopw [2, 14] (fun v i wr => v = .slice none 0 0 ∧ i = .int .i64 0 ∧ wr = w1) (fun _ _ _ => 0)
    case atStart => exact ⟨rfl, rfl, rfl⟩
    case round =>
      obtain ⟨rfl, rfl, rfl⟩ := hrel
      go_wp2_with fail
      go_ret2
      exact .inr ⟨_, rfl, HTK.out, hb⟩

theorem toksF_len : ∀ (k : Nat) (j : Bool) (l : List UInt8) (T : List (UInt8 × List UInt8)), toksF k j l = some T → ∀ t ∈ T, t.2.length ≤ l.length := by
  intro k
  induction k with
  | zero =>
    intro j l T h t ht
    cases l with
    | nil => simp [toksF] at h; subst h; simp at ht
    | cons c r => simp [toksF] at h
  | succ k ih =>
    intro j l T h t ht
    cases l with
    | nil => simp [toksF] at h; subst h; simp at ht
    | cons c r =>
      simp only [toksF] at h
      by_cases hb : isBlank c = true
      · rw [if_pos hb] at h; have := ih _ _ _ h t ht; simp; omega
      · rw [if_neg hb] at h
        by_cases hs : isSign c = true
        · rw [if_pos hs] at h
          split at h
          · cases h
          · obtain ⟨T', h1, rfl⟩ := Option.map_eq_some_iff.1 h
            rcases List.mem_cons.1 ht with rfl | ht
            · simp
            · have := ih _ _ _ h1 t ht; simp; omega
        · rw [if_neg hs] at h
          by_cases hl : isLet c = true
          · rw [if_pos hl] at h
            split at h
            · cases h
            · obtain ⟨T', h1, rfl⟩ := Option.map_eq_some_iff.1 h
              rcases List.mem_cons.1 ht with rfl | ht
              · simp only [List.length_take]; omega
              · have := ih _ _ _ h1 t ht; simp only [List.length_drop] at this; omega
          · rw [if_neg hl] at h
            split at h
            · cases h
            · obtain ⟨T', h1, rfl⟩ := Option.map_eq_some_iff.1 h
              rcases List.mem_cons.1 ht with rfl | ht
              · simp only [List.length_take]; omega
              · have := ih _ _ _ h1 t ht; simp only [List.length_drop] at this; omega
theorem toks_len {j : Bool} {l : List UInt8} {T : List (UInt8 × List UInt8)} (h : toks j l = some T) : ∀ t ∈ T, t.2.length ≤ l.length := toksF_len _ _ _ _ h

theorem padded_b (s : ByteArray) (l : List UInt8) (w : World) (hs : s.size ≤ 100000) (hl : s.data.toList = l) (hE : ExpOk l) (b : Bool) (h : padd l = b) :
    Calls Tryz.prog 25 #[.string s] w fun e w' => e = .returned (.bool b) ∧ w = w' := by
  subst hl; subst h; exact padded_any s w hs hE

/-- What AskedWKT tells. -/
def AskPost (s : ByteArray) (w : World) (e : Ending) (w' : World) : Prop :=
  ∃ b : Bool, e = .returned (.bool b) ∧ (b = true → ∃ T, toks false s.data.toList = some T ∧ ∀ t ∈ T, t.1 = 49 → padd t.2 = false) ∧ Below w.heap.size w w'

set_option maxRecDepth 100000 in
set_option maxHeartbeats 2000000 in
theorem AskedWKT_any (s : ByteArray) (w : World) (hs : s.size ≤ 100000) :
    Calls Tryz.prog 11 #[.string s] w (AskPost s w) := by
  obtain ⟨B, hB⟩ : ∃ B, B = w.heap.size := ⟨_, rfl⟩
  have HB := Lib.hid hB; clear hB
  go_enter Tryz.func11, Tryz.ntmps11
  go_wp2_with fail
  refine (tokens_any s w hs).mono ?_
  rw [← HB.out]
  rintro e w1 (⟨v, T, rfl, htk, hTl, hown, hb⟩ | ⟨rfl, htk, hb⟩)
  · have HTK := Lib.hid htk; clear htk
    rcases hown.2 with ⟨rfl, h0⟩ | ⟨g, cap, cur, rfl, hg⟩
    · have hT0 : T = [] := List.eq_nil_of_length_eq_zero h0
      subst hT0
      clear h0
      go_wp2_with fail
      go_loopw [15] (fun i wr => i = .int .i64 0 ∧ wr = w1) (fun _ _ => 0)
      case atStart => exact ⟨rfl, rfl⟩
      case round =>
        obtain ⟨rfl, rfl⟩ := hrel
        go_wp2_with fail
        go_ret
        exact ⟨_, rfl, fun _ => ⟨[], HTK.out, by simp⟩, by rw [← HB.out]; exact hb⟩
    · have hgl := (hown.lt g rfl).2
      go_wp2_with fail
      go_loopw [15] (fun i wr => ∃ k : Nat, k ≤ T.length ∧ i = .int .i64 k ∧ RowKit.Hid (∀ j (h : j < T.length), j < k → T[j].1 = 49 → padd T[j].2 = false) ∧ Below w1.heap.size w1 wr) (fun i _ => T.length - (intOf i).toNat)
      case atStart => exact ⟨0, Nat.zero_le _, rfl, fun j _ h => absurd h (by omega), Below.refl _ _⟩
      case round =>
        obtain ⟨k, hk, rfl, HK, hb2⟩ := hrel
        by_cases hlt : k < T.length
        · have hc := tcells_get T k hlt
          have c0 : wr.cell? ⟨g, k * 2, none⟩ = some (.int .u8 (T[k].1.toNat)) := by
            rw [hb2.cell (p := ⟨g, k * 2, none⟩) hgl, hown.cellAt _ (by omega)]; exact hc.1
          have c1 : wr.cell? ⟨g, k * 2 + 1, none⟩ = some (.string ⟨T[k].2.toArray⟩) := by
            rw [hb2.cell (p := ⟨g, k * 2 + 1, none⟩) hgl, hown.cellAt _ (by omega)]; exact hc.2
          clear hc
          have htok := toks_ok HTK.out T[k] (List.getElem_mem hlt)
          obtain ⟨p, hp⟩ : ∃ p, padd T[k].2 = p := ⟨_, rfl⟩
          obtain ⟨t, ht⟩ : ∃ t, t = T[k] := ⟨_, rfl⟩
          rw [← ht] at c0 c1 htok hp
          have HT := Lib.hid ht; have HP := Lib.hid hp; have HTO := Lib.hid htok; clear ht hp htok
          have hsz : (⟨t.2.toArray⟩ : ByteArray).size ≤ 100000 := by
            have := toks_len HTK.out T[k] (List.getElem_mem hlt)
            rw [← HT.out] at this
            simp at this
            show t.2.toArray.size ≤ 100000
            simp; omega
          go_upto_region 6 with (go_at_call 24; refine (upper_any _ _ hsz).mono ?_; rintro e w2 ⟨u, rfl, hb3⟩)
          go_cut [51] (fun c wx => ∃ b : Bool, c = .bool b ∧ RowKit.Hid (b = false → t.1 = 49 → padd t.2 = false) ∧ w2 = wx)
          case first =>
            have d0 : w2.cell? ⟨wr.heap.size, 0, none⟩ = some (.int .u8 t.1.toNat) := by
              rw [hb3.cell (p := ⟨wr.heap.size, 0, none⟩) (by simp)]; simp [World.cell?, World.alloc, -World.alloc_eq]
            have d1 : w2.cell? ⟨wr.heap.size, 1, none⟩ = some (.string ⟨t.2.toArray⟩) := by
              rw [hb3.cell (p := ⟨wr.heap.size, 1, none⟩) (by simp)]; simp [World.cell?, World.alloc, -World.alloc_eq]
            by_cases hk49 : t.1 = 49
            · have hq : (t.1.toNat : Int) = 49 := (byte_eq t.1 49).1 hk49
              have hE : RowKit.Hid (ExpOk t.2) := by
                rcases HTO.out with h | h | h
                · rw [hk49] at h; simp at h
                · exact expOk_of_decm _ h.2.2 h.2.1
                · rw [hk49] at h; simp [isSign] at h
              have HK49 := Lib.hid hk49; clear hk49
              cases p with
              | true =>
                go_wp2_with (go_at_call 25; refine (padded_b _ t.2 _ hsz rfl hE.out true HP.out).mono ?_; rintro e w' ⟨rfl, rfl⟩)
                all_goals (go_meet; case rel => go_light; exact ⟨_, rfl, (fun h => by simp at h : (_ = false → _ → _)), rfl⟩)
              | false =>
                go_wp2_with (go_at_call 25; refine (padded_b _ t.2 _ hsz rfl hE.out false HP.out).mono ?_; rintro e w' ⟨rfl, rfl⟩)
                all_goals (go_meet; case rel => go_light; exact ⟨_, rfl, (fun _ _ => HP.out : (_ = false → _ → _)), rfl⟩)
            · have hq : ((t.1.toNat : Int) == 49) = false := by
                rw [beq_eq_false_iff_ne]; exact fun h => hk49 ((byte_eq t.1 49).2 h)
              have HK49 := Lib.hid hk49; clear hk49
              go_wp2_with fail
              all_goals (go_meet; case rel => go_light; exact ⟨_, rfl, (fun _ h => absurd h HK49.out : (_ = false → _ → _)), rfl⟩)
          case rest =>
            obtain ⟨b, rfl, HBB, rfl⟩ := hcut
            have hbr : Below w1.heap.size w1 w2 := (hb2.alloc hb2.size _).trans (hb3.mono (by have := hb2.size; simp; omega))
            cases b with
            | true =>
              go_wp2_with fail
              go_ret
              exact ⟨_, rfl, by simp, by rw [← HB.out]; exact hb.trans (hbr.mono (by have := hb.size; have := HB.out; omega))⟩
            | false =>
              go_wp2_with fail
              go_roundw
              case rel =>
                go_light
                refine ⟨k + 1, by omega, by go_num, fun j hj hjk => ?_, hbr⟩
                by_cases hje : j = k
                · subst hje; rw [← HT.out]; exact HBB.out rfl
                · exact HK.out j hj (by omega)
              case measure => simp [intOf]; omega
        · go_wp2_with fail
          go_ret
          refine ⟨_, rfl, fun _ => ⟨T, HTK.out, fun t ht => ?_⟩, by rw [← HB.out]; exact hb.trans (hb2.mono (by have := hb.size; have := HB.out; omega))⟩
          obtain ⟨j, hj, rfl⟩ := List.getElem_of_mem ht
          exact HK.out j hj (by omega)
  · go_wp2_with fail
    go_loopw [15] (fun i wr => i = .int .i64 0 ∧ wr = w1) (fun _ _ => 0)
    case atStart => exact ⟨rfl, rfl⟩
    case round =>
      obtain ⟨rfl, rfl⟩ := hrel
      go_wp2_with fail
      go_ret
      exact ⟨_, rfl, by simp, by rw [← HB.out]; exact hb⟩

def PTokPost (B : Nat) (s : ByteArray) (w : World) (e : Ending) (w' : World) : Prop :=
  (∃ v T, e = .returned (.tuple #[v, .bool true]) ∧ s.size ≤ 2000 ∧ toks false s.data.toList = some T ∧ (∀ t ∈ T, t.1 = 49 → padd t.2 = false) ∧ T.length ≤ s.size ∧ w'.ownsRow B 9 1 v T.length (scells T) ∧ Below B w w') ∨
  (∃ v, e = .returned (.tuple #[v, .bool false]) ∧ Below B w w')

set_option maxHeartbeats 1000000 in
theorem pTokens_any (s : ByteArray) (w : World) (hs : s.size ≤ 9223372036854775807) :
    Calls Tryz.prog 5 #[.string s] w (PTokPost w.heap.size s w) := by
  obtain ⟨B, hB⟩ : ∃ B, B = w.heap.size := ⟨_, rfl⟩
  have HB := Lib.hid hB; clear hB
  go_enter Tryz.func5, Tryz.ntmps5
  by_cases hlt : 2000 < s.size
  · go_wp2_with fail
    go_ret2
    exact .inr ⟨_, rfl, Below.refl _ _⟩
  · go_wp2_with fail
    refine (AskedWKT_any s w (by omega)).mono ?_
    rintro e w1 ⟨b, rfl, hq, hb⟩
    have HQ := Lib.hid hq; clear hq
    cases b with
    | false =>
      go_wp2_with fail
      go_ret2
      exact .inr ⟨_, rfl, hb⟩
    | true =>
      obtain ⟨T, hT, hpad⟩ := HQ.out rfl
      have HT := Lib.hid hT; have HP := Lib.hid hpad; clear hT hpad HQ
      go_wp2_with fail
      refine (Tokens_any s w1 (by omega)).mono ?_
      rintro e w2 (⟨v, T2, rfl, htk, hTl, hown, hb2⟩ | ⟨v, rfl, htk, hb2⟩)
      · obtain rfl : T = T2 := by have := HT.out; rw [htk] at this; exact (Option.some.inj this).symm
        have HTK := Lib.hid htk; clear htk
        go_wp2_with fail
        go_ret2
        refine .inl ⟨_, T, rfl, by omega, HT.out, HP.out, hTl, ⟨hown.1, ?_⟩, hb.trans (hb2.mono hb.size)⟩
        rcases hown.2 with h | ⟨g2, cap2, cur2, h1, h2, h3⟩
        · exact .inl h
        · exact .inr ⟨g2, cap2, cur2, h1, by have := hb.size; omega, h3⟩
      · have := HT.out
        rw [htk] at this
        cases this
end Go.Proofs.YtblpcpkkjbkakaaGreatDoor
