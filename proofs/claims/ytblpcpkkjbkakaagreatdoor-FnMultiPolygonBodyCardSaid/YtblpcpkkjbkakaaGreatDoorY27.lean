/- Lemmas towards the seat's laws: 1 texts joined. -/
import Derived.Test.YtblpcpkkjbkakaaGreatDoorY05
/- The reference's tokens: the walk of spec.tokens. -/
namespace Go.Proofs.YtblpcpkkjbkakaaGreatDoor
open Go Go.RowKit
set_option linter.unusedVariables false
set_option linter.unusedSimpArgs false

theorem isLetter_yes (c : UInt8) (w : World) (h : isLet c = true) : Calls Tryz.prog 38 #[.int .u8 c.toNat] w fun e w' => e = .returned (.bool true) ∧ w = w' := h ▸ isLetter_any c w
theorem isLetter_no (c : UInt8) (w : World) (h : isLet c = false) : Calls Tryz.prog 38 #[.int .u8 c.toNat] w fun e w' => e = .returned (.bool false) ∧ w = w' := h ▸ isLetter_any c w
theorem decimal_d (s : ByteArray) (w : World) (hs : s.size ≤ 1000000) (m n : Nat) (h : decm (s.data.toList.drop m) = n) :
    Calls Tryz.prog 39 #[.string (s.extract m s.size)] w fun e w' => e = .returned (.int .i64 n) ∧ w = w' := by
  have := decimal_any (s.extract m s.size) w (by simp; omega)
  rw [extract_drop, h] at this
  exact this

theorem info62 : (Tryz.prog.info? 62).map (fun i => (i.zero, i.size, i.bytes)) = some (some (.agg #[.int .u8 0, .string ⟨#[]⟩]), 2, 24) := by kernel_rfl
theorem info9 : (Tryz.prog.info? 9).map (fun i => (i.zero, i.size, i.bytes)) = some (some (.string ⟨#[]⟩), 1, 16) := by kernel_rfl

/-- A token's two cells. -/
def tcell (t : UInt8 × List UInt8) : List Value := [.int .u8 t.1.toNat, .string ⟨t.2.toArray⟩]
def tcells (T : List (UInt8 × List UInt8)) : List Value := T.flatMap tcell
theorem tcells_snoc (T : List (UInt8 × List UInt8)) (t) : tcells (T ++ [t]) = tcells T ++ tcell t := by simp [tcells]
theorem tcells_length (T : List (UInt8 × List UInt8)) : (tcells T).length = T.length * 2 := by
  induction T with
  | nil => rfl
  | cons t T ih => simp only [tcells, List.flatMap_cons, List.length_append, List.length_cons] at *; rw [ih]; simp [tcell]; omega
theorem extract_take (s : ByteArray) (k n : Nat) : s.extract k (k + n) = ⟨((s.data.toList.drop k).take n).toArray⟩ := by
  apply ByteArray.ext
  simp [ByteArray.data_extract]
  apply Array.toList_inj.1
  simp [List.extract_eq_take_drop]

/-- What the loop of 'tokens' holds at its head. -/
def TokRel (B : Nat) (s : ByteArray) (w : World) (v j i : Value) (wr : World) : Prop :=
  ∃ (k : Nat) (T : List (UInt8 × List UInt8)) (b : Bool), k ≤ s.size ∧ T.length ≤ k ∧ j = .bool b ∧ i = .int .i64 k ∧
    wr.ownsRow B 62 2 v T.length (tcells T) ∧ Below B w wr ∧ toks false s.data.toList = (toks b (s.data.toList.drop k)).map (T ++ ·)

/-- What 'tokens' leaves. -/
def TokPost (B : Nat) (s : ByteArray) (w : World) (e : Ending) (w' : World) : Prop :=
  (∃ v T, e = .returned (.tuple #[v, .bool true]) ∧ toks false s.data.toList = some T ∧ T.length ≤ s.size ∧ w'.ownsRow B 62 2 v T.length (tcells T) ∧ Below B w w') ∨
  (e = .returned (.tuple #[.slice none 0 0, .bool false]) ∧ toks false s.data.toList = none ∧ Below B w w')

/-- One token more. -/
theorem tok_more {B : Nat} {s : ByteArray} {w wr w1 : World} {v v1 : Value} {k n : Nat} {T : List (UInt8 × List UInt8)} {b b1 : Bool} {t : UInt8 × List UInt8} {news : List Value} {o : Obj}
    (hn : 0 < n) (hkn : k + n ≤ s.size) (hT : T.length ≤ k) (hown : wr.ownsRow B 62 2 v T.length (tcells T)) (hb : Below B w wr) (hB : B ≤ wr.heap.size)
    (h : toks false s.data.toList = (toks b (s.data.toList.drop k)).map (T ++ ·))
    (hstep : toks b (s.data.toList.drop k) = (toks b1 (s.data.toList.drop (k + n))).map (t :: ·))
    (hnews : news = tcell t) (hown1 : w1.ownsRow B 62 2 v1 (T.length + 1) (tcells T ++ news)) (hg : (wr.alloc o).grownBy w1 v.ownBlock) :
    TokRel B s w v1 (.bool b1) (.int .i64 ((k + n : Nat) : Int)) w1 := by
  subst hnews
  refine ⟨k + n, T ++ [t], b1, hkn, by simp; omega, rfl, rfl, by rw [tcells_snoc]; simpa using hown1, ?_, ?_⟩
  · refine (hb.alloc hB _).grown hg (by simp; omega) (fun q hq => (hown.lt q hq).1)
  · rw [h, hstep]
    cases toks b1 (s.data.toList.drop (k + n)) <;> simp


section
variable {s : ByteArray} {k : Nat} {b : Bool}
theorem step_blank (h : k < s.size) (hb : isBlank s[k] = true) : toks b (s.data.toList.drop k) = toks false (s.data.toList.drop (k + 1)) := by
  rw [drop_at s k h, toks_blank _ _ _ hb]
theorem blank_not (c : UInt8) (h : isSign c = true) : isBlank c = false := by
  rw [Bool.eq_false_iff]; intro e
  have h1 := (isSign_iff c).1 h; have h2 := (isBlank_iff c).1 e; omega
theorem blank_not_let (c : UInt8) (h : isLet c = true) : isBlank c = false ∧ isSign c = false := by
  have h1 := (isLet_iff c).1 h
  constructor
  · rw [Bool.eq_false_iff]; intro e; have h2 := (isBlank_iff c).1 e; omega
  · rw [Bool.eq_false_iff]; intro e; have h2 := (isSign_iff c).1 e; omega
theorem step_sign (h : k < s.size) (hs : isSign s[k] = true) (hj : ¬ (s[k] = 45 ∧ b = true)) :
    toks b (s.data.toList.drop k) = (toks false (s.data.toList.drop (k + 1))).map ((s[k], [s[k]]) :: ·) := by
  rw [drop_at s k h, toks_sign _ _ _ (blank_not _ hs) hs, if_neg hj]
theorem fail_sign (h : k < s.size) (hs : s[k] = 45) : toks true (s.data.toList.drop k) = none := by
  rw [drop_at s k h, toks_sign _ _ _ (by rw [hs]; rfl) (by rw [hs]; rfl), if_pos ⟨hs, rfl⟩]
theorem step_word (h : k < s.size) (hl : isLet s[k] = true) (n : Nat) (hn : lets (s.data.toList.drop k) = n) :
    toks false (s.data.toList.drop k) = (toks true (s.data.toList.drop (k + n))).map ((97, (s.data.toList.drop k).take n) :: ·) := by
  have h2 := blank_not_let _ hl
  have : s.data.toList.drop (k + n) = (s.data.toList.drop k).drop n := by rw [List.drop_drop]
  rw [this]
  rw [drop_at s k h] at hn ⊢
  rw [toks_word _ _ _ h2.1 h2.2 hl, hn]; rfl
theorem fail_word (h : k < s.size) (hl : isLet s[k] = true) : toks true (s.data.toList.drop k) = none := by
  have h2 := blank_not_let _ hl
  rw [drop_at s k h, toks_word _ _ _ h2.1 h2.2 hl]; rfl
theorem step_num (h : k < s.size) (h1 : isBlank s[k] = false) (h2 : isSign s[k] = false) (hl : isLet s[k] = false) (n : Nat) (hn : decm (s.data.toList.drop k) = n) (h0 : n ≠ 0) :
    toks false (s.data.toList.drop k) = (toks true (s.data.toList.drop (k + n))).map ((49, (s.data.toList.drop k).take n) :: ·) := by
  have : s.data.toList.drop (k + n) = (s.data.toList.drop k).drop n := by rw [List.drop_drop]
  rw [this]
  rw [drop_at s k h] at hn ⊢
  rw [toks_num _ _ _ h1 h2 hl, hn, if_neg (by simp [h0])]
theorem fail_num (h : k < s.size) (h1 : isBlank s[k] = false) (h2 : isSign s[k] = false) (hl : isLet s[k] = false) (hn : decm (s.data.toList.drop k) = 0 ∨ b = true) :
    toks b (s.data.toList.drop k) = none := by
  rw [drop_at s k h] at hn ⊢
  rw [toks_num _ _ _ h1 h2 hl, if_pos hn]
theorem tok_fail {B : Nat} {w wr : World} {T : List (UInt8 × List UInt8)} (hb : Below B w wr) (h : toks false s.data.toList = (toks b (s.data.toList.drop k)).map (T ++ ·)) (hf : toks b (s.data.toList.drop k) = none) :
    TokPost B s w (.returned (.tuple #[.slice none 0 0, .bool false])) wr := .inr ⟨rfl, by rw [h, hf]; rfl, hb⟩
theorem tok_fail2 {B : Nat} {w wr w1 : World} {v : Value} {T : List (UInt8 × List UInt8)} {o : Obj} {xs : List Value} (hb : Below B w wr) (hB : B ≤ wr.heap.size) (hown : wr.ownsRow B 62 2 v T.length xs) (hg : (wr.alloc o).grownBy w1 v.ownBlock)
    (h : toks false s.data.toList = (toks b (s.data.toList.drop k)).map (T ++ ·)) (hf : toks b (s.data.toList.drop k) = none) :
    TokPost B s w (.returned (.tuple #[.slice none 0 0, .bool false])) w1 :=
  .inr ⟨rfl, by rw [h, hf]; rfl, (hb.alloc hB _).grown hg (by simp; omega) (fun q hq => (hown.lt q hq).1)⟩
end

theorem cells_lit2 (w : World) (x y : Value) (t : TypeId) : ∀ j u, [x, y][j]? = some u → (w.alloc (.cells #[x, y] t)).cell? ((⟨w.heap.size, 0, none⟩ : Addr).add j) = some u := by
  intro j u hj
  rw [show (⟨w.heap.size, 0, none⟩ : Addr).add j = ⟨w.heap.size, j, none⟩ by unfold Addr.add; split <;> simp_all]
  rw [cell_of_row _ _ j #[x, y] t (0, 0) (heap_alloc_new w _)]
  match j, hj with
  | 0, hj => simpa using hj
  | 1, hj => simpa using hj

set_option maxRecDepth 100000 in
set_option maxHeartbeats 2000000 in
theorem tokens_any (s : ByteArray) (w : World) (hs : s.size ≤ 100000) :
    Calls Tryz.prog 23 #[.string s] w (TokPost w.heap.size s w) := by
  obtain ⟨i0, hi, hz0, hz1, hz2⟩ := info_parts info62
  obtain ⟨B, hB⟩ : ∃ B, B = w.heap.size := ⟨_, rfl⟩
  rw [← hB]
  have HB := Lib.hid hB; clear hB
  go_enter Tryz.func23, Tryz.ntmps23
  go_wp2
  go_loopw [2, 4, 5] (fun v j i wr => TokRel B s w v j i wr) (fun _ _ i _ => s.size - (intOf i).toNat)
  case atStart => exact ⟨0, [], false, Nat.zero_le _, Nat.zero_le _, rfl, rfl, World.ownsRow_nil _ _ _ _, Below.refl _ _, by simp⟩
  case round =>
    obtain ⟨k, T, b, hk, hT, rfl, rfl, hown, hnx, htk⟩ := hrel
    have hBr : B ≤ wr.heap.size := by have := hnx.size; have := HB.out; omega
    have HT := Lib.hid htk; clear htk
    by_cases hlt : k < s.size
    · by_cases hbl : isBlank s[k] = true
      · have hst := Lib.hid (step_blank (b := b) hlt hbl)
        have hc := (isBlank_iff _).1 hbl
        clear hbl
        rcases hc with hc | hc | hc | hc
        all_goals
          go_wp2_with fail
          go_roundw
          case rel => go_light; exact ⟨k + 1, T, false, by omega, by omega, rfl, by go_num, hown, hnx, by rw [HT.out, hst.out]⟩
          case measure => simp [intOf]; omega
      · obtain ⟨n32, n9, n10, n13⟩ : ((s[k].toNat : Int) == 32) = false ∧ ((s[k].toNat : Int) == 9) = false ∧ ((s[k].toNat : Int) == 10) = false ∧ ((s[k].toNat : Int) == 13) = false := by
          have q := mt (isBlank_iff s[k]).2 hbl; simp only [beq_eq_false_iff_ne]; omega
        have hbl' : isBlank s[k] = false := by simpa using hbl
        have HBL := Lib.hid hbl'; clear hbl hbl'
        by_cases hsg : isSign s[k] = true
        · have hc := (isSign_iff _).1 hsg
          have HSG := Lib.hid hsg; clear hsg
          have hex := extract_take s k 1
          have HEX := Lib.hid hex; clear hex
          by_cases hj : s[k] = 45 ∧ b = true
          · obtain ⟨hj1, rfl⟩ := hj
            have hc45 := (byte_eq s[k] 45).1 hj1
            have hc45 : (s[k].toNat : Int) = 45 := hc45
            have HF := Lib.hid (fail_sign hlt hj1); clear hj1 hc
            go_wp2_with fail
            go_ret2
            exact tok_fail hnx HT.out HF.out
          · have HJ := Lib.hid (step_sign (b := b) hlt HSG.out hj)
            by_cases h45 : s[k] = 45
            · have hb0 : b = false := by simpa [h45] using hj
              subst hb0
              have hc45 := (byte_eq s[k] 45).1 h45
              have hc45 : (s[k].toNat : Int) = 45 := hc45
              clear hc hj h45
              go_wp2_with (first | (at_builtin; refine wpList_append_own _ rfl _ _ 58 rfl B 62 i0 (.agg #[.int .u8 0, .string ⟨#[]⟩]) 2 24 Tryz.underlying58 hi hz0 hz1 hz2 rfl (by decide) _ _ _ rfl (hown.alloc _) ⟨wr.heap.size, 0, none⟩ 1 1 [_, _] rfl rfl (cells_lit2 _ _ _ _) (by intro u hu; simp at hu; rcases hu with rfl | rfl <;> rfl) (by unfold maxLen; omega) (by omega) (by simp; omega) ?_; intro v1 w1 hown1 hg1 _))
              go_roundw
              case rel =>
                go_light
                have h45 : s[k] = 45 := (byte_eq s[k] 45).2 hc45
                have := tok_more (t := (s[k], [s[k]])) (b1 := false) (by omega) (by omega) hT hown hnx hBr HT.out HJ.out (by rw [HEX.out, drop_at s k hlt, h45]; rfl) hown1 hg1
                simpa using this
              case measure => simp [intOf]; omega
            · have h45' := mt (byte_eq s[k] 45).2 h45
              have h45' : ¬ (s[k].toNat : Int) = 45 := h45'
              clear hj h45
              have hc : (s[k].toNat : Int) = 40 ∨ (s[k].toNat : Int) = 41 ∨ (s[k].toNat : Int) = 44 := by omega
              clear h45'
              rcases hc with hc | hc | hc
              all_goals
                go_wp2_with (first | (at_builtin; refine wpList_append_own _ rfl _ _ 58 rfl B 62 i0 (.agg #[.int .u8 0, .string ⟨#[]⟩]) 2 24 Tryz.underlying58 hi hz0 hz1 hz2 rfl (by decide) _ _ _ rfl (hown.alloc _) ⟨wr.heap.size, 0, none⟩ 1 1 [_, _] rfl rfl (cells_lit2 _ _ _ _) (by intro u hu; simp at hu; rcases hu with rfl | rfl <;> rfl) (by unfold maxLen; omega) (by omega) (by simp; omega) ?_; intro v1 w1 hown1 hg1 _))
                go_roundw
                case rel =>
                  go_light
                  have := tok_more (t := (s[k], [s[k]])) (b1 := false) (by omega) (by omega) hT hown hnx hBr HT.out HJ.out (by rw [HEX.out, drop_at s k hlt]; simp [tcell, hc]) hown1 hg1
                  simpa using this
                case measure => simp [intOf]; omega
        · obtain ⟨n40, n41, n44, n45⟩ : ((s[k].toNat : Int) == 40) = false ∧ ((s[k].toNat : Int) == 41) = false ∧ ((s[k].toNat : Int) == 44) = false ∧ ((s[k].toNat : Int) == 45) = false := by
            have q := mt (isSign_iff s[k]).2 hsg; simp only [beq_eq_false_iff_ne]; omega
          have hsg' : isSign s[k] = false := by simpa using hsg
          have HSG := Lib.hid hsg'; clear hsg hsg'
          by_cases hl : isLet s[k] = true
          · have HL := Lib.hid hl; clear hl
            obtain ⟨n, hn⟩ : ∃ n, lets (s.data.toList.drop k) = n := ⟨_, rfl⟩
            have hn0 : 1 ≤ n := by rw [← hn, drop_at s k hlt]; simp [lets, HL.out]
            have hnl : n ≤ s.size - k := by have := lets_le (s.data.toList.drop k); rw [hn] at this; simpa using this
            have HN := Lib.hid hn; clear hn
            have HEX := Lib.hid (extract_take s k n)
            have hb2 : b = true ∨ b = false := by cases b <;> simp
            have HF : RowKit.Hid (b = true → toks b (s.data.toList.drop k) = none) := fun h => by rw [h]; exact fail_word hlt HL.out
            have HST : RowKit.Hid (b = false → toks b (s.data.toList.drop k) = (toks true (s.data.toList.drop (k + n))).map ((97, (s.data.toList.drop k).take n) :: ·)) := fun h => by rw [h]; exact step_word hlt HL.out n HN.out
            go_wp2_with (go_at_call 38; refine (isLetter_yes _ _ HL.out).mono ?_; rintro e w' ⟨rfl, rfl⟩)
            go_loop [7] (fun t => ∃ m : Nat, m ≤ n ∧ n = m + lets (s.data.toList.drop (k + m)) ∧ t = .int .i64 m) (fun t => n - (intOf t).toNat)
            case atStart => exact ⟨0, by omega, by simpa using HN.out.symm, rfl⟩
            case round =>
              obtain ⟨m, hm, hnm, rfl⟩ := hrel
              have HNM := Lib.hid hnm; clear hnm
              by_cases hgo : k + m < s.size ∧ (∀ h : k + m < s.size, isLet s[k + m] = true)
              · obtain ⟨hlt2, hl2⟩ := hgo
                have HL2 := Lib.hid (hl2 hlt2); clear hl2
                have hmn : m + 1 ≤ n := by have := HNM.out; rw [drop_at s (k + m) hlt2] at this; simp only [lets, HL2.out, if_true] at this; omega
                go_wp2_with (go_at_call 38; refine (isLetter_yes _ _ HL2.out).mono ?_; rintro e w' ⟨rfl, rfl⟩)
                go_round
                case rel => go_light; exact ⟨m + 1, hmn, by have := HNM.out; rw [drop_at s (k + m) hlt2] at this; simp only [lets, HL2.out, if_true] at this; rw [← Nat.add_assoc]; omega, by go_num⟩
                case measure => simp [intOf]; omega
              · have hmn : m = n := by
                  have h1 := HNM.out
                  by_cases hlt2 : k + m < s.size
                  · have hl2 : isLet s[k + m] = false := by
                      rw [Bool.eq_false_iff]; intro h; exact hgo ⟨hlt2, fun _ => h⟩
                    rw [drop_at s (k + m) hlt2] at h1; simp only [lets, hl2, Bool.false_eq_true, if_false] at h1; omega
                  · rw [drop_end s (k + m) (by omega)] at h1; simp only [lets] at h1; omega
                subst hmn
                have hgo2 : ¬ k + m < s.size ∨ ∃ h : k + m < s.size, isLet s[k + m] = false := by
                  by_cases hlt2 : k + m < s.size
                  · refine .inr ⟨hlt2, ?_⟩
                    rw [Bool.eq_false_iff]; intro h; exact hgo ⟨hlt2, fun _ => h⟩
                  · exact .inl hlt2
                clear hgo
                have hn0b : ((m : Int) == 0) = false := by rw [beq_eq_false_iff_ne]; omega
                rcases hb2 with rfl | rfl
                all_goals
                  rcases hgo2 with hlt2 | ⟨hlt2, hl2⟩
                  all_goals
                    try (have HL2 := Lib.hid hl2; clear hl2)
                    go_wp2_with (first | (go_at_call 38; refine (isLetter_no _ _ HL2.out).mono ?_; rintro e w' ⟨rfl, rfl⟩) | (at_builtin; refine wpList_append_own _ rfl _ _ 58 rfl B 62 i0 (.agg #[.int .u8 0, .string ⟨#[]⟩]) 2 24 Tryz.underlying58 hi hz0 hz1 hz2 rfl (by decide) _ _ _ rfl (hown.alloc _) ⟨wr.heap.size, 0, none⟩ 1 1 [_, _] rfl rfl (cells_lit2 _ _ _ _) (by intro u hu; simp at hu; rcases hu with rfl | rfl <;> rfl) (by unfold maxLen; omega) (by omega) (by simp; omega) ?_; intro v1 w1 hown1 hg1 _))
                · go_ret2
                  exact tok_fail2 hnx hBr hown hg1 HT.out (HF.out (by simp))
                · go_ret2
                  exact tok_fail2 hnx hBr hown hg1 HT.out (HF.out (by simp))
                all_goals
                  go_roundw
                  case rel =>
                    go_light
                    have := tok_more (t := (97, (s.data.toList.drop k).take m)) (b1 := true) (by omega) (by omega) hT hown hnx hBr HT.out (HST.out (by simp)) (by rw [HEX.out]; rfl) hown1 hg1
                    simpa using this
                  case measure => simp [intOf]; omega
          · have hl' : isLet s[k] = false := by simpa using hl
            have HL := Lib.hid hl'; clear hl hl'
            obtain ⟨n, hn⟩ : ∃ n, decm (s.data.toList.drop k) = n := ⟨_, rfl⟩
            have hnl : n ≤ s.size - k := by have := decm_le (s.data.toList.drop k); rw [hn] at this; simpa using this
            have HN := Lib.hid hn; clear hn
            have hex := extract_take s k n
            have HEX := Lib.hid hex; clear hex
            by_cases hz : n = 0 ∨ b = true
            · have HF := Lib.hid (fail_num (b := b) hlt HBL.out HSG.out HL.out (by rw [HN.out]; exact hz))
              have hq : ((n : Int) == 0) = true ∨ ((n : Int) == 0) = false ∧ b = true := by
                by_cases h0 : n = 0
                · simp [h0]
                · right; simp [h0] at hz ⊢; exact hz
              clear hz
              rcases hq with hq | ⟨hq, rfl⟩
              all_goals
                go_wp2_with (first | (go_at_call 38; refine (isLetter_no _ _ HL.out).mono ?_; rintro e w' ⟨rfl, rfl⟩) | (go_at_call 39; refine (decimal_d s _ (by omega) k n HN.out).mono ?_; rintro e w' ⟨rfl, rfl⟩) | (at_builtin; refine wpList_append_own _ rfl _ _ 58 rfl B 62 i0 (.agg #[.int .u8 0, .string ⟨#[]⟩]) 2 24 Tryz.underlying58 hi hz0 hz1 hz2 rfl (by decide) _ _ _ rfl (hown.alloc _) ⟨wr.heap.size, 0, none⟩ 1 1 [_, _] rfl rfl (cells_lit2 _ _ _ _) (by intro u hu; simp at hu; rcases hu with rfl | rfl <;> rfl) (by unfold maxLen; omega) (by omega) (by simp; omega) ?_; intro v1 w1 hown1 hg1 _))
                go_ret2
                exact tok_fail2 hnx hBr hown hg1 HT.out HF.out
            · obtain ⟨h0, hb0⟩ : n ≠ 0 ∧ b = false := by simpa using hz
              subst hb0
              clear hz
              have HST := Lib.hid (step_num hlt HBL.out HSG.out HL.out n HN.out h0)
              go_wp2_with (first | (go_at_call 38; refine (isLetter_no _ _ HL.out).mono ?_; rintro e w' ⟨rfl, rfl⟩) | (go_at_call 39; refine (decimal_d s _ (by omega) k n HN.out).mono ?_; rintro e w' ⟨rfl, rfl⟩) | (at_builtin; refine wpList_append_own _ rfl _ _ 58 rfl B 62 i0 (.agg #[.int .u8 0, .string ⟨#[]⟩]) 2 24 Tryz.underlying58 hi hz0 hz1 hz2 rfl (by decide) _ _ _ rfl (hown.alloc _) ⟨wr.heap.size, 0, none⟩ 1 1 [.int .u8 49, .string (s.extract k (k + n))] rfl rfl (cells_lit2 _ _ _ _) (by intro u hu; simp at hu; rcases hu with rfl | rfl <;> rfl) (by unfold maxLen; omega) (by omega) (by simp; omega) ?_; intro v1 w1 hown1 hg1 _))
              go_roundw
              case rel =>
                go_light
                have := tok_more (t := (49, (s.data.toList.drop k).take n)) (b1 := true) (Nat.pos_of_ne_zero h0) (by omega) hT hown hnx hBr HT.out HST.out (by rw [HEX.out]; rfl) hown1 hg1
                simpa using this
              case measure => simp [intOf]; omega
    · go_wp2_with fail
      go_ret2
      refine .inl ⟨_, T, rfl, ?_, by omega, hown, hnx⟩
      rw [HT.out, drop_end s k (by omega)]; simp [toks_nil]
end Go.Proofs.YtblpcpkkjbkakaaGreatDoor
