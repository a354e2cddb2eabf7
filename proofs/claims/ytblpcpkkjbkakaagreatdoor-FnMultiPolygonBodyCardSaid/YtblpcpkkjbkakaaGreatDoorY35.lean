/- Lemmas towards the seat's laws: 1 texts joined. -/
import Derived.Test.YtblpcpkkjbkakaaGreatDoorY04
import Derived.Test.YtblpcpkkjbkakaaGreatDoorY19
/- A text's tokens, and where the scanner finds them. -/
namespace Go.Proofs.YtblpcpkkjbkakaaGreatDoor
open Go Go.RowKit
set_option linter.unusedVariables false
set_option linter.unusedSimpArgs false

/-- A character of a text with tokens. -/
def OkC (c : UInt8) : Prop := isBlank c = true ∨ isSign c = true ∨ isLet c = true ∨ isDig c = true ∨ c = 46 ∨ c = 43
theorem OkC.num {c : UInt8} (h : OkC c) : 0 < c.toNat ∧ c.toNat < 128 ∧ c.toNat ≠ 95 := by
  rcases h with h | h | h | h | h | h
  · rw [isBlank_iff] at h; omega
  · rw [isSign_iff] at h; omega
  · rw [isLet_iff] at h; omega
  · rw [isDig_iff] at h; omega
  · subst h; decide
  · subst h; decide
def NumC (c : UInt8) : Prop := isDig c = true ∨ c = 46 ∨ isLet c = true ∨ c = 43 ∨ c = 45
theorem NumC.ok {c : UInt8} (h : NumC c) : OkC c := by
  rcases h with h | h | h | h | h
  · exact .inr (.inr (.inr (.inl h)))
  · exact .inr (.inr (.inr (.inr (.inl h))))
  · exact .inr (.inr (.inl h))
  · exact .inr (.inr (.inr (.inr (.inr h))))
  · exact .inr (.inl (by subst h; decide))
theorem decm_chars (l : List UInt8) (h : decm l = l.length) (h0 : l ≠ []) : ∀ (i : Nat) (c : UInt8), l[i]? = some c → NumC c := by
  obtain ⟨n1, h1, h2, h3, h4⟩ := decm_parts l h h0
  intro i c hc
  have hi := lt_of_get hc
  by_cases hi1 : i < n1
  · obtain ⟨d, hd, hd2⟩ := h4 i hi1
    rw [hc] at hd
    have := Option.some.inj hd
    subst this
    rcases hd2 with h | h
    · exact .inl h
    · exact .inr (.inl h)
  · rcases dexp_parts l n1 h2 h3 with he | ⟨he, a, ha, hk, hl⟩
    · omega
    · by_cases hin : i = n1
      · subst hin
        rw [hc] at he
        rcases he with he | he
        · have := Option.some.inj he; subst this; exact .inr (.inr (.inl (by decide)))
        · have := Option.some.inj he; subst this; exact .inr (.inr (.inl (by decide)))
      · by_cases hia : a ≤ i
        · obtain ⟨d, hd, hd2⟩ := digs_drop l a i hia (by omega)
          rw [hc] at hd
          have := Option.some.inj hd
          subst this
          exact .inl hd2
        · by_cases hs : l[n1 + 1]? = some 43 ∨ l[n1 + 1]? = some 45
          · rw [if_pos hs] at ha
            have hi2 : i = n1 + 1 := by omega
            subst hi2
            rw [hc] at hs
            rcases hs with hs | hs
            · exact .inr (.inr (.inr (.inl (Option.some.inj hs))))
            · exact .inr (.inr (.inr (.inr (Option.some.inj hs))))
          · rw [if_neg hs] at ha; omega
theorem lets_let : ∀ (l : List UInt8) (i : Nat) (c : UInt8), i < lets l → l[i]? = some c → isLet c = true
  | [], i, c, h, _ => by simp [lets] at h
  | x :: l, i, c, h, hc => by
    unfold lets at h
    by_cases hx : isLet x = true
    · rw [if_pos hx] at h
      cases i with
      | zero => simp at hc; rw [← hc]; exact hx
      | succ i => exact lets_let l i c (by omega) (by simpa using hc)
    · rw [if_neg hx] at h; omega
theorem toksF_chars : ∀ (k : Nat) (j : Bool) (l : List UInt8) (T : List (UInt8 × List UInt8)), toksF k j l = some T → ∀ (i : Nat) (c : UInt8), l[i]? = some c → OkC c := by
  intro k
  induction k with
  | zero =>
    intro j l T h i c hc
    cases l with
    | nil => simp at hc
    | cons x r => simp [toksF] at h
  | succ k ih =>
    intro j l T h i c hc
    cases l with
    | nil => simp at hc
    | cons x r =>
      simp only [toksF] at h
      by_cases hb : isBlank x = true
      · rw [if_pos hb] at h
        cases i with
        | zero => simp at hc; subst hc; exact .inl hb
        | succ i => exact ih false r T h i c (by simpa using hc)
      · rw [if_neg hb] at h
        by_cases hs : isSign x = true
        · rw [if_pos hs] at h
          split at h
          · cases h
          · cases hr : toksF k false r with
            | none => rw [hr] at h; cases h
            | some T2 =>
              cases i with
              | zero => simp at hc; subst hc; exact .inr (.inl hs)
              | succ i => exact ih false r T2 hr i c (by simpa using hc)
        · rw [if_neg hs] at h
          by_cases hl : isLet x = true
          · rw [if_pos hl] at h
            cases j with
            | true => simp at h
            | false =>
              simp only [Bool.false_eq_true, if_false] at h
              cases hr : toksF k true ((x :: r).drop (lets (x :: r))) with
              | none => rw [hr] at h; cases h
              | some T2 =>
                by_cases hi : i < lets (x :: r)
                · exact .inr (.inr (.inl (lets_let _ i c hi hc)))
                · refine ih true _ T2 hr (i - lets (x :: r)) c ?_
                  rw [List.getElem?_drop, show lets (x :: r) + (i - lets (x :: r)) = i by omega]; exact hc
          · rw [if_neg hl] at h
            by_cases hd : decm (x :: r) = 0 ∨ j = true
            · rw [if_pos hd] at h; cases h
            · rw [if_neg hd] at h
              cases hr : toksF k true ((x :: r).drop (decm (x :: r))) with
              | none => rw [hr] at h; cases h
              | some T2 =>
                by_cases hi : i < decm (x :: r)
                · have hdl := decm_le (x :: r)
                  refine NumC.ok (decm_chars ((x :: r).take (decm (x :: r))) ?_ ?_ i c ?_)
                  · rw [decm_take, List.length_take]; omega
                  · intro e
                    have : ((x :: r).take (decm (x :: r))).length = 0 := by rw [e]; rfl
                    rw [List.length_take] at this
                    simp only [List.length_cons] at this hdl
                    omega
                  · rw [get_take_lt _ hi]; exact hc
                · refine ih true _ T2 hr (i - decm (x :: r)) c ?_
                  rw [List.getElem?_drop, show decm (x :: r) + (i - decm (x :: r)) = i by omega]; exact hc
theorem toks_plain {s : ByteArray} {T : List (UInt8 × List UInt8)} (h : toks false s.data.toList = some T) : Plain s ∧ NoBar s := by
  have hc := toksF_chars _ _ _ _ h
  exact ⟨fun i hi => by have := (hc i _ (get_at s i hi)).num; omega, fun i hi => by have := (hc i _ (get_at s i hi)).num; omega⟩

/-- What stands right behind a word or a number. -/
theorem toks_behind {l : List UInt8} {T : List (UInt8 × List UInt8)} (h : toks true l = some T) : ∀ c, l[0]? = some c → isBlank c = true ∨ (isSign c = true ∧ c ≠ 45) := by
  intro c hc
  cases l with
  | nil => simp at hc
  | cons x r =>
    simp at hc
    subst hc
    by_cases hb : isBlank x = true
    · exact .inl hb
    · have hb' : isBlank x = false := by simpa using hb
      by_cases hs : isSign x = true
      · rw [toks_sign true x r hb' hs] at h
        refine .inr ⟨hs, fun e => ?_⟩
        rw [if_pos ⟨e, rfl⟩] at h; cases h
      · have hs' : isSign x = false := by simpa using hs
        by_cases hl : isLet x = true
        · rw [toks_word true x r hb' hs' hl] at h; simp at h
        · rw [toks_num true x r hb' hs' (by simpa using hl), if_pos (.inr rfl)] at h; cases h
theorem blks_le (l : List UInt8) : blks l ≤ l.length := by
  induction l with
  | nil => exact Nat.le_refl _
  | cons c l ih => unfold blks; split <;> simp <;> omega
theorem toks_blks : ∀ (l : List UInt8) (j : Bool) (T : List (UInt8 × List UInt8)), toks j l = some T → ∃ j2, toks j2 (l.drop (blks l)) = some T ∧ (∀ c, l[blks l]? = some c → isBlank c = false)
  | [], j, T, h => ⟨j, h, fun c hc => by simp at hc⟩
  | x :: r, j, T, h => by
    unfold blks
    by_cases hb : isBlank x = true
    · rw [if_pos hb]
      rw [toks_blank j x r hb] at h
      obtain ⟨j2, h1, h2⟩ := toks_blks r false T h
      exact ⟨j2, by simpa using h1, fun c hc => h2 c (by simpa using hc)⟩
    · rw [if_neg hb]
      refine ⟨j, by simpa using h, fun c hc => ?_⟩
      simp at hc; subst hc; simpa using hb
theorem toks_nil_end {l : List UInt8} {j : Bool} (h : toks j l = some []) : blks l = l.length := by
  obtain ⟨j2, h1, h2⟩ := toks_blks l j [] h
  have hle := blks_le l
  by_cases he : blks l = l.length
  · exact he
  · exfalso
    have hlt : blks l < l.length := by omega
    have hc := List.getElem?_eq_getElem hlt
    have hb := h2 _ hc
    rw [List.drop_eq_getElem_cons hlt] at h1
    by_cases hs : isSign l[blks l] = true
    · rw [toks_sign j2 _ _ hb hs] at h1
      split at h1
      · cases h1
      · cases hr : toks false (l.drop (blks l + 1)) with
        | none => rw [hr] at h1; cases h1
        | some x => rw [hr] at h1; simp at h1
    · have hs' : isSign l[blks l] = false := by simpa using hs
      by_cases hl : isLet l[blks l] = true
      · rw [toks_word j2 _ _ hb hs' hl] at h1
        split at h1
        · cases h1
        · generalize toks true _ = o at h1
          cases o <;> simp at h1
      · rw [toks_num j2 _ _ hb hs' (by simpa using hl)] at h1
        split at h1
        · cases h1
        · generalize toks true _ = o at h1
          cases o <;> simp at h1
/-- The kinds of a token at the beginning of l: n characters long. -/
def KindAt (l : List UInt8) (t : UInt8 × List UInt8) (n : Nat) (j' : Bool) : Prop :=
  ∃ c, l[0]? = some c ∧ ((isLet c = true ∧ n = lets l ∧ t.1 = 97 ∧ j' = true) ∨ (isLet c = false ∧ isSign c = false ∧ 0 < decm l ∧ n = decm l ∧ t.1 = 49 ∧ j' = true) ∨ (isSign c = true ∧ n = 1 ∧ t.1 = c ∧ j' = false))
theorem toks_cons {l : List UInt8} {j : Bool} {t : UInt8 × List UInt8} {T : List (UInt8 × List UInt8)} (h : toks j l = some (t :: T)) :
    ∃ n j', 0 < n ∧ blks l + n ≤ l.length ∧ t.2 = (l.drop (blks l)).take n ∧ toks j' (l.drop (blks l + n)) = some T ∧ KindAt (l.drop (blks l)) t n j' := by
  obtain ⟨j2, h1, h2⟩ := toks_blks l j _ h
  have hle := blks_le l
  have hlt : blks l < l.length := by
    apply Nat.lt_of_le_of_ne hle
    intro he
    rw [he, List.drop_length] at h1
    simp [toks, toksF] at h1
  have hc := List.getElem?_eq_getElem hlt
  have hb := h2 _ hc
  have hd := List.drop_eq_getElem_cons hlt
  have hdd : ∀ n, (l.drop (blks l)).drop n = l.drop (blks l + n) := fun n => by rw [List.drop_drop]
  have hget : (l.drop (blks l))[0]? = some l[blks l] := by rw [List.getElem?_drop]; simp
  rw [hd] at h1
  by_cases hs : isSign l[blks l] = true
  · rw [toks_sign j2 _ _ hb hs] at h1
    split at h1
    · cases h1
    · cases hr : toks false (l.drop (blks l + 1)) with
      | none => rw [hr] at h1; cases h1
      | some x =>
        rw [hr] at h1
        simp at h1
        obtain ⟨rfl, rfl⟩ := h1
        exact ⟨1, false, by decide, by omega, by rw [hd]; rfl, hr, l[blks l], hget, .inr (.inr ⟨hs, rfl, rfl, rfl⟩)⟩
  · have hs' : isSign l[blks l] = false := by simpa using hs
    by_cases hl : isLet l[blks l] = true
    · rw [toks_word j2 _ _ hb hs' hl] at h1
      split at h1
      · cases h1
      · rw [← hd, hdd] at h1
        have h0 : 0 < lets (l.drop (blks l)) := by rw [hd]; unfold lets; rw [if_pos hl]; omega
        have hll := lets_le (l.drop (blks l))
        rw [List.length_drop] at hll
        cases hr : toks true (l.drop (blks l + lets (l.drop (blks l)))) with
        | none => rw [hr] at h1; cases h1
        | some x =>
          rw [hr] at h1
          simp at h1
          obtain ⟨rfl, rfl⟩ := h1
          exact ⟨_, true, h0, by omega, rfl, hr, l[blks l], hget, .inl ⟨hl, rfl, rfl, rfl⟩⟩
    · have hl' : isLet l[blks l] = false := by simpa using hl
      rw [toks_num j2 _ _ hb hs' hl'] at h1
      split at h1
      · cases h1
      · rename_i hz
        rw [← hd, hdd] at h1
        rw [← hd] at hz
        have h0 : 0 < decm (l.drop (blks l)) := by omega
        have hll := decm_le (l.drop (blks l))
        rw [List.length_drop] at hll
        cases hr : toks true (l.drop (blks l + decm (l.drop (blks l)))) with
        | none => rw [hr] at h1; cases h1
        | some x =>
          rw [hr] at h1
          simp at h1
          obtain ⟨rfl, rfl⟩ := h1
          exact ⟨_, true, h0, by omega, rfl, hr, l[blks l], hget, .inr (.inl ⟨hl', hs', h0, rfl, rfl, rfl⟩)⟩

theorem ident_not {c : UInt8} (h : isBlank c = true ∨ (isSign c = true ∧ c ≠ 45)) : ident c = false := by
  rcases h with h | ⟨h, -⟩
  · rw [isBlank_iff] at h
    rcases h with h | h | h | h
    · rw [(byte_eq c 32).2 h]; decide
    · rw [(byte_eq c 9).2 h]; decide
    · rw [(byte_eq c 10).2 h]; decide
    · rw [(byte_eq c 13).2 h]; decide
  · rw [isSign_iff] at h
    rcases h with h | h | h | h
    · rw [(byte_eq c 40).2 h]; decide
    · rw [(byte_eq c 41).2 h]; decide
    · rw [(byte_eq c 44).2 h]; decide
    · rw [(byte_eq c 45).2 h]; decide
theorem idents_lets : ∀ (l : List UInt8), (∀ c, l[lets l]? = some c → ident c = false) → idents l = lets l
  | [], _ => rfl
  | x :: l, h => by
    unfold idents lets
    unfold lets at h
    by_cases hx : isLet x = true
    · have hid : ident x = true := by unfold ident; rw [hx]; simp
      rw [if_pos hx] at h
      rw [if_pos hx, if_pos hid, idents_lets l (fun c hc => h c (by simpa using hc))]
    · rw [if_neg hx] at h
      rw [if_neg hx]
      have := h x (by simp)
      rw [this]; rfl

/-- The scanner's place of the next token. -/
theorem tok_at (s : ByteArray) (p : Nat) (j : Bool) (t : UInt8 × List UInt8) (T : List (UInt8 × List UInt8)) (hp : p ≤ s.size) (h : toks j (s.data.toList.drop p) = some (t :: T)) (hpad : t.1 = 49 → padd t.2 = false) :
    ∃ t0 E j', p + blks (s.data.toList.drop p) = t0 ∧ TokAt s t0 E false ∧ seg s t0 E = t.2 ∧ toks j' (s.data.toList.drop E) = some T ∧ E ≤ s.size ∧ t0 < E ∧ p ≤ t0 := by
  obtain ⟨n, j', hn, hle, ht2, hr, c, hc, hk⟩ := toks_cons h
  have hlen : (s.data.toList.drop p).length = s.size - p := by rw [List.length_drop, ← Lib.size_eq]
  rw [hlen] at hle
  obtain ⟨t0, ht0⟩ : ∃ t0, t0 = p + blks (s.data.toList.drop p) := ⟨_, rfl⟩
  have hdd : ∀ n, (s.data.toList.drop p).drop (blks (s.data.toList.drop p) + n) = s.data.toList.drop (t0 + n) := fun n => by rw [List.drop_drop, ht0]; congr 1; omega
  have hd0 : (s.data.toList.drop p).drop (blks (s.data.toList.drop p)) = s.data.toList.drop t0 := by rw [List.drop_drop, ht0]
  rw [hdd] at hr
  rw [hd0] at ht2 hc hk
  have hlt : t0 < s.size := by omega
  have hst : s[t0] = c := by
    rw [get_drop, Nat.add_zero, get_at s t0 hlt] at hc
    exact Option.some.inj hc
  have hseg : seg s t0 (t0 + n) = t.2 := by unfold seg; rw [ht2]; congr 1; omega
  refine ⟨t0, t0 + n, j', ht0.symm, ?_, hseg, hr, by omega, by omega, by omega⟩
  have hbehind : j' = true → ∀ x, s.data.toList[t0 + n]? = some x → isBlank x = true ∨ (isSign x = true ∧ x ≠ 45) := by
    intro hj x hx
    subst hj
    exact toks_behind hr x (by rw [get_drop, Nat.add_zero]; exact hx)
  rcases hk with ⟨hl, hnl, -, hj⟩ | ⟨hl, hs, h0, hnd, ht1, hj⟩ | ⟨hs, hn1, -, hj⟩
  · have hdc := drop_at s t0 hlt
    have hle2 : lets (s.data.toList.drop t0) = lets (s.data.toList.drop (t0 + 1)) + 1 := by
      rw [hdc]; conv => lhs; unfold lets
      rw [if_pos (by rw [hst]; exact hl)]
    have hid : idents (s.data.toList.drop (t0 + 1)) = lets (s.data.toList.drop (t0 + 1)) := by
      apply idents_lets
      intro x hx
      rw [get_drop, show t0 + 1 + lets (s.data.toList.drop (t0 + 1)) = t0 + n by omega] at hx
      exact ident_not (hbehind hj x hx)
    have := TokAt.word hlt (by rw [hst]; exact hl)
    rw [hid, show t0 + 1 + lets (s.data.toList.drop (t0 + 1)) = t0 + n by omega] at this
    exact this
  · have hpd := hpad ht1
    rw [ht2, hnd] at hpd
    obtain ⟨D, dot, m, hP⟩ := num_parts _ h0 hpd (fun x hx => by
      rw [get_drop, ← hnd] at hx
      rcases hbehind hj x hx with hb | ⟨hb, _⟩
      · rw [isBlank_iff] at hb
        cases hx2 : isLet x with
        | false => rfl
        | true => rw [isLet_iff] at hx2; omega
      · exact (sign_not x hb).1)
    have hE : t0 + decm (s.data.toList.drop t0) ≤ s.size := by omega
    rw [hnd]
    by_cases hdg : isDig s[t0] = true
    · exact TokAt.num hlt hdg D dot m hP hE
    · have hD0 : D = 0 := by
        rw [← hP.hD, drop_at s t0 hlt]
        unfold digs
        rw [if_neg hdg]
      have hdot : dot = true := by
        have hpos := hP.hpos
        cases dot with
        | true => rfl
        | false => rw [hD0] at hpos; simp at hpos
      subst hD0; subst hdot
      have h46 := hP.hdot.2 rfl
      rw [get_drop, Nat.add_zero, get_at s t0 hlt] at h46
      have hpos := hP.hpos
      simp only [if_true, Nat.zero_add] at hpos
      obtain ⟨x, hx, hxd⟩ := digs_dig ((s.data.toList.drop t0).drop 1) 0 (by simpa using hpos)
      rw [List.getElem?_drop, get_drop] at hx
      have hlt1 : t0 + 1 < s.size := by have := lt_of_get hx; rw [← Lib.size_eq] at this; omega
      rw [show t0 + (1 + 0) = t0 + 1 by omega, get_at s _ hlt1] at hx
      exact TokAt.point hlt (Option.some.inj h46) ⟨hlt1, by rw [Option.some.inj hx]; exact hxd⟩ m hP hE
  · rw [hn1]
    exact TokAt.sign hlt (by rw [hst]; exact hs)

end Go.Proofs.YtblpcpkkjbkakaaGreatDoor
