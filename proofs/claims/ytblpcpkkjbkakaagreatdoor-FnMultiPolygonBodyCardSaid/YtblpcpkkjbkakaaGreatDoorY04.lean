/- Lemmas towards the seat's laws: 1 texts joined. -/
import Derived.WalkKit
/- The plain law of the texts' tokens: no program in sight. -/
namespace Go.Proofs.YtblpcpkkjbkakaaGreatDoor
set_option linter.unusedVariables false
set_option linter.unusedSimpArgs false

def isDig (c : UInt8) : Bool := 48 ≤ c && c ≤ 57
def isLet (c : UInt8) : Bool := (97 ≤ c && c ≤ 122) || (65 ≤ c && c ≤ 90)
def isBlank (c : UInt8) : Bool := c == 32 || c == 9 || c == 10 || c == 13
def isSign (c : UInt8) : Bool := c == 40 || c == 41 || c == 44 || c == 45

def digs : List UInt8 → Nat
  | [] => 0
  | c :: l => if isDig c then digs l + 1 else 0
def lets : List UInt8 → Nat
  | [] => 0
  | c :: l => if isLet c then lets l + 1 else 0

def dexp (l : List UInt8) (n : Nat) : Nat :=
  if l[n]? = some 101 ∨ l[n]? = some 69 then
    let at1 := if l[n + 1]? = some 43 ∨ l[n + 1]? = some 45 then n + 2 else n + 1
    let k := digs (l.drop at1)
    if 0 < k then at1 + k else n
  else n
def decm (l : List UInt8) : Nat :=
  let n := digs l
  if l[n]? = some 46 then
    let more := digs (l.drop (n + 1))
    if n + more = 0 then 0 else dexp l (n + 1 + more)
  else if n = 0 then 0 else dexp l n

theorem digs_le (l : List UInt8) : digs l ≤ l.length := by
  induction l with
  | nil => simp [digs]
  | cons c l ih => simp only [digs]; split <;> simp <;> omega
theorem lets_le (l : List UInt8) : lets l ≤ l.length := by
  induction l with
  | nil => simp [lets]
  | cons c l ih => simp only [lets]; split <;> simp <;> omega

theorem lt_of_get {l : List UInt8} {n : Nat} {c : UInt8} (h : l[n]? = some c) : n < l.length := (List.getElem?_eq_some_iff.1 h).1

theorem dexp_le (l : List UInt8) (n : Nat) (h : n ≤ l.length) : n ≤ dexp l n ∧ dexp l n ≤ l.length := by
  unfold dexp
  split
  · rename_i he
    have hn : n < l.length := by rcases he with h | h <;> exact lt_of_get h
    dsimp only
    have hk (m : Nat) (hm : m ≤ l.length) : m + digs (l.drop m) ≤ l.length := by have := digs_le (l.drop m); simp at this; omega
    by_cases hs : l[n + 1]? = some 43 ∨ l[n + 1]? = some 45
    · have hn1 : n + 1 < l.length := by rcases hs with h | h <;> exact lt_of_get h
      rw [if_pos hs]
      have := hk (n + 2) (by omega)
      split <;> omega
    · rw [if_neg hs]
      have := hk (n + 1) (by omega)
      split <;> omega
  · omega

theorem decm_le (l : List UInt8) : decm l ≤ l.length := by
  unfold decm
  have h1 := digs_le l
  dsimp only
  split
  · rename_i h
    have h2 := lt_of_get h
    have h3 := digs_le (l.drop (digs l + 1))
    simp at h3
    split
    · omega
    · exact (dexp_le l _ (by omega)).2
  · split
    · omega
    · exact (dexp_le l _ h1).2

/-- The tokens of a text, each with its kind (97: a word, 49: a decimal, else a sign), or nothing. -/
def toksF : Nat → Bool → List UInt8 → Option (List (UInt8 × List UInt8))
  | _, _, [] => some []
  | 0, _, _ => none
  | k + 1, j, c :: r =>
    if isBlank c then toksF k false r
    else if isSign c then (if c = 45 ∧ j = true then none else (toksF k false r).map ((c, [c]) :: ·))
    else if isLet c then (if j then none else (toksF k true ((c :: r).drop (lets (c :: r)))).map ((97, (c :: r).take (lets (c :: r))) :: ·))
    else if decm (c :: r) = 0 ∨ j = true then none
    else (toksF k true ((c :: r).drop (decm (c :: r)))).map ((49, (c :: r).take (decm (c :: r))) :: ·)
def toks (j : Bool) (l : List UInt8) : Option (List (UInt8 × List UInt8)) := toksF l.length j l

theorem toksF_more : ∀ (k m : Nat) (j : Bool) (l : List UInt8), l.length ≤ k → k ≤ m → toksF m j l = toksF k j l := by
  intro k
  induction k with
  | zero => intro m j l h1 _; have : l = [] := List.eq_nil_of_length_eq_zero (by omega); subst this; cases m <;> rfl
  | succ k ih =>
    intro m j l h1 h2
    obtain ⟨m, rfl⟩ : ∃ q, m = q + 1 := ⟨m - 1, by omega⟩
    cases l with
    | nil => rfl
    | cons c r =>
      simp only [List.length_cons] at h1
      simp only [toksF]
      rw [ih m false r (by omega) (by omega)]
      by_cases hb : isBlank c = true
      · rw [if_pos hb, if_pos hb]
      · rw [if_neg hb, if_neg hb]
        by_cases hs : isSign c = true
        · rw [if_pos hs, if_pos hs]
        · rw [if_neg hs, if_neg hs]
          by_cases hl : isLet c = true
          · rw [if_pos hl, if_pos hl]
            have h0 : 0 < lets (c :: r) := by simp [lets, hl]
            rw [ih m true _ (by simp; omega) (by omega)]
          · rw [if_neg hl, if_neg hl]
            by_cases hd : decm (c :: r) = 0
            · rw [if_pos (Or.inl hd), if_pos (Or.inl hd)]
            · rw [ih m true ((c :: r).drop (decm (c :: r))) (by simp; omega) (by omega)]

theorem toks_nil (j : Bool) : toks j [] = some [] := rfl
theorem toks_blank (j : Bool) (c : UInt8) (r : List UInt8) (h : isBlank c = true) : toks j (c :: r) = toks false r := by
  unfold toks; simp only [List.length_cons, toksF, h, if_true]
theorem toks_sign (j : Bool) (c : UInt8) (r : List UInt8) (hb : isBlank c = false) (h : isSign c = true) :
    toks j (c :: r) = if c = 45 ∧ j = true then none else (toks false r).map ((c, [c]) :: ·) := by
  unfold toks; simp only [List.length_cons, toksF, hb, h, if_true, Bool.false_eq_true, if_false]
theorem toks_word (j : Bool) (c : UInt8) (r : List UInt8) (hb : isBlank c = false) (hs : isSign c = false) (h : isLet c = true) :
    toks j (c :: r) = if j then none else (toks true ((c :: r).drop (lets (c :: r)))).map ((97, (c :: r).take (lets (c :: r))) :: ·) := by
  have h0 : 0 < lets (c :: r) := by simp [lets, h]
  unfold toks
  rw [← toksF_more _ r.length true ((c :: r).drop (lets (c :: r))) (Nat.le_refl _) (by simp; omega)]
  simp only [List.length_cons, toksF, hb, hs, h, if_true, Bool.false_eq_true, if_false]
theorem toks_num (j : Bool) (c : UInt8) (r : List UInt8) (hb : isBlank c = false) (hs : isSign c = false) (h : isLet c = false) :
    toks j (c :: r) = if decm (c :: r) = 0 ∨ j = true then none else (toks true ((c :: r).drop (decm (c :: r)))).map ((49, (c :: r).take (decm (c :: r))) :: ·) := by
  by_cases hd : decm (c :: r) = 0
  · unfold toks; simp [toksF, hb, hs, h, hd]
  · unfold toks
    rw [← toksF_more _ r.length true ((c :: r).drop (decm (c :: r))) (Nat.le_refl _) (by simp; omega)]
    simp only [List.length_cons, toksF, hb, hs, h, Bool.false_eq_true, if_false]

/-- A decimal has a 0 ahead of another digit. -/
def padd (l : List UInt8) : Bool :=
  (1 < l.length && l[0]? == some 48 && 0 < digs (l.drop 1)) ||
  match l.findIdx? (fun c => c == 101 || c == 69) with
  | none => false
  | some i =>
    let a := if l[i + 1]? = some 43 ∨ l[i + 1]? = some 45 then i + 2 else i + 1
    l[a]? == some 48 && a + 1 < l.length

/-- What stands at place k of a text and behind. -/
theorem drop_at (s : ByteArray) (k : Nat) (h : k < s.size) : s.data.toList.drop k = s[k] :: s.data.toList.drop (k + 1) := by
  rw [List.drop_eq_getElem_cons (by simpa using h)]; rfl
theorem drop_end (s : ByteArray) (k : Nat) (h : s.size ≤ k) : s.data.toList.drop k = [] := List.drop_eq_nil_of_le (by simpa using h)
theorem get_at (s : ByteArray) (k : Nat) (h : k < s.size) : s.data.toList[k]? = some s[k] := by
  rw [List.getElem?_eq_getElem (by simpa using h)]; rfl
theorem get_end (s : ByteArray) (k : Nat) (h : s.size ≤ k) : s.data.toList[k]? = none := List.getElem?_eq_none (by simpa using h)

theorem isDig_iff (c : UInt8) : isDig c = true ↔ (48 : Int) ≤ (c.toNat : Int) ∧ (c.toNat : Int) ≤ 57 := by
  unfold isDig; simp [UInt8.le_iff_toNat_le]; omega
theorem isLet_iff (c : UInt8) : isLet c = true ↔ ((97 : Int) ≤ (c.toNat : Int) ∧ (c.toNat : Int) ≤ 122) ∨ ((65 : Int) ≤ (c.toNat : Int) ∧ (c.toNat : Int) ≤ 90) := by
  unfold isLet; simp [UInt8.le_iff_toNat_le]; omega
theorem byte_eq (c d : UInt8) : c = d ↔ (c.toNat : Int) = (d.toNat : Int) := by
  rw [← UInt8.toNat_inj]; omega
theorem isBlank_iff (c : UInt8) : isBlank c = true ↔ (c.toNat : Int) = 32 ∨ (c.toNat : Int) = 9 ∨ (c.toNat : Int) = 10 ∨ (c.toNat : Int) = 13 := by
  unfold isBlank
  simp only [Bool.or_eq_true, beq_iff_eq, byte_eq]
  simp; omega
theorem isSign_iff (c : UInt8) : isSign c = true ↔ (c.toNat : Int) = 40 ∨ (c.toNat : Int) = 41 ∨ (c.toNat : Int) = 44 ∨ (c.toNat : Int) = 45 := by
  unfold isSign
  simp only [Bool.or_eq_true, beq_iff_eq, byte_eq]
  simp; omega
theorem extract_drop (s : ByteArray) (k : Nat) : (s.extract k s.size).data.toList = s.data.toList.drop k := by
  simp [ByteArray.data_extract, Array.toList_extract]
  exact List.take_of_length_le (by simp)

/-- Behind each an e of a decimal stands what its exponent wants. -/
def ExpOk (l : List UInt8) : Prop := ∀ i, (l[i]? = some 101 ∨ l[i]? = some 69) → i + 1 < l.length ∧ ((l[i + 1]? = some 43 ∨ l[i + 1]? = some 45) → i + 2 < l.length)

theorem digs_dig : ∀ (l : List UInt8) (i : Nat), i < digs l → ∃ c, l[i]? = some c ∧ isDig c = true
  | [], i, h => by simp [digs] at h
  | c :: l, i, h => by
    by_cases hc : isDig c = true
    · simp only [digs, hc, if_true] at h
      cases i with
      | zero => exact ⟨c, rfl, hc⟩
      | succ i => obtain ⟨d, h1, h2⟩ := digs_dig l i (by omega); exact ⟨d, by simpa using h1, h2⟩
    · simp [digs, hc] at h
theorem digs_end : ∀ (l : List UInt8) (c : UInt8), l[digs l]? = some c → isDig c = false
  | [], c, h => by simp at h
  | d :: l, c, h => by
    by_cases hd : isDig d = true
    · simp only [digs, hd, if_true] at h; exact digs_end l c (by simpa using h)
    · simp only [digs, hd] at h; simp at h; subst h; simpa using hd
theorem digs_drop (l : List UInt8) (m i : Nat) (h1 : m ≤ i) (h2 : i < m + digs (l.drop m)) : ∃ c, l[i]? = some c ∧ isDig c = true := by
  obtain ⟨c, hc, hd⟩ := digs_dig (l.drop m) (i - m) (by omega)
  refine ⟨c, ?_, hd⟩
  rw [List.getElem?_drop] at hc
  rwa [show m + (i - m) = i by omega] at hc
theorem not_e_dig (c : UInt8) (h : isDig c = true) : c ≠ 101 ∧ c ≠ 69 ∧ c ≠ 43 ∧ c ≠ 45 ∧ c ≠ 46 := by
  refine ⟨?_, ?_, ?_, ?_, ?_⟩ <;> (rintro rfl; simp [isDig] at h)

/-- How a decimal of a whole list is made: the place n1 of its exponent. -/
theorem decm_parts (l : List UInt8) (h : decm l = l.length) (h0 : l ≠ []) :
    ∃ n1, 0 < n1 ∧ n1 ≤ l.length ∧ dexp l n1 = l.length ∧ (∀ i, i < n1 → ∃ c, l[i]? = some c ∧ (isDig c = true ∨ c = 46)) := by
  have hp : 0 < l.length := List.length_pos_iff.2 h0
  have hdl := digs_le l
  unfold decm at h
  dsimp only at h
  by_cases hd : l[digs l]? = some 46
  · rw [if_pos hd] at h
    have hlt := lt_of_get hd
    have hm := digs_le (l.drop (digs l + 1))
    simp at hm
    by_cases hz : digs l + digs (l.drop (digs l + 1)) = 0
    · rw [if_pos hz] at h; omega
    · rw [if_neg hz] at h
      refine ⟨digs l + 1 + digs (l.drop (digs l + 1)), by omega, by omega, h, fun i hi => ?_⟩
      rcases Nat.lt_trichotomy i (digs l) with h1 | h1 | h1
      · obtain ⟨c, a, b⟩ := digs_dig l i h1; exact ⟨c, a, .inl b⟩
      · subst h1; exact ⟨46, hd, .inr rfl⟩
      · obtain ⟨c, a, b⟩ := digs_drop l (digs l + 1) i (by omega) (by omega); exact ⟨c, a, .inl b⟩
  · rw [if_neg hd] at h
    by_cases hz : digs l = 0
    · rw [if_pos hz] at h; omega
    · rw [if_neg hz] at h
      exact ⟨digs l, by omega, hdl, h, fun i hi => by obtain ⟨c, a, b⟩ := digs_dig l i hi; exact ⟨c, a, .inl b⟩⟩

theorem dexp_parts (l : List UInt8) (n1 : Nat) (h1 : n1 ≤ l.length) (h : dexp l n1 = l.length) :
    n1 = l.length ∨ ((l[n1]? = some 101 ∨ l[n1]? = some 69) ∧ ∃ a, (a = if l[n1 + 1]? = some 43 ∨ l[n1 + 1]? = some 45 then n1 + 2 else n1 + 1) ∧ 0 < digs (l.drop a) ∧ a + digs (l.drop a) = l.length) := by
  unfold dexp at h
  by_cases he : l[n1]? = some 101 ∨ l[n1]? = some 69
  · rw [if_pos he] at h
    dsimp only at h
    by_cases hk : 0 < digs (l.drop (if l[n1 + 1]? = some 43 ∨ l[n1 + 1]? = some 45 then n1 + 2 else n1 + 1))
    · rw [if_pos hk] at h
      exact .inr ⟨he, _, rfl, hk, h⟩
    · rw [if_neg hk] at h; exact .inl h
  · rw [if_neg he] at h; exact .inl h

theorem expOk_of_decm (l : List UInt8) (h : decm l = l.length) (h0 : l ≠ []) : ExpOk l := by
  obtain ⟨n1, hp, hle, hd, hb⟩ := decm_parts l h h0
  intro i hi
  have hil : i < l.length := by rcases hi with h | h <;> exact lt_of_get h
  have hge : n1 ≤ i := by
    rcases Nat.lt_or_ge i n1 with hlt | hge
    · obtain ⟨c, hc, hc2⟩ := hb i hlt
      exfalso
      rw [hc] at hi
      rcases hc2 with hc2 | rfl
      · have := not_e_dig c hc2; rcases hi with h | h <;> (injection h with h; simp_all)
      · rcases hi with h | h <;> (injection h with h; simp_all)
    · exact hge
  rcases dexp_parts l n1 hle hd with rfl | ⟨he, a, ha, hk, hal⟩
  · omega
  · rcases Nat.lt_or_ge i a with hia | hia
    · by_cases hs : l[n1 + 1]? = some 43 ∨ l[n1 + 1]? = some 45
      · rw [if_pos hs] at ha
        by_cases hin : i = n1
        · subst hin; exact ⟨by omega, fun _ => by omega⟩
        · have hin1 : i = n1 + 1 := by omega
          subst hin1
          exfalso
          rcases hs with h | h <;> rw [h] at hi <;> rcases hi with h | h <;> (injection h with h; simp_all)
      · rw [if_neg hs] at ha
        have hin : i = n1 := by omega
        subst hin
        exact ⟨by omega, fun h => absurd h hs⟩
    · obtain ⟨c, hc, hc2⟩ := digs_drop l a i hia (by omega)
      exfalso
      rw [hc] at hi
      have := not_e_dig c hc2; rcases hi with h | h <;> (injection h with h; simp_all)

/-- What each token is. -/
def TokOk (t : UInt8 × List UInt8) : Prop :=
  (t.1 = 97 ∧ t.2 ≠ [] ∧ lets t.2 = t.2.length) ∨ (t.1 = 49 ∧ t.2 ≠ [] ∧ decm t.2 = t.2.length) ∨ (isSign t.1 = true ∧ t.2 = [t.1])

theorem digs_take : ∀ (l : List UInt8) (n : Nat), digs (l.take n) = min n (digs l)
  | [], n => by simp [digs]
  | c :: l, n => by
    cases n with
    | zero => simp [digs]
    | succ n =>
      simp only [List.take_succ_cons, digs]
      rw [digs_take l n]
      split <;> omega
theorem lets_take : ∀ (l : List UInt8) (n : Nat), lets (l.take n) = min n (lets l)
  | [], n => by simp [lets]
  | c :: l, n => by
    cases n with
    | zero => simp [lets]
    | succ n =>
      simp only [List.take_succ_cons, lets]
      rw [lets_take l n]
      split <;> omega
theorem get_take (l : List UInt8) (n i : Nat) : (l.take n)[i]? = if i < n then l[i]? else none := by
  rw [List.getElem?_take]

theorem get_take_lt (l : List UInt8) {n i : Nat} (h : i < n) : (l.take n)[i]? = l[i]? := by rw [get_take, if_pos h]
theorem get_take_ge (l : List UInt8) {n i : Nat} (h : n ≤ i) : (l.take n)[i]? = none := by rw [get_take, if_neg (by omega)]

theorem dexp_take (l : List UInt8) (n1 : Nat) (h : n1 ≤ l.length) : dexp (l.take (dexp l n1)) n1 = dexp l n1 := by
  have hle := dexp_le l n1 h
  by_cases he : l[n1]? = some 101 ∨ l[n1]? = some 69
  · obtain ⟨a, ha⟩ : ∃ a, (if l[n1 + 1]? = some 43 ∨ l[n1 + 1]? = some 45 then n1 + 2 else n1 + 1) = a := ⟨_, rfl⟩
    have h1 : dexp l n1 = if 0 < digs (l.drop a) then a + digs (l.drop a) else n1 := by
      conv => lhs; unfold dexp
      rw [if_pos he]; dsimp only; rw [ha]
    by_cases hk : 0 < digs (l.drop a)
    · rw [if_pos hk] at h1
      rw [h1]
      have ha2 : n1 + 1 ≤ a := by rw [← ha]; split <;> omega
      conv => lhs; unfold dexp
      rw [get_take_lt l (show n1 < a + digs (l.drop a) by omega), if_pos he]
      dsimp only
      have hsame : (if (l.take (a + digs (l.drop a)))[n1 + 1]? = some 43 ∨ (l.take (a + digs (l.drop a)))[n1 + 1]? = some 45 then n1 + 2 else n1 + 1) = a := by
        rw [get_take_lt l (show n1 + 1 < a + digs (l.drop a) by omega)]; exact ha
      rw [hsame]
      have hd : digs ((l.take (a + digs (l.drop a))).drop a) = digs (l.drop a) := by
        rw [List.drop_take, digs_take]; omega
      rw [hd, if_pos hk]
    · rw [if_neg hk] at h1
      rw [h1]
      conv => lhs; unfold dexp
      rw [get_take_ge l (show n1 ≤ n1 from Nat.le_refl _)]
      simp
  · have h1 : dexp l n1 = n1 := by unfold dexp; rw [if_neg he]
    rw [h1]
    unfold dexp
    rw [get_take_ge l (show n1 ≤ n1 from Nat.le_refl _)]
    simp

theorem decm_take (l : List UInt8) : decm (l.take (decm l)) = decm l := by
  have hdl := digs_le l
  by_cases hd : l[digs l]? = some 46
  · have hlt := lt_of_get hd
    have hm := digs_le (l.drop (digs l + 1))
    simp at hm
    by_cases hz : digs l + digs (l.drop (digs l + 1)) = 0
    · have : decm l = 0 := by unfold decm; dsimp only; rw [if_pos hd, if_pos hz]
      rw [this]; rfl
    · have h1 : decm l = dexp l (digs l + 1 + digs (l.drop (digs l + 1))) := by
        conv => lhs; unfold decm
        dsimp only; rw [if_pos hd, if_neg hz]
      have hle := dexp_le l (digs l + 1 + digs (l.drop (digs l + 1))) (by omega)
      rw [h1]
      conv => lhs; unfold decm
      dsimp only
      have e1 : digs (l.take (dexp l (digs l + 1 + digs (l.drop (digs l + 1))))) = digs l := by rw [digs_take]; omega
      rw [e1, get_take_lt l (show digs l < dexp l (digs l + 1 + digs (l.drop (digs l + 1))) by omega), if_pos hd]
      have e2 : digs ((l.take (dexp l (digs l + 1 + digs (l.drop (digs l + 1))))).drop (digs l + 1)) = digs (l.drop (digs l + 1)) := by
        rw [List.drop_take, digs_take]; omega
      rw [e2, if_neg hz, dexp_take l _ (by omega)]
  · by_cases hz : digs l = 0
    · have : decm l = 0 := by unfold decm; dsimp only; rw [if_neg hd, if_pos hz]
      rw [this]; rfl
    · have h1 : decm l = dexp l (digs l) := by
        conv => lhs; unfold decm
        dsimp only; rw [if_neg hd, if_neg hz]
      have hle := dexp_le l (digs l) hdl
      rw [h1]
      conv => lhs; unfold decm
      dsimp only
      have e1 : digs (l.take (dexp l (digs l))) = digs l := by rw [digs_take]; omega
      rw [e1]
      have e3 : ¬ (l.take (dexp l (digs l)))[digs l]? = some 46 := by
        rw [get_take]; split
        · exact hd
        · simp
      rw [if_neg e3, if_neg hz, dexp_take l _ hdl]

theorem toksF_ok : ∀ (k : Nat) (j : Bool) (l : List UInt8) (T : List (UInt8 × List UInt8)), toksF k j l = some T → ∀ t ∈ T, TokOk t := by
  intro k
  induction k with
  | zero =>
    intro j l T h t ht
    cases l with
    | nil => simp [toksF] at h; subst h; simp at ht
    | cons c r => simp [toksF] at h
  | succ k ih =>
    intro j l T h t ht
    cases l with
    | nil => simp [toksF] at h; subst h; simp at ht
    | cons c r =>
      simp only [toksF] at h
      by_cases hb : isBlank c = true
      · rw [if_pos hb] at h; exact ih _ _ _ h t ht
      · rw [if_neg hb] at h
        by_cases hs : isSign c = true
        · rw [if_pos hs] at h
          split at h
          · cases h
          · obtain ⟨T', h1, rfl⟩ := Option.map_eq_some_iff.1 h
            rcases List.mem_cons.1 ht with rfl | ht
            · exact .inr (.inr ⟨hs, rfl⟩)
            · exact ih _ _ _ h1 t ht
        · rw [if_neg hs] at h
          by_cases hl : isLet c = true
          · rw [if_pos hl] at h
            split at h
            · cases h
            · obtain ⟨T', h1, rfl⟩ := Option.map_eq_some_iff.1 h
              rcases List.mem_cons.1 ht with rfl | ht
              · refine .inl ⟨rfl, ?_, ?_⟩
                · have : 0 < lets (c :: r) := by simp [lets, hl]
                  intro e
                  have e2 := congrArg List.length e
                  simp at e2; omega
                · have := lets_le (c :: r)
                  rw [lets_take, List.length_take]; omega
              · exact ih _ _ _ h1 t ht
          · rw [if_neg hl] at h
            by_cases hd : decm (c :: r) = 0 ∨ j = true
            · rw [if_pos hd] at h; cases h
            · rw [if_neg hd] at h
              obtain ⟨T', h1, rfl⟩ := Option.map_eq_some_iff.1 h
              rcases List.mem_cons.1 ht with rfl | ht
              · have hle := decm_le (c :: r)
                refine .inr (.inl ⟨rfl, ?_, ?_⟩)
                · intro e
                  have e2 := congrArg List.length e
                  simp at e2; omega
                · dsimp only; rw [decm_take, List.length_take]; omega
              · exact ih _ _ _ h1 t ht
theorem toks_ok {j : Bool} {l : List UInt8} {T : List (UInt8 × List UInt8)} (h : toks j l = some T) : ∀ t ∈ T, TokOk t := toksF_ok _ _ _ _ h
end Go.Proofs.YtblpcpkkjbkakaaGreatDoor
