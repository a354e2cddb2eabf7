/- Lemmas towards the seat's laws: 4 texts joined. -/
import Derived.WalkKit
import Derived.Test.YtblpcpkkjbkakaaGreatDoorProg
import Derived.WalkSpells
import Derived.WalkLawsBesides
import Derived.BigQuiet
import Derived.Deep.QuietTactic
import Derived.Deep.LoopGhost
import Derived.Deep.DeepCutAuto
import Derived.Deep.CutBlock
import Derived.Deep.Light
import Derived.StillTailTactics
import Derived.Lib.Hide
import Derived.KernelRfl
import Derived.Lib.BufferAt
import Derived.Lib.LazyBuf
/- The plain law of the texts' tokens: no program in sight. -/
namespace Go.Proofs.YtblpcpkkjbkakaaGreatDoor
set_option linter.unusedVariables false
set_option linter.unusedSimpArgs false

def isDig (c : UInt8) : Bool := 48 ≤ c && c ≤ 57
def isLet (c : UInt8) : Bool := (97 ≤ c && c ≤ 122) || (65 ≤ c && c ≤ 90)
def isBlank (c : UInt8) : Bool := c == 32 || c == 9 || c == 10 || c == 13
def isSign (c : UInt8) : Bool := c == 40 || c == 41 || c == 44 || c == 45

def digs : List UInt8 → Nat
  | [] => 0
  | c :: l => if isDig c then digs l + 1 else 0
def lets : List UInt8 → Nat
  | [] => 0
  | c :: l => if isLet c then lets l + 1 else 0

def dexp (l : List UInt8) (n : Nat) : Nat :=
  if l[n]? = some 101 ∨ l[n]? = some 69 then
    let at1 := if l[n + 1]? = some 43 ∨ l[n + 1]? = some 45 then n + 2 else n + 1
    let k := digs (l.drop at1)
    if 0 < k then at1 + k else n
  else n
def decm (l : List UInt8) : Nat :=
  let n := digs l
  if l[n]? = some 46 then
    let more := digs (l.drop (n + 1))
    if n + more = 0 then 0 else dexp l (n + 1 + more)
  else if n = 0 then 0 else dexp l n

theorem digs_le (l : List UInt8) : digs l ≤ l.length := by
  induction l with
  | nil => simp [digs]
  | cons c l ih => simp only [digs]; split <;> simp <;> omega
theorem lets_le (l : List UInt8) : lets l ≤ l.length := by
  induction l with
  | nil => simp [lets]
  | cons c l ih => simp only [lets]; split <;> simp <;> omega

theorem lt_of_get {l : List UInt8} {n : Nat} {c : UInt8} (h : l[n]? = some c) : n < l.length := (List.getElem?_eq_some_iff.1 h).1

theorem dexp_le (l : List UInt8) (n : Nat) (h : n ≤ l.length) : n ≤ dexp l n ∧ dexp l n ≤ l.length := by
  unfold dexp
  split
  · rename_i he
    have hn : n < l.length := by rcases he with h | h <;> exact lt_of_get h
    dsimp only
    have hk (m : Nat) (hm : m ≤ l.length) : m + digs (l.drop m) ≤ l.length := by have := digs_le (l.drop m); simp at this; omega
    by_cases hs : l[n + 1]? = some 43 ∨ l[n + 1]? = some 45
    · have hn1 : n + 1 < l.length := by rcases hs with h | h <;> exact lt_of_get h
      rw [if_pos hs]
      have := hk (n + 2) (by omega)
      split <;> omega
    · rw [if_neg hs]
      have := hk (n + 1) (by omega)
      split <;> omega
  · omega

theorem decm_le (l : List UInt8) : decm l ≤ l.length := by
  unfold decm
  have h1 := digs_le l
  dsimp only
  split
  · rename_i h
    have h2 := lt_of_get h
    have h3 := digs_le (l.drop (digs l + 1))
    simp at h3
    split
    · omega
    · exact (dexp_le l _ (by omega)).2
  · split
    · omega
    · exact (dexp_le l _ h1).2

/-- The tokens of a text, each with its kind (97: a word, 49: a decimal, else a sign), or nothing. -/
def toksF : Nat → Bool → List UInt8 → Option (List (UInt8 × List UInt8))
  | _, _, [] => some []
  | 0, _, _ => none
  | k + 1, j, c :: r =>
    if isBlank c then toksF k false r
    else if isSign c then (if c = 45 ∧ j = true then none else (toksF k false r).map ((c, [c]) :: ·))
    else if isLet c then (if j then none else (toksF k true ((c :: r).drop (lets (c :: r)))).map ((97, (c :: r).take (lets (c :: r))) :: ·))
    else if decm (c :: r) = 0 ∨ j = true then none
    else (toksF k true ((c :: r).drop (decm (c :: r)))).map ((49, (c :: r).take (decm (c :: r))) :: ·)
def toks (j : Bool) (l : List UInt8) : Option (List (UInt8 × List UInt8)) := toksF l.length j l

theorem toksF_more : ∀ (k m : Nat) (j : Bool) (l : List UInt8), l.length ≤ k → k ≤ m → toksF m j l = toksF k j l := by
  intro k
  induction k with
  | zero => intro m j l h1 _; have : l = [] := List.eq_nil_of_length_eq_zero (by omega); subst this; cases m <;> rfl
  | succ k ih =>
    intro m j l h1 h2
    obtain ⟨m, rfl⟩ : ∃ q, m = q + 1 := ⟨m - 1, by omega⟩
    cases l with
    | nil => rfl
    | cons c r =>
      simp only [List.length_cons] at h1
      simp only [toksF]
      rw [ih m false r (by omega) (by omega)]
      by_cases hb : isBlank c = true
      · rw [if_pos hb, if_pos hb]
      · rw [if_neg hb, if_neg hb]
        by_cases hs : isSign c = true
        · rw [if_pos hs, if_pos hs]
        · rw [if_neg hs, if_neg hs]
          by_cases hl : isLet c = true
          · rw [if_pos hl, if_pos hl]
            have h0 : 0 < lets (c :: r) := by simp [lets, hl]
            rw [ih m true _ (by simp; omega) (by omega)]
          · rw [if_neg hl, if_neg hl]
            by_cases hd : decm (c :: r) = 0
            · rw [if_pos (Or.inl hd), if_pos (Or.inl hd)]
            · rw [ih m true ((c :: r).drop (decm (c :: r))) (by simp; omega) (by omega)]

theorem toks_nil (j : Bool) : toks j [] = some [] := rfl
theorem toks_blank (j : Bool) (c : UInt8) (r : List UInt8) (h : isBlank c = true) : toks j (c :: r) = toks false r := by
  unfold toks; simp only [List.length_cons, toksF, h, if_true]
theorem toks_sign (j : Bool) (c : UInt8) (r : List UInt8) (hb : isBlank c = false) (h : isSign c = true) :
    toks j (c :: r) = if c = 45 ∧ j = true then none else (toks false r).map ((c, [c]) :: ·) := by
  unfold toks; simp only [List.length_cons, toksF, hb, h, if_true, Bool.false_eq_true, if_false]
theorem toks_word (j : Bool) (c : UInt8) (r : List UInt8) (hb : isBlank c = false) (hs : isSign c = false) (h : isLet c = true) :
    toks j (c :: r) = if j then none else (toks true ((c :: r).drop (lets (c :: r)))).map ((97, (c :: r).take (lets (c :: r))) :: ·) := by
  have h0 : 0 < lets (c :: r) := by simp [lets, h]
  unfold toks
  rw [← toksF_more _ r.length true ((c :: r).drop (lets (c :: r))) (Nat.le_refl _) (by simp; omega)]
  simp only [List.length_cons, toksF, hb, hs, h, if_true, Bool.false_eq_true, if_false]
theorem toks_num (j : Bool) (c : UInt8) (r : List UInt8) (hb : isBlank c = false) (hs : isSign c = false) (h : isLet c = false) :
    toks j (c :: r) = if decm (c :: r) = 0 ∨ j = true then none else (toks true ((c :: r).drop (decm (c :: r)))).map ((49, (c :: r).take (decm (c :: r))) :: ·) := by
  by_cases hd : decm (c :: r) = 0
  · unfold toks; simp [toksF, hb, hs, h, hd]
  · unfold toks
    rw [← toksF_more _ r.length true ((c :: r).drop (decm (c :: r))) (Nat.le_refl _) (by simp; omega)]
    simp only [List.length_cons, toksF, hb, hs, h, Bool.false_eq_true, if_false]

/-- A decimal has a 0 ahead of another digit. -/
def padd (l : List UInt8) : Bool :=
  (1 < l.length && l[0]? == some 48 && 0 < digs (l.drop 1)) ||
  match l.findIdx? (fun c => c == 101 || c == 69) with
  | none => false
  | some i =>
    let a := if l[i + 1]? = some 43 ∨ l[i + 1]? = some 45 then i + 2 else i + 1
    l[a]? == some 48 && a + 1 < l.length

/-- What stands at place k of a text and behind. -/
theorem drop_at (s : ByteArray) (k : Nat) (h : k < s.size) : s.data.toList.drop k = s[k] :: s.data.toList.drop (k + 1) := by
  rw [List.drop_eq_getElem_cons (by simpa using h)]; rfl
theorem drop_end (s : ByteArray) (k : Nat) (h : s.size ≤ k) : s.data.toList.drop k = [] := List.drop_eq_nil_of_le (by simpa using h)
theorem get_at (s : ByteArray) (k : Nat) (h : k < s.size) : s.data.toList[k]? = some s[k] := by
  rw [List.getElem?_eq_getElem (by simpa using h)]; rfl
theorem get_end (s : ByteArray) (k : Nat) (h : s.size ≤ k) : s.data.toList[k]? = none := List.getElem?_eq_none (by simpa using h)

theorem isDig_iff (c : UInt8) : isDig c = true ↔ (48 : Int) ≤ (c.toNat : Int) ∧ (c.toNat : Int) ≤ 57 := by
  unfold isDig; simp [UInt8.le_iff_toNat_le]; omega
theorem isLet_iff (c : UInt8) : isLet c = true ↔ ((97 : Int) ≤ (c.toNat : Int) ∧ (c.toNat : Int) ≤ 122) ∨ ((65 : Int) ≤ (c.toNat : Int) ∧ (c.toNat : Int) ≤ 90) := by
  unfold isLet; simp [UInt8.le_iff_toNat_le]; omega
theorem byte_eq (c d : UInt8) : c = d ↔ (c.toNat : Int) = (d.toNat : Int) := by
  rw [← UInt8.toNat_inj]; omega
theorem isBlank_iff (c : UInt8) : isBlank c = true ↔ (c.toNat : Int) = 32 ∨ (c.toNat : Int) = 9 ∨ (c.toNat : Int) = 10 ∨ (c.toNat : Int) = 13 := by
  unfold isBlank
  simp only [Bool.or_eq_true, beq_iff_eq, byte_eq]
  simp; omega
theorem isSign_iff (c : UInt8) : isSign c = true ↔ (c.toNat : Int) = 40 ∨ (c.toNat : Int) = 41 ∨ (c.toNat : Int) = 44 ∨ (c.toNat : Int) = 45 := by
  unfold isSign
  simp only [Bool.or_eq_true, beq_iff_eq, byte_eq]
  simp; omega
theorem extract_drop (s : ByteArray) (k : Nat) : (s.extract k s.size).data.toList = s.data.toList.drop k := by
  simp [ByteArray.data_extract, Array.toList_extract]
  exact List.take_of_length_le (by simp)

/-- Behind each an e of a decimal stands what its exponent wants. -/
def ExpOk (l : List UInt8) : Prop := ∀ i, (l[i]? = some 101 ∨ l[i]? = some 69) → i + 1 < l.length ∧ ((l[i + 1]? = some 43 ∨ l[i + 1]? = some 45) → i + 2 < l.length)

theorem digs_dig : ∀ (l : List UInt8) (i : Nat), i < digs l → ∃ c, l[i]? = some c ∧ isDig c = true
  | [], i, h => by simp [digs] at h
  | c :: l, i, h => by
    by_cases hc : isDig c = true
    · simp only [digs, hc, if_true] at h
      cases i with
      | zero => exact ⟨c, rfl, hc⟩
      | succ i => obtain ⟨d, h1, h2⟩ := digs_dig l i (by omega); exact ⟨d, by simpa using h1, h2⟩
    · simp [digs, hc] at h
theorem digs_end : ∀ (l : List UInt8) (c : UInt8), l[digs l]? = some c → isDig c = false
  | [], c, h => by simp at h
  | d :: l, c, h => by
    by_cases hd : isDig d = true
    · simp only [digs, hd, if_true] at h; exact digs_end l c (by simpa using h)
    · simp only [digs, hd] at h; simp at h; subst h; simpa using hd
theorem digs_drop (l : List UInt8) (m i : Nat) (h1 : m ≤ i) (h2 : i < m + digs (l.drop m)) : ∃ c, l[i]? = some c ∧ isDig c = true := by
  obtain ⟨c, hc, hd⟩ := digs_dig (l.drop m) (i - m) (by omega)
  refine ⟨c, ?_, hd⟩
  rw [List.getElem?_drop] at hc
  rwa [show m + (i - m) = i by omega] at hc
theorem not_e_dig (c : UInt8) (h : isDig c = true) : c ≠ 101 ∧ c ≠ 69 ∧ c ≠ 43 ∧ c ≠ 45 ∧ c ≠ 46 := by
  refine ⟨?_, ?_, ?_, ?_, ?_⟩ <;> (rintro rfl; simp [isDig] at h)

/-- How a decimal of a whole list is made: the place n1 of its exponent. -/
theorem decm_parts (l : List UInt8) (h : decm l = l.length) (h0 : l ≠ []) :
    ∃ n1, 0 < n1 ∧ n1 ≤ l.length ∧ dexp l n1 = l.length ∧ (∀ i, i < n1 → ∃ c, l[i]? = some c ∧ (isDig c = true ∨ c = 46)) := by
  have hp : 0 < l.length := List.length_pos_iff.2 h0
  have hdl := digs_le l
  unfold decm at h
  dsimp only at h
  by_cases hd : l[digs l]? = some 46
  · rw [if_pos hd] at h
    have hlt := lt_of_get hd
    have hm := digs_le (l.drop (digs l + 1))
    simp at hm
    by_cases hz : digs l + digs (l.drop (digs l + 1)) = 0
    · rw [if_pos hz] at h; omega
    · rw [if_neg hz] at h
      refine ⟨digs l + 1 + digs (l.drop (digs l + 1)), by omega, by omega, h, fun i hi => ?_⟩
      rcases Nat.lt_trichotomy i (digs l) with h1 | h1 | h1
      · obtain ⟨c, a, b⟩ := digs_dig l i h1; exact ⟨c, a, .inl b⟩
      · subst h1; exact ⟨46, hd, .inr rfl⟩
      · obtain ⟨c, a, b⟩ := digs_drop l (digs l + 1) i (by omega) (by omega); exact ⟨c, a, .inl b⟩
  · rw [if_neg hd] at h
    by_cases hz : digs l = 0
    · rw [if_pos hz] at h; omega
    · rw [if_neg hz] at h
      exact ⟨digs l, by omega, hdl, h, fun i hi => by obtain ⟨c, a, b⟩ := digs_dig l i hi; exact ⟨c, a, .inl b⟩⟩

theorem dexp_parts (l : List UInt8) (n1 : Nat) (h1 : n1 ≤ l.length) (h : dexp l n1 = l.length) :
    n1 = l.length ∨ ((l[n1]? = some 101 ∨ l[n1]? = some 69) ∧ ∃ a, (a = if l[n1 + 1]? = some 43 ∨ l[n1 + 1]? = some 45 then n1 + 2 else n1 + 1) ∧ 0 < digs (l.drop a) ∧ a + digs (l.drop a) = l.length) := by
  unfold dexp at h
  by_cases he : l[n1]? = some 101 ∨ l[n1]? = some 69
  · rw [if_pos he] at h
    dsimp only at h
    by_cases hk : 0 < digs (l.drop (if l[n1 + 1]? = some 43 ∨ l[n1 + 1]? = some 45 then n1 + 2 else n1 + 1))
    · rw [if_pos hk] at h
      exact .inr ⟨he, _, rfl, hk, h⟩
    · rw [if_neg hk] at h; exact .inl h
  · rw [if_neg he] at h; exact .inl h

theorem expOk_of_decm (l : List UInt8) (h : decm l = l.length) (h0 : l ≠ []) : ExpOk l := by
  obtain ⟨n1, hp, hle, hd, hb⟩ := decm_parts l h h0
  intro i hi
  have hil : i < l.length := by rcases hi with h | h <;> exact lt_of_get h
  have hge : n1 ≤ i := by
    rcases Nat.lt_or_ge i n1 with hlt | hge
    · obtain ⟨c, hc, hc2⟩ := hb i hlt
      exfalso
      rw [hc] at hi
      rcases hc2 with hc2 | rfl
      · have := not_e_dig c hc2; rcases hi with h | h <;> (injection h with h; simp_all)
      · rcases hi with h | h <;> (injection h with h; simp_all)
    · exact hge
  rcases dexp_parts l n1 hle hd with rfl | ⟨he, a, ha, hk, hal⟩
  · omega
  · rcases Nat.lt_or_ge i a with hia | hia
    · by_cases hs : l[n1 + 1]? = some 43 ∨ l[n1 + 1]? = some 45
      · rw [if_pos hs] at ha
        by_cases hin : i = n1
        · subst hin; exact ⟨by omega, fun _ => by omega⟩
        · have hin1 : i = n1 + 1 := by omega
          subst hin1
          exfalso
          rcases hs with h | h <;> rw [h] at hi <;> rcases hi with h | h <;> (injection h with h; simp_all)
      · rw [if_neg hs] at ha
        have hin : i = n1 := by omega
        subst hin
        exact ⟨by omega, fun h => absurd h hs⟩
    · obtain ⟨c, hc, hc2⟩ := digs_drop l a i hia (by omega)
      exfalso
      rw [hc] at hi
      have := not_e_dig c hc2; rcases hi with h | h <;> (injection h with h; simp_all)

/-- What each token is. -/
def TokOk (t : UInt8 × List UInt8) : Prop :=
  (t.1 = 97 ∧ t.2 ≠ [] ∧ lets t.2 = t.2.length) ∨ (t.1 = 49 ∧ t.2 ≠ [] ∧ decm t.2 = t.2.length) ∨ (isSign t.1 = true ∧ t.2 = [t.1])

theorem digs_take : ∀ (l : List UInt8) (n : Nat), digs (l.take n) = min n (digs l)
  | [], n => by simp [digs]
  | c :: l, n => by
    cases n with
    | zero => simp [digs]
    | succ n =>
      simp only [List.take_succ_cons, digs]
      rw [digs_take l n]
      split <;> omega
theorem lets_take : ∀ (l : List UInt8) (n : Nat), lets (l.take n) = min n (lets l)
  | [], n => by simp [lets]
  | c :: l, n => by
    cases n with
    | zero => simp [lets]
    | succ n =>
      simp only [List.take_succ_cons, lets]
      rw [lets_take l n]
      split <;> omega
theorem get_take (l : List UInt8) (n i : Nat) : (l.take n)[i]? = if i < n then l[i]? else none := by
  rw [List.getElem?_take]

theorem get_take_lt (l : List UInt8) {n i : Nat} (h : i < n) : (l.take n)[i]? = l[i]? := by rw [get_take, if_pos h]
theorem get_take_ge (l : List UInt8) {n i : Nat} (h : n ≤ i) : (l.take n)[i]? = none := by rw [get_take, if_neg (by omega)]

theorem dexp_take (l : List UInt8) (n1 : Nat) (h : n1 ≤ l.length) : dexp (l.take (dexp l n1)) n1 = dexp l n1 := by
  have hle := dexp_le l n1 h
  by_cases he : l[n1]? = some 101 ∨ l[n1]? = some 69
  · obtain ⟨a, ha⟩ : ∃ a, (if l[n1 + 1]? = some 43 ∨ l[n1 + 1]? = some 45 then n1 + 2 else n1 + 1) = a := ⟨_, rfl⟩
    have h1 : dexp l n1 = if 0 < digs (l.drop a) then a + digs (l.drop a) else n1 := by
      conv => lhs; unfold dexp
      rw [if_pos he]; dsimp only; rw [ha]
    by_cases hk : 0 < digs (l.drop a)
    · rw [if_pos hk] at h1
      rw [h1]
      have ha2 : n1 + 1 ≤ a := by rw [← ha]; split <;> omega
      conv => lhs; unfold dexp
      rw [get_take_lt l (show n1 < a + digs (l.drop a) by omega), if_pos he]
      dsimp only
      have hsame : (if (l.take (a + digs (l.drop a)))[n1 + 1]? = some 43 ∨ (l.take (a + digs (l.drop a)))[n1 + 1]? = some 45 then n1 + 2 else n1 + 1) = a := by
        rw [get_take_lt l (show n1 + 1 < a + digs (l.drop a) by omega)]; exact ha
      rw [hsame]
      have hd : digs ((l.take (a + digs (l.drop a))).drop a) = digs (l.drop a) := by
        rw [List.drop_take, digs_take]; omega
      rw [hd, if_pos hk]
    · rw [if_neg hk] at h1
      rw [h1]
      conv => lhs; unfold dexp
      rw [get_take_ge l (show n1 ≤ n1 from Nat.le_refl _)]
      simp
  · have h1 : dexp l n1 = n1 := by unfold dexp; rw [if_neg he]
    rw [h1]
    unfold dexp
    rw [get_take_ge l (show n1 ≤ n1 from Nat.le_refl _)]
    simp

theorem decm_take (l : List UInt8) : decm (l.take (decm l)) = decm l := by
  have hdl := digs_le l
  by_cases hd : l[digs l]? = some 46
  · have hlt := lt_of_get hd
    have hm := digs_le (l.drop (digs l + 1))
    simp at hm
    by_cases hz : digs l + digs (l.drop (digs l + 1)) = 0
    · have : decm l = 0 := by unfold decm; dsimp only; rw [if_pos hd, if_pos hz]
      rw [this]; rfl
    · have h1 : decm l = dexp l (digs l + 1 + digs (l.drop (digs l + 1))) := by
        conv => lhs; unfold decm
        dsimp only; rw [if_pos hd, if_neg hz]
      have hle := dexp_le l (digs l + 1 + digs (l.drop (digs l + 1))) (by omega)
      rw [h1]
      conv => lhs; unfold decm
      dsimp only
      have e1 : digs (l.take (dexp l (digs l + 1 + digs (l.drop (digs l + 1))))) = digs l := by rw [digs_take]; omega
      rw [e1, get_take_lt l (show digs l < dexp l (digs l + 1 + digs (l.drop (digs l + 1))) by omega), if_pos hd]
      have e2 : digs ((l.take (dexp l (digs l + 1 + digs (l.drop (digs l + 1))))).drop (digs l + 1)) = digs (l.drop (digs l + 1)) := by
        rw [List.drop_take, digs_take]; omega
      rw [e2, if_neg hz, dexp_take l _ (by omega)]
  · by_cases hz : digs l = 0
    · have : decm l = 0 := by unfold decm; dsimp only; rw [if_neg hd, if_pos hz]
      rw [this]; rfl
    · have h1 : decm l = dexp l (digs l) := by
        conv => lhs; unfold decm
        dsimp only; rw [if_neg hd, if_neg hz]
      have hle := dexp_le l (digs l) hdl
      rw [h1]
      conv => lhs; unfold decm
      dsimp only
      have e1 : digs (l.take (dexp l (digs l))) = digs l := by rw [digs_take]; omega
      rw [e1]
      have e3 : ¬ (l.take (dexp l (digs l)))[digs l]? = some 46 := by
        rw [get_take]; split
        · exact hd
        · simp
      rw [if_neg e3, if_neg hz, dexp_take l _ hdl]

theorem toksF_ok : ∀ (k : Nat) (j : Bool) (l : List UInt8) (T : List (UInt8 × List UInt8)), toksF k j l = some T → ∀ t ∈ T, TokOk t := by
  intro k
  induction k with
  | zero =>
    intro j l T h t ht
    cases l with
    | nil => simp [toksF] at h; subst h; simp at ht
    | cons c r => simp [toksF] at h
  | succ k ih =>
    intro j l T h t ht
    cases l with
    | nil => simp [toksF] at h; subst h; simp at ht
    | cons c r =>
      simp only [toksF] at h
      by_cases hb : isBlank c = true
      · rw [if_pos hb] at h; exact ih _ _ _ h t ht
      · rw [if_neg hb] at h
        by_cases hs : isSign c = true
        · rw [if_pos hs] at h
          split at h
          · cases h
          · obtain ⟨T', h1, rfl⟩ := Option.map_eq_some_iff.1 h
            rcases List.mem_cons.1 ht with rfl | ht
            · exact .inr (.inr ⟨hs, rfl⟩)
            · exact ih _ _ _ h1 t ht
        · rw [if_neg hs] at h
          by_cases hl : isLet c = true
          · rw [if_pos hl] at h
            split at h
            · cases h
            · obtain ⟨T', h1, rfl⟩ := Option.map_eq_some_iff.1 h
              rcases List.mem_cons.1 ht with rfl | ht
              · refine .inl ⟨rfl, ?_, ?_⟩
                · have : 0 < lets (c :: r) := by simp [lets, hl]
                  intro e
                  have e2 := congrArg List.length e
                  simp at e2; omega
                · have := lets_le (c :: r)
                  rw [lets_take, List.length_take]; omega
              · exact ih _ _ _ h1 t ht
          · rw [if_neg hl] at h
            by_cases hd : decm (c :: r) = 0 ∨ j = true
            · rw [if_pos hd] at h; cases h
            · rw [if_neg hd] at h
              obtain ⟨T', h1, rfl⟩ := Option.map_eq_some_iff.1 h
              rcases List.mem_cons.1 ht with rfl | ht
              · have hle := decm_le (c :: r)
                refine .inr (.inl ⟨rfl, ?_, ?_⟩)
                · intro e
                  have e2 := congrArg List.length e
                  simp at e2; omega
                · dsimp only; rw [decm_take, List.length_take]; omega
              · exact ih _ _ _ h1 t ht
theorem toks_ok {j : Bool} {l : List UInt8} {T : List (UInt8 × List UInt8)} (h : toks j l = some T) : ∀ t ∈ T, TokOk t := toksF_ok _ _ _ _ h
end Go.Proofs.YtblpcpkkjbkakaaGreatDoor
/- The walks of the reference's small functions on texts. -/
namespace Go.Proofs.YtblpcpkkjbkakaaGreatDoor
open Go Go.RowKit
set_option linter.unusedVariables false
set_option linter.unusedSimpArgs false

theorem ret_int {k : IntKind} {a b : Int} (h : a = b) : Ending.returned (.int k a) = .returned (.int k b) := by rw [h]
theorem ret_bool {a b : Bool} (h : a = b) : Ending.returned (.bool a) = .returned (.bool b) := by rw [h]

set_option maxHeartbeats 400000 in
theorem isLetter_any (c : UInt8) (w : World) :
    Calls Tryz.prog 38 #[.int .u8 c.toNat] w fun e w' => e = .returned (.bool (isLet c)) ∧ w = w' := by
  have hi := isLet_iff c
  have HI := Lib.hid hi
  clear hi
  go_enter Tryz.func38, Tryz.ntmps38
  go_wp2
  all_goals
    go_ret
    have hi := HI.out
    refine ⟨ret_bool ?_, rfl⟩
    rw [Bool.eq_iff_iff, hi]
    simp
    omega

set_option maxHeartbeats 400000 in
theorem digits_any (s : ByteArray) (w : World) (hs : s.size ≤ 1000000) :
    Calls Tryz.prog 40 #[.string s] w fun e w' => e = .returned (.int .i64 (digs s.data.toList)) ∧ w = w' := by
  go_enter Tryz.func40, Tryz.ntmps40
  go_wp2
  go_loop [3] (fun i => ∃ k : Nat, k ≤ s.size ∧ digs s.data.toList = k + digs (s.data.toList.drop k) ∧ i = .int .i64 k) (fun i => s.size - (intOf i).toNat)
  case atStart => exact ⟨0, Nat.zero_le _, by simp, rfl⟩
  case round =>
    obtain ⟨k, hk, hd, rfl⟩ := hrel
    have HD := Lib.hid hd
    clear hd
    by_cases hlt : k < s.size
    · by_cases hg : isDig s[k] = true
      · obtain ⟨h1, h2⟩ := (isDig_iff _).1 hg
        have HG := Lib.hid hg
        clear hg
        go_wp2
        go_round
        case rel => exact ⟨k + 1, by omega, by rw [HD.out, drop_at s k hlt]; simp only [digs, HG.out, if_true]; omega, by go_num⟩
        case measure => simp [intOf]; omega
      · have hn : digs (s.data.toList.drop k) = 0 := by rw [drop_at s k hlt]; simp [digs, hg]
        have HN := Lib.hid hn
        have HG := Lib.hid (fun h => hg ((isDig_iff _).2 h))
        clear hg hn
        go_wp2
        · exact (HG.out ⟨by assumption, by assumption⟩).elim
        all_goals
          go_ret
          exact ⟨ret_int (by rw [HD.out, HN.out]; simp), rfl⟩
    · have hn : digs (s.data.toList.drop k) = 0 := by rw [drop_end s k (by omega)]; rfl
      have HN := Lib.hid hn
      clear hn
      go_wp2
      go_ret
      exact ⟨ret_int (by rw [HD.out, HN.out]; simp), rfl⟩

theorem size_ext (s : ByteArray) (a : Nat) : (s.extract a s.size).size = s.size - a := by simp
theorem digits_n (s : ByteArray) (w : World) (hs : s.size ≤ 1000000) (n : Nat) (h : digs s.data.toList = n) :
    Calls Tryz.prog 40 #[.string s] w fun e w' => e = .returned (.int .i64 n) ∧ w = w' := h ▸ digits_any s w hs
theorem digits_d (s : ByteArray) (w : World) (hs : s.size ≤ 1000000) (m n : Nat) (h : digs (s.data.toList.drop m) = n) :
    Calls Tryz.prog 40 #[.string (s.extract m s.size)] w fun e w' => e = .returned (.int .i64 n) ∧ w = w' :=
  digits_n _ w (by simp; omega) n (by rw [extract_drop]; exact h)
theorem beq_lit (c : UInt8) (k : Nat) (h : k < 256) : ((c.toNat : Int) == (k : Int)) = (c == UInt8.ofNat k) := by
  rw [Bool.eq_iff_iff]; simp only [beq_iff_eq]
  constructor
  · intro e; apply UInt8.toNat_inj.1; simp; omega
  · intro e; subst e; simp; omega
theorem get_beq (s : ByteArray) (n k : Nat) (h : n < s.size) (hk : k < 256) : ((s[n].toNat : Int) == (k : Int)) = (s.data.toList[n]? == some (UInt8.ofNat k)) := by
  rw [get_at s n h, beq_lit _ _ hk]; rfl

set_option maxRecDepth 100000 in
set_option maxHeartbeats 1000000 in
theorem decimal_any (s : ByteArray) (w : World) (hs : s.size ≤ 1000000) :
    Calls Tryz.prog 39 #[.string s] w fun e w' => e = .returned (.int .i64 (decm s.data.toList)) ∧ w = w' := by
  obtain ⟨n, hn⟩ : ∃ n, digs s.data.toList = n := ⟨_, rfl⟩
  have hnl : n ≤ s.size := by have := digs_le s.data.toList; simp at this; omega
  have hm (m : Nat) : digs (s.data.toList.drop m) ≤ s.size - m := by have := digs_le (s.data.toList.drop m); simpa using this
  obtain ⟨m, hmm⟩ : ∃ m, digs (s.data.toList.drop (n + 1)) = m := ⟨_, rfl⟩
  have hml : m ≤ s.size - (n + 1) := hmm ▸ hm _
  have HN := Lib.hid hn; have HM := Lib.hid hm; have HMM := Lib.hid hmm; clear hn hm hmm
  go_enter Tryz.func39, Tryz.ntmps39
  go_upto_region 3 with (go_at_call 40; refine (digits_n _ _ hs n HN.out).mono ?_; rintro e w' ⟨rfl, rfl⟩)
  go_cut [20] (fun c wx => ∃ b : Bool, c = .bool b ∧ RowKit.Hid ((s.data.toList[n]? == some 46) = b) ∧ w = wx)
  case first =>
    by_cases hlt : n < s.size
    · have hg := Lib.hid (get_beq s n 46 hlt (by omega))
      go_wp2
      all_goals (go_meet; case rel => exact ⟨_, rfl, hg.out.symm, rfl⟩)
    · have hg := Lib.hid (get_end s n (by omega))
      go_wp2
      all_goals (go_meet; case rel => exact ⟨_, rfl, (by rw [hg.out]; rfl : (_ == _) = false), rfl⟩)
  case rest =>
    obtain ⟨b, rfl, HB, rfl⟩ := hcut
    go_upto_if 20 with fail
    go_cut [3] (fun c wx => ∃ p : Nat, c = .int .i64 p ∧ p ≤ s.size ∧ RowKit.Hid (decm s.data.toList = if p = 0 then 0 else dexp s.data.toList p) ∧ w = wx)
    case first =>
      cases b with
      | true =>
        have hd : s.data.toList[n]? = some 46 := by have := HB.out; simpa using this
        have hlt : n < s.size := by have := lt_of_get hd; simpa using this
        have HD := Lib.hid hd; clear hd
        by_cases h0 : n + m = 0
        · go_wp2_with (go_at_call 40; refine (digits_d s _ hs _ m HMM.out).mono ?_; rintro e w' ⟨rfl, rfl⟩)
          go_ret
          exact ⟨ret_int (by have h1 := HD.out; have h2 := HN.out; have h3 := HMM.out; unfold decm; simp only [h2, h1, h3, if_true, h0]; rfl), rfl⟩
        · go_wp2_with (go_at_call 40; refine (digits_d s _ hs _ m HMM.out).mono ?_; rintro e w' ⟨rfl, rfl⟩)
          go_meet
          case rel =>
            go_light
            refine ⟨n + (1 + m), by go_num, by omega, ?_, rfl⟩
            have h1 := HD.out; have h2 := HN.out; have h3 := HMM.out
            show _ = _
            unfold decm; simp only [h2, h1, h3, if_true, h0, if_false]
            rw [if_neg (by omega), Nat.add_assoc]
      | false =>
        have hd : ¬ s.data.toList[n]? = some 46 := by have := HB.out; simpa using this
        have HD := Lib.hid hd; clear hd
        go_wp2_with fail
        go_meet
        case rel =>
          go_light
          refine ⟨n, rfl, hnl, ?_, rfl⟩
          have h1 := HD.out; have h2 := HN.out
          show _ = _
          unfold decm; simp only [h2, h1, if_false]
    case rest =>
      obtain ⟨p, rfl, hp, HP, rfl⟩ := hcut
      by_cases hp0 : p = 0
      · subst hp0
        go_wp2
        go_ret
        exact ⟨ret_int (by rw [HP.out]; rfl), rfl⟩
      · go_upto_region 10 with fail
        go_cut [51] (fun c wx => ∃ b : Bool, c = .bool b ∧ RowKit.Hid ((s.data.toList[p]? = some 101 ∨ s.data.toList[p]? = some 69) ↔ b = true) ∧ w = wx)
        case first =>
          by_cases hlt : p < s.size
          · have hg := Lib.hid (get_beq s p 101 hlt (by omega))
            have hg2 := Lib.hid (get_beq s p 69 hlt (by omega))
            go_wp2
            all_goals (go_meet; case rel => go_light; exact ⟨_, rfl, (by have h1 := hg.out; have h2 := hg2.out; simp_all : (_ ↔ _)), rfl⟩)
          · have hg := Lib.hid (get_end s p (by omega))
            go_wp2
            all_goals (go_meet; case rel => exact ⟨_, rfl, (by rw [hg.out]; simp : (_ ↔ _)), rfl⟩)
        case rest =>
          obtain ⟨b, rfl, HB, rfl⟩ := hcut
          cases b with
          | false =>
            go_wp2_with fail
            go_ret
            exact ⟨ret_int (by rw [HP.out, if_neg hp0]; unfold dexp; rw [if_neg (by have := HB.out; simpa using this)]), rfl⟩
          | true =>
            have hlt : p < s.size := by
              have := HB.out.2 rfl
              rcases this with h | h <;> (have := lt_of_get h; simpa using this)
            go_upto_region 12 with fail
            go_cut [69] (fun c wx => ∃ b : Bool, c = .bool b ∧ RowKit.Hid ((s.data.toList[p + 1]? = some 43 ∨ s.data.toList[p + 1]? = some 45) ↔ b = true) ∧ w = wx)
            case first =>
              by_cases hlt2 : p + 1 < s.size
              · have hg := Lib.hid (get_beq s (p + 1) 43 hlt2 (by omega))
                have hg2 := Lib.hid (get_beq s (p + 1) 45 hlt2 (by omega))
                go_wp2
                all_goals (go_meet; case rel => go_light; exact ⟨_, rfl, (by have h1 := hg.out; have h2 := hg2.out; simp_all : (_ ↔ _)), rfl⟩)
              · have hg := Lib.hid (get_end s (p + 1) (by omega))
                go_wp2
                all_goals (go_meet; case rel => exact ⟨_, rfl, (by rw [hg.out]; simp : (_ ↔ _)), rfl⟩)
            case rest =>
              obtain ⟨b, rfl, HB2, rfl⟩ := hcut
              obtain ⟨a1, ha1⟩ : ∃ a1, (if s.data.toList[p + 1]? = some 43 ∨ s.data.toList[p + 1]? = some 45 then p + 2 else p + 1) = a1 := ⟨_, rfl⟩
              obtain ⟨k, hk⟩ : ∃ k, digs (s.data.toList.drop a1) = k := ⟨_, rfl⟩
              have hkl : k ≤ s.size - a1 := hk ▸ HM.out a1
              have HA := Lib.hid ha1; have HK := Lib.hid hk; clear ha1 hk
              have hal : a1 ≤ s.size := by
                have h1 := HA.out
                split at h1
                · rename_i h
                  have : p + 1 < s.size := by rcases h with h | h <;> (have := lt_of_get h; simpa using this)
                  omega
                · omega
              have fin : RowKit.Hid (decm s.data.toList = if 0 < k then a1 + k else p) := by
                show _ = _
                rw [HP.out, if_neg hp0]; unfold dexp; rw [if_pos (HB.out.2 rfl)]; dsimp only; rw [HA.out, HK.out]
              cases b with
              | true =>
                have hA : a1 = p + 2 := by rw [← HA.out, if_pos (HB2.out.2 rfl)]
                subst hA
                go_wp2_with (go_at_call 40; refine (digits_d s _ hs _ k HK.out).mono ?_; rintro e w' ⟨rfl, rfl⟩)
                · go_ret
                  exact ⟨ret_int (by rw [fin.out, if_pos (by assumption)]; omega), rfl⟩
                · go_ret
                  exact ⟨ret_int (by rw [fin.out, if_neg (by assumption)]), rfl⟩
              | false =>
                have hA : a1 = p + 1 := by rw [← HA.out, if_neg (by have := HB2.out; simpa using this)]
                subst hA
                go_wp2_with (go_at_call 40; refine (digits_d s _ hs _ k HK.out).mono ?_; rintro e w' ⟨rfl, rfl⟩)
                · go_ret
                  exact ⟨ret_int (by rw [fin.out, if_pos (by assumption)]; omega), rfl⟩
                · go_ret
                  exact ⟨ret_int (by rw [fin.out, if_neg (by assumption)]), rfl⟩

end Go.Proofs.YtblpcpkkjbkakaaGreatDoor
/- The scanner's state in memory, and the next character where one lies ready. -/
namespace Go.Proofs.YtblpcpkkjbkakaaGreatDoor
open Go Go.RowKit
set_option linter.unusedVariables false
set_option linter.unusedSimpArgs false

/-- The text's bytes from place i up to place j. -/
def seg (s : ByteArray) (i j : Nat) : List UInt8 := (s.data.toList.drop i).take (j - i)

def upd (R : Nat → Option Value) (i : Nat) (x : Value) : Nat → Option Value := fun j => if j = i then some x else R j
theorem upd_at (R : Nat → Option Value) (i : Nat) (x : Value) : upd R i x i = some x := by simp [upd]
theorem upd_ne (R : Nat → Option Value) (i j : Nat) (x : Value) (h : j ≠ i) : upd R i x j = R j := by simp [upd, h]

abbrev IsB (B b : Nat) (R : Nat → Option Value) (tb : List UInt8) (w : World) : Prop := LibA.IsBuffer 104 R 5 B b 1033 (Lib.byteCells tb) w

theorem IsB.set {B b : Nat} {R : Nat → Option Value} {tb : List UInt8} {w : World} (h : IsB B b R tb w) (i : Nat) (hi : i < 1033 ∨ 1036 ≤ i) (hold : (R i).isSome = true) (x : Value) : IsB B b (upd R i x) tb (w.setCell ⟨b, i, none⟩ x) := by
  obtain ⟨o, ho⟩ := Option.isSome_iff_exists.1 hold
  exact h.setOther i (by omega) ho x

theorem at_cell {B b : Nat} {R : Nat → Option Value} {tb : List UInt8} {w : World} (h : IsB B b R tb w) {k : Nat} {v : Value} (hk : R k = some v) (hi : k < 1033 ∨ 1036 ≤ k) : w.cell? ⟨b, k, none⟩ = some v := (h.rest k (by omega)).trans hk

/-- What the scanner's own cells hold: the text s, the reader's block rb, the place pos of the en bytes that begin at off, the last character's length la. -/
structure Ok (s : ByteArray) (rb : Nat) (R : Nat → Option Value) (pos en off la : Nat) : Prop where
  src : R 0 = some (.iface 130 (.pointer (some ⟨rb, 0, none⟩)))
  buf : ∀ i, i < 1025 → ∃ x : UInt8, R (1 + i) = some (.int .u8 x.toNat)
  own : ∀ j, j < en → ∃ h : off + j < s.size, R (1 + j) = some (.int .u8 (s[off + j].toNat))
  guard : R (1 + en) = some (.int .u8 128)
  cpos : R 1026 = some (.int .i64 pos)
  cen : R 1027 = some (.int .i64 en)
  coff : R 1028 = some (.int .i64 off)
  cline : ∃ x, R 1029 = some (.int .i64 x)
  ccol : ∃ x, R 1030 = some (.int .i64 x)
  clast : ∃ x, R 1031 = some (.int .i64 x)
  cla : R 1032 = some (.int .i64 la)
  hpos : pos ≤ en
  hen : en ≤ 1024
  hoff : off + en ≤ s.size
  hs : s.size ≤ 2000
  hla : la ≤ pos
  hla1 : la ≤ 1

/-- A round's end: the bytes stand, the counters have turned. -/
theorem Ok.turn {s : ByteArray} {rb : Nat} {R R' : Nat → Option Value} {pos en off la pos' la' : Nat} (h : Ok s rb R pos en off la) (hR : ∀ k, k < 1026 ∨ k = 1027 ∨ k = 1028 → R' k = R k)
    (c26 : R' 1026 = some (.int .i64 pos')) (c29 : ∃ x, R' 1029 = some (.int .i64 x)) (c30 : ∃ x, R' 1030 = some (.int .i64 x)) (c31 : ∃ x, R' 1031 = some (.int .i64 x)) (c32 : R' 1032 = some (.int .i64 la'))
    (hp : pos' ≤ en) (hl : la' ≤ pos') (hl1 : la' ≤ 1) : Ok s rb R' pos' en off la' where
  src := (hR 0 (by omega)).trans h.src
  buf := fun i hi => by obtain ⟨x, hx⟩ := h.buf i hi; exact ⟨x, (hR _ (by omega)).trans hx⟩
  own := fun j hj => by obtain ⟨x, hx⟩ := h.own j hj; exact ⟨x, (hR _ (by have := h.hen; omega)).trans hx⟩
  guard := (hR _ (by have := h.hen; omega)).trans h.guard
  cpos := c26
  cen := (hR _ (by omega)).trans h.cen
  coff := (hR _ (by omega)).trans h.coff
  cline := c29
  ccol := c30
  clast := c31
  cla := c32
  hpos := hp
  hen := h.hen
  hoff := h.hoff
  hs := h.hs
  hla := hl
  hla1 := hl1

/-- The token under way: none, or one that began at place t of the text. -/
def Tk (s : ByteArray) (R : Nat → Option Value) (tb : List UInt8) (pos off : Nat) : Option Nat → Prop
  | none => R 1036 = some (.int .i64 (-1))
  | some t => ∃ tp : Nat, R 1036 = some (.int .i64 tp) ∧ tp ≤ pos ∧ t ≤ off + tp ∧ tb = seg s t (off + tp)

theorem Tk.mono {s : ByteArray} {R : Nat → Option Value} {tb : List UInt8} {pos pos' off : Nat} {T : Option Nat} (h : Tk s R tb pos off T) (hp : pos ≤ pos') : Tk s R tb pos' off T := by
  cases T with
  | none => exact h
  | some t => obtain ⟨tp, h1, h2, h3⟩ := h; exact ⟨tp, h1, Nat.le_trans h2 hp, h3⟩

/-- The scanner over the text s: q bytes read, the last character's length la, the token T; F says what the cells from 1037 on hold. -/
def St (s : ByteArray) (rb B b : Nat) (F : Nat → Option Value) (q la : Nat) (T : Option Nat) (w : World) : Prop :=
  ∃ R pos en off tb, IsB B b R tb w ∧ Ok s rb R pos en off la ∧ Tk s R tb (pos - la) off T ∧ off + pos = q ∧ (∀ k, 1037 ≤ k → R k = F k) ∧ B ≤ rb ∧ rb ≠ b ∧
    ∃ p : Int, w.heap[rb]? = some (.cells #[.string s, .int .i64 (off + en : Nat), .int .i64 p] 154 (0, 0))

/-- What stands: all blocks below B; and of the others all but the parser's, the reader's and rows of bytes. -/
def Fr (B b rb : Nat) (w w' : World) : Prop := Below B w w' ∧ ∀ k o, w.heap[k]? = some o → k ≠ b → k ≠ rb → (∀ c fz, o ≠ .cells c 5 fz) → w'.heap[k]? = some o

theorem Fr.refl (B b rb : Nat) (w : World) : Fr B b rb w w := ⟨Below.refl B w, fun _ _ h _ _ _ => h⟩
theorem Fr.trans {B b rb : Nat} {w w1 w2 : World} (h : Fr B b rb w w1) (k : Fr B b rb w1 w2) : Fr B b rb w w2 :=
  ⟨h.1.trans k.1, fun i o hi h1 h2 h3 => k.2 i o (h.2 i o hi h1 h2 h3) h1 h2 h3⟩
theorem Fr.drewN {B b rb : Nat} {w w1 : World} (h : Fr B b rb w w1) (n : Nat) : Fr B b rb w (w1.drewN n) := ⟨below_drewN h.1 n, h.2⟩
theorem Fr.set {B b rb : Nat} {w w1 : World} (h : Fr B b rb w w1) (hB : B ≤ b) (i : Nat) (v : Value) : Fr B b rb w (w1.setCell ⟨b, i, none⟩ v) :=
  ⟨h.1.setCell (p := ⟨b, i, none⟩) hB v, fun k o hk h1 h2 h3 => by rw [Below.heap_setCell _ _ _ _ (fun e => h1 e)]; exact h.2 k o hk h1 h2 h3⟩
theorem Fr.setRb {B b rb : Nat} {w w1 : World} (h : Fr B b rb w w1) (hB : B ≤ rb) (i : Nat) (v : Value) : Fr B b rb w (w1.setCell ⟨rb, i, none⟩ v) :=
  ⟨h.1.setCell (p := ⟨rb, i, none⟩) hB v, fun k o hk h1 h2 h3 => by rw [Below.heap_setCell _ _ _ _ (fun e => h2 e)]; exact h.2 k o hk h1 h2 h3⟩
theorem Fr.of {B b rb : Nat} {w w1 : World} (h : Below B w w1) (k : Lib.OthersKept 5 (some b) w w1) : Fr B b rb w w1 :=
  ⟨h, fun i o hi h1 h2 h3 => k i o hi (fun e => h1 (Option.some.inj e)) h3⟩

/-- The character at place q of the text, or the end's sign. -/
def chr (s : ByteArray) (q : Nat) : Int := if h : q < s.size then s[q].toNat else -1
def nx (s : ByteArray) (q : Nat) : Nat := if q < s.size then q + 1 else q
def nl (s : ByteArray) (q : Nat) : Nat := if q < s.size then 1 else 0
def Plain (s : ByteArray) : Prop := ∀ i (h : i < s.size), 0 < s[i].toNat ∧ s[i].toNat < 128

def NextPost (s : ByteArray) (rb B b : Nat) (F : Nat → Option Value) (q : Nat) (T : Option Nat) (w : World) (e : Ending) (w' : World) : Prop :=
  e = .returned (.int .i32 (chr s q)) ∧ St s rb B b F (nx s q) (nl s q) T w' ∧ Fr B b rb w w'

set_option maxRecDepth 100000 in
set_option maxHeartbeats 2000000 in
theorem next_in (s : ByteArray) (rb B b : Nat) (F R : Nat → Option Value) (pos en off la : Nat) (tb : List UInt8) (T : Option Nat) (w : World)
    (hI : IsB B b R tb w) (hk : Ok s rb R pos en off la) (hT : Tk s R tb pos off T) (hF : ∀ k, 1037 ≤ k → R k = F k) (hrb : B ≤ rb) (hne : rb ≠ b)
    (hr : ∃ p : Int, w.heap[rb]? = some (.cells #[.string s, .int .i64 (off + en : Nat), .int .i64 p] 154 (0, 0))) (hp : pos < en) (ha : Plain s) :
    Calls Tryz.prog 86 #[.pointer (some ⟨b, 0, none⟩)] w (NextPost s rb B b F (off + pos) T w) := by
  have c26 := at_cell hI hk.cpos (by omega)
  obtain ⟨hj, h1⟩ := hk.own pos hp
  have c1 : w.cell? ⟨b, 1 + pos, none⟩ = _ := at_cell hI h1 (by have := hk.hen; omega)
  obtain ⟨col, hcol⟩ := hk.ccol
  have c30 := at_cell hI hcol (by omega)
  obtain ⟨line, hline⟩ := hk.cline
  have c29 := at_cell hI hline (by omega)
  obtain ⟨last, hlast⟩ := hk.clast
  have c31 := at_cell hI hlast (by omega)
  have c32 := at_cell hI hk.cla (by omega)
  have f26 := hI.notFrozen 1026
  have f29 := hI.notFrozen 1029
  have f30 := hI.notFrozen 1030
  have f31 := hI.notFrozen 1031
  have f32 := hI.notFrozen 1032
  obtain ⟨x, hx⟩ : ∃ x : Int, x = s[off + pos].toNat := ⟨_, rfl⟩
  have hx1 : 0 < x := by have := (ha _ hj).1; omega
  have hx2 : x < 128 := by have := (ha _ hj).2; omega
  rw [← hx] at c1
  have hwx : wrap32 x = x := by unfold wrap32; omega
  have hpos := hk.hpos
  have hen := hk.hen
  have hB := hI.1
  have hc : chr s (off + pos) = x := by unfold chr; rw [dif_pos hj, hx]
  have hn : nx s (off + pos) = off + (pos + 1) := by unfold nx; rw [if_pos hj]; omega
  have hl : nl s (off + pos) = 1 := by unfold nl; rw [if_pos hj]
  have Hfin : ∀ (R' : Nat → Option Value) (w' : World), IsB B b R' tb w' → Ok s rb R' (pos + 1) en off 1 → (∀ k, 1036 ≤ k → R' k = R k) → w'.heap[rb]? = w.heap[rb]? → Fr B b rb w w' → NextPost s rb B b F (off + pos) T w (.returned (.int .i32 x)) w' := by
    intro R' w' hI' hk' hR' hh hfr
    have hT' : Tk s R' tb (pos + 1 - 1) off T := by
      cases T with
      | none => exact (hR' _ (by omega)).trans hT
      | some t =>
        obtain ⟨tp, h1, h2, h3, h4⟩ := hT
        exact ⟨tp, (hR' _ (by omega)).trans h1, by omega, h3, h4⟩
    exact ⟨by rw [hc], ⟨R', pos + 1, en, off, tb, hI', by rw [hl]; exact hk', by rw [hl]; exact hT', hn.symm, fun k hk1 => (hR' k (by omega)).trans (hF k hk1), hrb, hne, by rw [hh]; exact hr⟩, hfr⟩
  have HF := Lib.hid Hfin; clear Hfin
  have HX := Lib.hid hx; clear hx
  have HK := Lib.hid hk; clear hk
  have HI := Lib.hid hI; clear hI
  have HC := Lib.hid hcol; clear hcol
  have HL := Lib.hid hline; clear hline
  have HA := Lib.hid hlast; clear hlast
  clear h1 hr hT hF hc hn hl ha
  go_enter Tryz.func86, Tryz.ntmps86
  go_wp2_with fail
  go_quiet (fail)
  clear hwx
  by_cases hnl : x = 10
  · subst hnl
    go_wp2_with fail
    go_light
    go_ret
    refine HF.out (upd (upd (upd (upd (upd (upd R 1026 (.int .i64 (pos + 1))) 1032 (.int .i64 1)) 1030 (.int .i64 (wrap64 (col + 1)))) 1029 (.int .i64 (wrap64 (line + 1)))) 1031 (.int .i64 (wrap64 (col + 1)))) 1030 (.int .i64 0)) _ ?_ ?_ ?_ ?_ ?_
    · refine IsB.set (IsB.set (IsB.set (IsB.set (IsB.set (IsB.set (HI.out.drewN nq) 1026 (by omega) ?_ _) 1032 (by omega) ?_ _) 1030 (by omega) ?_ _) 1029 (by omega) ?_ _) 1031 (by omega) ?_ _) 1030 (by omega) ?_ _ <;>
        simp [upd, HK.out.cpos, HK.out.cla, HC.out, HL.out, HA.out]
    · refine HK.out.turn (fun k hk1 => ?_) ?_ ?_ ?_ ?_ ?_ (by omega) (by omega) (by omega)
      · simp only [upd]; repeat rw [if_neg (by omega)]
      all_goals simp [upd]
    · intro k hk1; simp only [upd]; repeat rw [if_neg (by omega)]
    · repeat rw [Below.heap_setCell _ _ _ _ hne]
      rfl
    · exact ((((((((Fr.refl B b rb w).drewN nq).set hB _ _).set hB _ _).set hB _ _).set hB _ _).set hB _ _).set hB _ _)
  · go_wp2_with fail
    go_light
    go_ret
    refine HF.out (upd (upd (upd R 1026 (.int .i64 (pos + 1))) 1032 (.int .i64 1)) 1030 (.int .i64 (wrap64 (col + 1)))) _ ?_ ?_ ?_ ?_ ?_
    · refine IsB.set (IsB.set (IsB.set (HI.out.drewN nq) 1026 (by omega) ?_ _) 1032 (by omega) ?_ _) 1030 (by omega) ?_ _ <;>
        simp [upd, HK.out.cpos, HK.out.cla, HC.out, HL.out, HA.out]
    · refine HK.out.turn (fun k hk1 => ?_) ?_ ?_ ?_ ?_ ?_ (by omega) (by omega) (by omega)
      · simp only [upd]; repeat rw [if_neg (by omega)]
      · simp [upd]
      · simp [upd, HL.out]
      · simp [upd]
      · simp [upd, HA.out]
      · simp [upd]
    · intro k hk1; simp only [upd]; repeat rw [if_neg (by omega)]
    · repeat rw [Below.heap_setCell _ _ _ _ hne]
      rfl
    · exact (((((Fr.refl B b rb w).drewN nq).set hB _ _).set hB _ _).set hB _ _)

end Go.Proofs.YtblpcpkkjbkakaaGreatDoor
/- The reader over a string. -/
namespace Go.Proofs.YtblpcpkkjbkakaaGreatDoor
open Go Go.RowKit
set_option linter.unusedVariables false
set_option linter.unusedSimpArgs false

/-- 'copy(dst, s)', s a string of whatever length: as many bytes go over as fit. -/
theorem run_copy_string_min {P : Program} (w : World) (dT sT ty elem : TypeId) (b o dLen dCap : Nat) (t : ByteArray) (n : Nat) (hn : n = Nat.min t.size dLen)
    (hu : P.underlying dT = some (.slice elem)) (hz : ∀ w, (Go.sizeOf elem).run P w = .ok 1 w)
    (hc : ∀ j, j < n → (w.cell? ⟨b, o + j, none⟩).isSome = true) (hf : ∀ j, j < n → w.frozen? ⟨b, o + j, none⟩ = false) :
    (Builtin.copy_ #[dT, sT] ty #[.slice (some ⟨b, o, none⟩) dLen dCap, .string t]).run P w = .ok (goInt n) (w.setCells b o ((t.data.toList.take n).map fun x => Value.int .u8 (x.toNat : Int))) := by
  subst hn
  have hl : ((t.data.toList.take (Nat.min t.size dLen)).map fun x => Value.int .u8 (x.toNat : Int)).length = Nat.min t.size dLen := by
    rw [List.length_map, List.length_take, ← Lib.size_eq]; exact Nat.min_eq_left (Nat.min_le_left _ _)
  have hst := run_storeCells_cells (P := P) b o ((t.data.toList.take (Nat.min t.size dLen)).map fun x => Value.int .u8 (x.toNat : Int)) 0 w (by rw [hl]; simpa using hc) (by rw [hl]; simpa using hf) (by
    intro v hv
    obtain ⟨x, _, rfl⟩ := List.mem_map.1 hv
    rfl)
  simp [Builtin.copy_, run_underlying hu, Builtin.lenOf, Builtin.firstCells, hz]
  rw [List.map_take, Nat.add_zero] at hst
  rw [hst]
  rfl

theorem info5 : (Tryz.prog.info? 5).map (fun i => (i.zero, i.size, i.bytes)) = some (some (.int .u8 0), 1, 1) := by kernel_rfl
theorem size5 : ∀ w, (Go.sizeOf 5).run Tryz.prog w = .ok 1 w := by
  obtain ⟨i0, hi, hz0, hz1, hz2⟩ := info_parts info5
  intro w
  simp [sizeOf, typeInfo, hi, hz1]

/-- The bytes of s from place i on, n of them. -/
def srow (s : ByteArray) (i n : Nat) : List Value := ((s.extract i s.size).data.toList.take n).map fun x => Value.int .u8 (x.toNat : Int)

def ReadPost (s : ByteArray) (rb b o i n : Nat) (w : World) (e : Ending) (w' : World) : Prop :=
  e = .returned (.tuple #[.int .i64 n, .nilIface]) ∧ ∃ d1 d2 d3, w' = (((((w.drewN d1).setCell ⟨rb, 2, none⟩ (.int .i64 (-1))).drewN d2).setCells b o (srow s i n)).drewN d3).setCell ⟨rb, 1, none⟩ (.int .i64 (i + n : Nat))

set_option maxRecDepth 100000 in
set_option maxHeartbeats 2000000 in
theorem read_more (s : ByteArray) (rb b o L C i n : Nat) (p : Int) (w : World) (hs : s.size ≤ 2000) (hL : L ≤ 1024) (hb : rb ≠ b)
    (c0 : w.cell? ⟨rb, 0, none⟩ = some (.string s)) (c1 : w.cell? ⟨rb, 1, none⟩ = some (.int .i64 i)) (c2 : w.cell? ⟨rb, 2, none⟩ = some (.int .i64 p))
    (f1 : w.frozen? ⟨rb, 1, none⟩ = false) (f2 : w.frozen? ⟨rb, 2, none⟩ = false) (hi : i < s.size) (hn : n = Nat.min (s.size - i) L)
    (hc : ∀ j, j < n → (w.cell? ⟨b, o + j, none⟩).isSome = true) (hf : ∀ j, j < n → w.frozen? ⟨b, o + j, none⟩ = false) :
    Calls Tryz.prog 204 #[.pointer (some ⟨rb, 0, none⟩), .slice (some ⟨b, o, none⟩) L C] w (ReadPost s rb b o i n w) := by
  have hn' : n = Nat.min (s.extract i s.size).size L := by rw [hn, size_ext]
  have hn1 : n ≤ L := by rw [hn]; exact Nat.min_le_right _ _
  have hn2 : i + n ≤ s.size := by have : n ≤ s.size - i := by rw [hn]; exact Nat.min_le_left _ _
                                  omega
  clear hn
  have HN := Lib.hid hn'; clear hn'
  go_enter Tryz.func204, Tryz.ntmps204
  go_wp2_with fail
  go_quiet (fail)
  go_wp2_with fail
  have c0' : ((w.drewN nq).setCell ⟨rb, 2, none⟩ (.int .i64 (-1))).cell? ⟨rb, 0, none⟩ = some (.string s) := by rw [World.cell?_setCell_other _ _ _ _ (by simp)]; exact c0
  have c1' : ((w.drewN nq).setCell ⟨rb, 2, none⟩ (.int .i64 (-1))).cell? ⟨rb, 1, none⟩ = some (.int .i64 i) := by rw [World.cell?_setCell_other _ _ _ _ (by simp)]; exact c1
  have f1' : ((w.drewN nq).setCell ⟨rb, 2, none⟩ (.int .i64 (-1))).frozen? ⟨rb, 1, none⟩ = false := by rw [World.frozen?_setCell]; exact f1
  have hc' : ∀ j, j < n → (((w.drewN nq).setCell ⟨rb, 2, none⟩ (.int .i64 (-1))).cell? ⟨b, o + j, none⟩).isSome = true := fun j hj => by rw [World.cell?_setCell_other _ _ _ _ (by simp [hb.symm])]; exact hc j hj
  have hf' : ∀ j, j < n → ((w.drewN nq).setCell ⟨rb, 2, none⟩ (.int .i64 (-1))).frozen? ⟨b, o + j, none⟩ = false := fun j hj => by rw [World.frozen?_setCell]; exact hf j hj
  obtain ⟨W, hW⟩ : ∃ W, (w.drewN nq).setCell ⟨rb, 2, none⟩ (.int .i64 (-1)) = W := ⟨_, rfl⟩
  rw [hW] at c0' c1' f1' ⊢
  simp only [hW] at hc' hf'
  have HW := Lib.hid hW; clear hW c0 c1 c2 f1 f2 hc hf
  have HC := Lib.hid hc'; clear hc'
  have HF := Lib.hid hf'; clear hf'
  go_still_tail 10, (by kernel_rfl)
  refine wpStill_step (fun K hK => ?_)
  go_simp
  rw [if_pos (show i ≤ s.size by omega)]
  refine ⟨rfl, hK _ ?_⟩
  clear hK K
  refine wpStill_nil ?_
  have hcp := run_copy_string_min (P := Tryz.prog) W.drew 85 9 3 5 b o L C (s.extract i s.size) n HN.out Tryz.underlying85 size5 HC.out HF.out
  have c1'' : (W.drew.setCells b o (srow s i n)).cell? ⟨rb, 1, none⟩ = some (.int .i64 i) := (World.cell?_setCells_out b _ o _ _ (fun h1 _ => absurd h1 hb)).trans c1'
  have f1'' : (W.drew.setCells b o (srow s i n)).frozen? ⟨rb, 1, none⟩ = false := (World.frozen?_setCells b _ o _ _).trans f1'
  change _ = Result.ok (goInt n) (W.drew.setCells b o (srow s i n)) at hcp
  change wpList _ _ _ _ _ W.drew
  obtain ⟨W3, hW3⟩ : ∃ W3, W.drew.setCells b o (srow s i n) = W3 := ⟨_, rfl⟩
  rw [hW3] at c1'' f1'' hcp
  obtain ⟨W2, hW2⟩ : ∃ W2, W.drew = W2 := ⟨_, rfl⟩
  rw [hW2] at hcp ⊢
  have HW2 := Lib.hid hW2; clear hW2
  have HW3 := Lib.hid hW3; clear hW3
  go_wp2_with fail
  go_light
  go_ret2
  refine ⟨rfl, nq, 1, 0, ?_⟩
  rw [← HW3.out, ← HW.out]
  rfl

theorem read_end (s : ByteArray) (rb L C i : Nat) (a : Option Addr) (ev : Value) (w : World) (hs : s.size ≤ 2000)
    (c0 : w.cell? ⟨rb, 0, none⟩ = some (.string s)) (c1 : w.cell? ⟨rb, 1, none⟩ = some (.int .i64 i)) (hE : w.cell? ⟨4, 0, none⟩ = some ev) (hi : s.size ≤ i) :
    Calls Tryz.prog 204 #[.pointer (some ⟨rb, 0, none⟩), .slice a L C] w fun e w' => e = .returned (.tuple #[.int .i64 0, ev]) ∧ ∃ d1 d2, w' = (w.drewN d1).drewN d2 := by
  go_enter Tryz.func204, Tryz.ntmps204
  go_wp2_with fail
  go_quiet (fail)
  go_wp2_with fail
  go_quiet (fail)
  go_wp2_with fail
  go_light
  go_ret2
  exact ⟨rfl, _, _, rfl⟩

end Go.Proofs.YtblpcpkkjbkakaaGreatDoor
